import JvmDerived
import JvmDerived.Pilot.@@N@@Statement
import JvmDerived.Pilot.@@N@@Code
set_option linter.unusedVariables false
set_option linter.unusedSimpArgs false

namespace Jvm.Pilot.@@N@@
open Jvm Jvm.ClassFile Sem Op Lib Jvm.Free Jvm.Stand Jvm.LawKit Jvm.RoadKit Bundle Jvm.Pilot.@@N@@.Jvm.D
/-! continuation style: from A the run comes to a state of which K holds -/
def own_Go (tb : Tables) (e : Env) (below : List Frame) (K : State → Prop) (A : State) : Prop := ∃ U, Steps tb e below A U ∧ K U
theorem own_by {tb : Tables} {e : Env} {below : List Frame} {K : State → Prop} {A B : State} (h : ∀ t, Steps tb e below B t → Steps tb e below A t) (k : own_Go tb e below K B) : own_Go tb e below K A := by
  obtain ⟨U, s, q⟩ := k; exact ⟨U, h U s, q⟩
def own_K (s : State) (below : List Frame) (Q : Option Value → Heap → List Loc → Prop) (kc ks : Nat) (U : State) : Prop :=
  ∃ v L, U.status = .running ∧ Ended U below (.returned v) ∧ Q v U.heap L ∧ FrameEnd s (.returned v) U L kc ks
theorem own_done {tb : Tables} {e : Env} {below : List Frame} {s A B : State} {Q : Option Value → Heap → List Loc → Prop} {kc ks : Nat} (h : ∀ t, Steps tb e below B t → Steps tb e below A t) (k : own_Go tb e below (own_K s below Q kc ks) B) :
    ∃ s₂ o, Steps tb e below A s₂ ∧ s₂.status = .running ∧ Ended s₂ below o ∧ ∃ v L, o = .returned v ∧ Q v s₂.heap L ∧ FrameEnd s o s₂ L kc ks := by
  obtain ⟨U, st, v, L, h1, h2, h3, h4⟩ := k
  exact ⟨U, _, h U st, h1, h2, v, L, rfl, h3, h4⟩
theorem own_ne {a b : Nat} (h : a < b ∨ b < a) : a ≠ b := by omega
theorem own_lt {a b : Nat} (h : a < b) : a < b := h
theorem own_cat1 (x : Int32) : Value.category (.int x) = 1 := rfl
theorem own_cat2 (x : Nat) : Value.category (.ref x) = 1 := rfl
theorem own_cat3 : Value.category .null = 1 := rfl
theorem own_cat4 (x : Int64) : Value.category (.long x) = 2 := rfl
section OwnRet
variable {p : Program} {l : Launch} {e : Env} {R : Room} {s : State} {m : MethodId} {args : Array Value} {below : List Frame} {meth : Method} {c : Code} {T : State} {locs : List Loc} {cells slots : Nat} {Q : Option Value → Heap → List Loc → Prop} {kc ks : Nat}
theorem own_retW (X : Stand p l e R s m args below meth c T locs cells slots) (hx : p.tables.exec = Jvm.exec) {pc : Nat} {Ls : Array Slot} {w : Value} {t : FieldType} {i : Instr} {rest : List Value} (hrt : meth.sig.returnType = some t) (hlk : meth.locks = false) (hn : narrow t w = w)
    (hi : (i = .ireturn ∧ (t = .int ∨ t = .boolean ∨ t = .byte ∨ t = .char ∨ t = .short) ∧ ∃ z, w = .int z) ∨ (i = .lreturn ∧ t = .long ∧ ∃ z, w = .long z) ∨ (i = .dreturn ∧ t = .double ∧ ∃ z, w = .double z) ∨ (i = .freturn ∧ t = .float ∧ ∃ z, w = .float z) ∨ (i = .areturn ∧ t.isReference = true ∧ w.isRef = true))
    (hd : decode c.code pc = .ok (i, 1)) (hc : cells ≤ kc) (hs : slots ≤ ks) (hq : Q (some w) T.heap locs) :
    own_Go p.tables e below (own_K s below Q kc ks) (T.setTop (mkF m pc Ls (w :: rest))) := by
  obtain ⟨fs, hr, hrun, hended, hW, hsame⟩ := X.leave (v := some w) (fun h => by rw [hrt] at h; cases h) hlk
  exact ⟨_, retOut X hx hrt hn hi hd hr, some w, locs, hrun, hended, hq, ⟨_, rfl⟩, hW, hsame.mono hc hs⟩
theorem own_retI (X : Stand p l e R s m args below meth c T locs cells slots) (hx : p.tables.exec = Jvm.exec) {pc : Nat} {Ls : Array Slot} {z : Int32} {rest : List Value} (hrt : meth.sig.returnType = some .int) (hlk : meth.locks = false)
    (hd : decode c.code pc = .ok (.ireturn, 1)) (hc : cells ≤ kc) (hs : slots ≤ ks) (hq : Q (some (.int z)) T.heap locs) :
    own_Go p.tables e below (own_K s below Q kc ks) (T.setTop (mkF m pc Ls (.int z :: rest))) :=
  own_retW X hx hrt hlk rfl (Or.inl ⟨rfl, Or.inl rfl, _, rfl⟩) hd hc hs hq
theorem own_retZ (X : Stand p l e R s m args below meth c T locs cells slots) (hx : p.tables.exec = Jvm.exec) {pc : Nat} {Ls : Array Slot} {z : Int32} {rest : List Value} (hrt : meth.sig.returnType = some .boolean) (hlk : meth.locks = false) (hn : narrow .boolean (.int z) = .int z)
    (hd : decode c.code pc = .ok (.ireturn, 1)) (hc : cells ≤ kc) (hs : slots ≤ ks) (hq : Q (some (.int z)) T.heap locs) :
    own_Go p.tables e below (own_K s below Q kc ks) (T.setTop (mkF m pc Ls (.int z :: rest))) :=
  own_retW X hx hrt hlk hn (Or.inl ⟨rfl, Or.inr (Or.inl rfl), _, rfl⟩) hd hc hs hq
theorem own_retJ (X : Stand p l e R s m args below meth c T locs cells slots) (hx : p.tables.exec = Jvm.exec) {pc : Nat} {Ls : Array Slot} {z : Int64} {rest : List Value} (hrt : meth.sig.returnType = some .long) (hlk : meth.locks = false)
    (hd : decode c.code pc = .ok (.lreturn, 1)) (hc : cells ≤ kc) (hs : slots ≤ ks) (hq : Q (some (.long z)) T.heap locs) :
    own_Go p.tables e below (own_K s below Q kc ks) (T.setTop (mkF m pc Ls (.long z :: rest))) :=
  own_retW X hx hrt hlk rfl (Or.inr (Or.inl ⟨rfl, rfl, _, rfl⟩)) hd hc hs hq
theorem own_retA (X : Stand p l e R s m args below meth c T locs cells slots) (hx : p.tables.exec = Jvm.exec) {pc : Nat} {Ls : Array Slot} {w : Value} {t : FieldType} {rest : List Value} (hrt : meth.sig.returnType = some t) (ht : t.isReference = true) (hw : w.isRef = true) (hlk : meth.locks = false)
    (hd : decode c.code pc = .ok (.areturn, 1)) (hc : cells ≤ kc) (hs : slots ≤ ks) (hq : Q (some w) T.heap locs) :
    own_Go p.tables e below (own_K s below Q kc ks) (T.setTop (mkF m pc Ls (w :: rest))) :=
  own_retW X hx hrt hlk (by rcases ref_cases hw with rfl | ⟨a, rfl⟩ <;> cases t <;> first | rfl | (cases ht)) (Or.inr (Or.inr (Or.inr (Or.inr ⟨rfl, ht, hw⟩)))) hd hc hs hq
theorem own_retV (X : Stand p l e R s m args below meth c T locs cells slots) (hx : p.tables.exec = Jvm.exec) {pc : Nat} {Ls : Array Slot} (hrt : meth.sig.returnType = none) (hlk : meth.locks = false)
    (hd : decode c.code pc = .ok (.return_, 1)) (hc : cells ≤ kc) (hs : slots ≤ ks) (hq : Q none T.heap locs) :
    own_Go p.tables e below (own_K s below Q kc ks) (T.setTop (mkF m pc Ls [])) := by
  obtain ⟨fs, hr, hrun, hended, hW, hsame⟩ := X.leave (v := none) (fun _ => rfl) hlk
  exact ⟨_, X.returnOut hx hrt hd hr, none, locs, hrun, hended, hq, ⟨_, rfl⟩, hW, hsame.mono hc hs⟩
theorem own_retB (X : Stand p l e R s m args below meth c T locs cells slots) (hx : p.tables.exec = Jvm.exec) {pc : Nat} {Ls : Array Slot} {z : Int32} {rest : List Value} (hrt : meth.sig.returnType = some .boolean) (hlk : meth.locks = false)
    (hd : decode c.code pc = .ok (.ireturn, 1)) (hc : cells ≤ kc) (hs : slots ≤ ks) (hq : Q (some (.int (z &&& (1 : Int32)))) T.heap locs) :
    own_Go p.tables e below (own_K s below Q kc ks) (T.setTop (mkF m pc Ls (.int z :: rest))) := by
  obtain ⟨fs, hr, hrun, hended, hW, hsame⟩ := X.leave (v := some (.int (nar .boolean z))) (fun h => by rw [hrt] at h; cases h) hlk
  exact ⟨_, retN X hx (t := .boolean) hrt (Or.inl rfl) hd hr, some (.int (nar .boolean z)), locs, hrun, hended, hq, ⟨_, rfl⟩, hW, hsame.mono hc hs⟩
end OwnRet
def own_P (r : Value) (h0 : Heap) (n0 : Nat) (v : Option Value) (h : Heap) (L : List Loc) : Prop := v = some r ∧ Fr n0 L ∧ h = h0
theorem own_selpriv {Z : State} {a0 : Array Value} {y : MethodName} {n : Nat} (wi : (Cond.instantiable y.cls n).before a0 Z = true) (wp : (Cond.privateMethod y).before a0 Z = true) (wm : (Cond.instanceMethod y).before a0 Z = true) (hy : y.cls ≠ "java/lang/invoke/MethodHandle" ∧ y.cls ≠ "java/lang/invoke/VarHandle") : (Cond.selects y.cls y y).before a0 Z = true := by
  obtain ⟨c, k, h1, h2, h3, h4, -⟩ := Cond.instantiable_spec wi
  exact selects_self_of_private h1 h2 (Bool.or_eq_false_iff.mp h4).1 (Cond.privateMethod_at wp) wm hy
theorem own_old_le {Z : State} {n0 : Nat} {h : Heap} (O : Old Z n0 h) : n0 ≤ h.size := by rw [← O.1]; exact O.2.1

def own_PV (h0 : Heap) (n0 : Nat) (v : Option Value) (h : Heap) (L : List Loc) : Prop := v = none ∧ Fr n0 L ∧ h = h0

theorem own_mod (x n : Int32) (hn : 0 < n.toInt) : 0 ≤ ((x &&& (2147483647 : Int32)) % n).toInt ∧ ((x &&& (2147483647 : Int32)) % n).toInt < n.toInt := by
  have h0 := (c_and x (2147483647 : Int32) (by decide)).1
  have h1 := (c_iremV (x &&& (2147483647 : Int32)) n).1 h0 hn
  exact ⟨h1.1, h1.2.1⟩

/-! the plain law: what k / d is, for 1 ≤ k ≤ d ≤ 1024 -/
theorem own_scale {c d K D : Nat} {q r : Int} (na : c * 2 ^ q.toNat = K * 2 ^ (-q).toNat) (nb : d * 2 ^ r.toNat = D * 2 ^ (-r).toNat) : c * D * 2 ^ (q - r - 0).toNat = K * d * 2 ^ (0 - (q - r)).toNat := by
  have h1 : c * D * 2 ^ (q.toNat + (-r).toNat) = K * d * 2 ^ ((-q).toNat + r.toNat) := by
    rw [Nat.pow_add, Nat.pow_add]
    calc c * D * (2 ^ q.toNat * 2 ^ (-r).toNat) = (c * 2 ^ q.toNat) * (D * 2 ^ (-r).toNat) := by ac_rfl
      _ = (K * 2 ^ (-q).toNat) * (d * 2 ^ r.toNat) := by rw [na, ← nb]
      _ = K * d * (2 ^ (-q).toNat * 2 ^ r.toNat) := by ac_rfl
  obtain ⟨X, hX1, hX2⟩ : ∃ X, q.toNat + (-r).toNat = (q - r - 0).toNat + X ∧ (-q).toNat + r.toNat = (0 - (q - r)).toNat + X := ⟨q.toNat + (-r).toNat - (q - r - 0).toNat, by omega, by omega⟩
  rw [hX1, hX2, Nat.pow_add, Nat.pow_add, ← Nat.mul_assoc, ← Nat.mul_assoc] at h1
  exact Nat.eq_of_mul_eq_mul_right (Nat.two_pow_pos X) h1
theorem own_quot (vk vd : Int32) (hk : 1 ≤ vk.toInt) (hd : 1 ≤ vd.toInt) : FP.Core.val64 (FP.ddiv (FP.i2d vk) (FP.i2d vd)) = FP.Core.roundRatio FP.Core.b64 false vk.toInt.toNat vd.toInt.toNat 0 := by
  have a : FP.Core.Whole vk.toInt (FP.Core.val64 (FP.Core.i2d vk)) := FP.Core.i2d_int vk
  have b : FP.Core.Whole vd.toInt (FP.Core.val64 (FP.Core.i2d vd)) := FP.Core.i2d_int vd
  refine (FP.Core.val64_ddiv (FP.Core.i2d vk) (FP.Core.i2d vd)).trans ?_
  generalize FP.Core.val64 (FP.Core.i2d vk) = x at a ⊢
  generalize FP.Core.val64 (FP.Core.i2d vd) = y at b ⊢
  cases x with
  | nan => exact a.elim
  | inf s => exact a.elim
  | fin s c q =>
    cases y with
    | nan => exact b.elim
    | inf t => exact b.elim
    | fin t d r =>
      have na := FP.Core.whole_natAbs a
      have nb := FP.Core.whole_natAbs b
      have sa : s = false := (FP.Core.whole_sign a (by omega)).trans (decide_eq_false (by omega))
      have sb : t = false := (FP.Core.whole_sign b (by omega)).trans (decide_eq_false (by omega))
      have zb := FP.Core.whole_zero b
      have hd0 : ¬ d = 0 := fun q => by have := zb.mp q; omega
      subst sa sb
      rw [show vk.toInt.natAbs = vk.toInt.toNat by omega] at na
      rw [show vd.toInt.natAbs = vd.toInt.toNat by omega] at nb
      have e : FP.Core.quotient FP.Core.b64 (.fin false c q) (.fin false d r) = FP.Core.roundRatio FP.Core.b64 false c d (q - r) := by
        first
          | exact if_neg hd0
          | (show (if d = 0 then _ else FP.Core.roundRatio FP.Core.b64 (false != false) c d (q - r)) = _; rw [if_neg hd0]; first | done | rfl)
      rw [e]
      exact FP.Core.roundRatio_congr (by omega) (by omega) (own_scale na nb)
def own_ex (q : Int) : Nat := (q - FP.Core.b64.qmin).toNat
theorem own_units (A : Nat) : FP.Core.inUnits A 0 FP.Core.b64.qmin = A * 2 ^ own_ex 0 := rfl
theorem own_zm (s : Bool) (c : Nat) (q : Int) : FP.Core.zmag FP.Core.b64 (.fin s c q) = c * 2 ^ own_ex q := rfl
theorem own_x1 : own_ex 0 = 62 + own_ex (-62) := by decide +kernel
theorem own_x2 : own_ex 0 = 53 + own_ex (-53) := by decide +kernel
theorem own_x3 : 52 + own_ex (-52) = 53 + own_ex (-53) := by decide +kernel
theorem own_p1 (a : Nat) : (2 : Nat) ^ (62 + a) = 2 ^ 52 * 2 ^ a * 1024 := by
  rw [Nat.pow_add, show (2 : Nat) ^ 62 = 2 ^ 52 * 1024 by decide]; ac_rfl
theorem own_p2 (a : Nat) : (2 : Nat) ^ (53 + a) = 2 ^ 43 * 2 ^ a * 1024 := by
  rw [Nat.pow_add, show (2 : Nat) ^ 53 = 2 ^ 43 * 1024 by decide]; ac_rfl
theorem own_p3 : (2 : Nat) ^ 52 * 2 ^ own_ex (-52) = 2 ^ 43 * 2 ^ own_ex (-53) * 1024 := by
  have h := own_p2 (own_ex (-53))
  rw [← own_x3, Nat.pow_add] at h
  exact h
theorem own_q0 : (FP.Core.b64.qmin - FP.Core.b64.qmin).toNat = 0 := by rw [Int.sub_self]; rfl
theorem own_le1 (P A B : Nat) (hA : 1 ≤ A) (hB2 : B ≤ 1024) : P * B ≤ A * (P * 1024) :=
  calc P * B ≤ P * 1024 := Nat.mul_le_mul_left _ hB2
    _ = 1 * (P * 1024) := (Nat.one_mul _).symm
    _ ≤ A * (P * 1024) := Nat.mul_le_mul_right _ hA
theorem own_le2 (P A B : Nat) (hAB : A < B) (hB2 : B ≤ 1024) : A * (P * 1024) ≤ 1023 * P * B :=
  have h0 : A * 1024 ≤ 1023 * B := by omega
  calc A * (P * 1024) = (A * 1024) * P := by ac_rfl
    _ ≤ (1023 * B) * P := Nat.mul_le_mul_right _ h0
    _ = 1023 * P * B := by ac_rfl
theorem own_le3 {z P : Nat} (h : z ≤ 1023 * P) (hP : 0 < P) : z < P * 1024 := by omega
theorem own_R_pos (A B : Nat) (hA : 1 ≤ A) (hB : 1 ≤ B) (hB2 : B ≤ 1024) : 0 < FP.Core.zmag FP.Core.b64 (FP.Core.roundRatio FP.Core.b64 false A B 0) := by
  have h := FP.Core.zmag_roundRatio_ge FP.Core.good_b64 (s := false) (A := A) (B := B) (e := 0) (e0 := FP.Core.b64.qmin) (V := .fin false (2 ^ 52) (-62)) (by omega) ⟨by decide, by decide, by decide, Or.inr (by decide)⟩ (Int.le_refl _) (by decide) (by
    rw [own_zm, own_units, own_q0, Nat.pow_zero, Nat.mul_one, own_x1, own_p1]
    exact own_le1 _ A B hA hB2)
  rw [own_zm] at h
  exact Nat.lt_of_lt_of_le (Nat.mul_pos (Nat.two_pow_pos _) (Nat.two_pow_pos _)) h
theorem own_R_lt (A B : Nat) (hAB : A < B) (hB2 : B ≤ 1024) : FP.Core.zmag FP.Core.b64 (FP.Core.roundRatio FP.Core.b64 false A B 0) < 2 ^ 52 * 2 ^ own_ex (-52) := by
  have h := FP.Core.zmag_roundRatio_le FP.Core.good_b64 (s := false) (A := A) (B := B) (e := 0) (e0 := FP.Core.b64.qmin) (V := .fin false (1023 * 2 ^ 43) (-53)) (by omega) ⟨by decide, by decide, by decide, Or.inr (by decide)⟩ (fun q => by cases q) (Int.le_refl _) (by decide) (by
    rw [own_zm, own_units, own_q0, Nat.pow_zero, Nat.mul_one, own_x2, own_p2, Nat.mul_assoc 1023]
    exact own_le2 _ A B hAB hB2)
  rw [own_zm, Nat.mul_assoc 1023] at h
  rw [own_p3]
  exact own_le3 h (Nat.mul_pos (Nat.two_pow_pos _) (Nat.two_pow_pos _))
theorem own_cmp_lt {x y : Int} (h : x < y) : compare x y = Ordering.lt := by
  show (if x < y then Ordering.lt else if x = y then Ordering.eq else Ordering.gt) = Ordering.lt
  exact if_pos h
theorem own_cmp_gt {x y : Int} (h : y < x) : compare x y = Ordering.gt := by
  show (if x < y then Ordering.lt else if x = y then Ordering.eq else Ordering.gt) = Ordering.gt
  rw [if_neg (by omega), if_neg (by omega)]
theorem own_zv (A B : Nat) : FP.Core.zval FP.Core.b64 (FP.Core.roundRatio FP.Core.b64 false A B 0) = (FP.Core.zmag FP.Core.b64 (FP.Core.roundRatio FP.Core.b64 false A B 0) : Int) := by
  show FP.Core.signed (FP.Core.sgn (FP.Core.roundRatio FP.Core.b64 false A B 0)) _ = _
  rw [FP.Core.sgn_roundRatio]; rfl
theorem own_share (vk vd : Int32) (hk : 1 ≤ vk.toInt ∧ vk.toInt ≤ vd.toInt) (hd : vd.toInt ≤ 1024) :
    Jvm.Free.Fl.NoNaN64 (FP.ddiv (FP.i2d vk) (FP.i2d vd)) ∧ cmpValue (FP.dcmp (FP.ddiv (FP.i2d vk) (FP.i2d vd)) FP.dconst0) .l = (1 : Int32) ∧ cmpValue (FP.dcmp (FP.ddiv (FP.i2d vk) (FP.i2d vd)) FP.dconst1) .g = (if vk = vd then (0 : Int32) else (-1 : Int32)) := by
  have hq := own_quot vk vd hk.1 (by omega)
  have nn : FP.Core.val64 (FP.ddiv (FP.i2d vk) (FP.i2d vd)) ≠ .nan := by rw [hq]; exact FP.Core.roundRatio_ne_nan _ _ _ _ _
  have n0 : FP.Core.val64 FP.Core.dconst0 ≠ .nan := by rw [FP.Core.val64_dconst0]; exact fun q => by cases q
  have n1 : FP.Core.val64 FP.Core.dconst1 ≠ .nan := by rw [FP.Core.val64_dconst1]; exact fun q => by cases q
  refine ⟨Jvm.Free.Fl.val64_no.mpr nn, ?_, ?_⟩
  · have h : FP.dcmp (FP.ddiv (FP.i2d vk) (FP.i2d vd)) FP.dconst0 = some (compare (FP.Core.zval FP.Core.b64 (FP.Core.val64 (FP.ddiv (FP.i2d vk) (FP.i2d vd)))) (FP.Core.zval FP.Core.b64 (FP.Core.val64 FP.Core.dconst0))) := FP.Core.order_zval FP.Core.good_b64 (FP.Core.val64_fits _) (FP.Core.val64_fits _) nn n0
    have z0 : FP.Core.zval FP.Core.b64 (FP.Core.val64 FP.Core.dconst0) = 0 := by
      rw [FP.Core.val64_dconst0]
      show ((FP.Core.zmag FP.Core.b64 (.fin false 0 FP.Core.b64.qmin) : Nat) : Int) = 0
      rw [own_zm, Nat.zero_mul]
      first | done | rfl
    have hR := own_R_pos vk.toInt.toNat vd.toInt.toNat (by omega) (by omega) (by omega)
    have hgt : compare (FP.Core.zmag FP.Core.b64 (FP.Core.roundRatio FP.Core.b64 false vk.toInt.toNat vd.toInt.toNat 0) : Int) 0 = Ordering.gt := own_cmp_gt (by omega)
    rw [h, hq, own_zv, z0, hgt]
    first | done | rfl
  · by_cases hc : vk = vd
    · rw [if_pos hc]
      have e : FP.Core.val64 (FP.ddiv (FP.i2d vk) (FP.i2d vd)) = FP.Core.val64 FP.Core.dconst1 := by
        rw [hq, FP.Core.val64_dconst1]
        subst hc
        refine FP.Core.roundRatio_exact FP.Core.good_b64 (by omega) ⟨by decide, by decide, by decide, Or.inr (by decide)⟩ ?_
        rw [show ((0 : Int) - (-52)).toNat = 52 by decide, show ((-52 : Int) - 0).toNat = 0 by decide, Nat.pow_zero, Nat.mul_one, Nat.mul_comm]
      have e2 : FP.ddiv (FP.i2d vk) (FP.i2d vd) = FP.dconst1 := FP.Core.val64_inj nn e
      rw [e2]
      exact dcmpV_self (Jvm.Free.Fl.val64_no.mpr n1) _
    · rw [if_neg hc]
      have h : FP.dcmp (FP.ddiv (FP.i2d vk) (FP.i2d vd)) FP.dconst1 = some (compare (FP.Core.zval FP.Core.b64 (FP.Core.val64 (FP.ddiv (FP.i2d vk) (FP.i2d vd)))) (FP.Core.zval FP.Core.b64 (FP.Core.val64 FP.Core.dconst1))) := FP.Core.order_zval FP.Core.good_b64 (FP.Core.val64_fits _) (FP.Core.val64_fits _) nn n1
      have z1 : FP.Core.zval FP.Core.b64 (FP.Core.val64 FP.Core.dconst1) = ((2 ^ 52 * 2 ^ own_ex (-52) : Nat) : Int) := by
        rw [FP.Core.val64_dconst1]
        show ((FP.Core.zmag FP.Core.b64 (.fin false (2 ^ 52) (-52)) : Nat) : Int) = _
        rw [own_zm]
      have hlt : vk.toInt < vd.toInt := by
        have : ¬ vk.toInt = vd.toInt := fun q => hc (Int32.toInt_inj.mp q)
        omega
      have hl := own_R_lt vk.toInt.toNat vd.toInt.toNat (by omega) (by omega)
      have hlt' : compare (FP.Core.zmag FP.Core.b64 (FP.Core.roundRatio FP.Core.b64 false vk.toInt.toNat vd.toInt.toNat 0) : Int) ((2 ^ 52 * 2 ^ own_ex (-52) : Nat) : Int) = Ordering.lt := own_cmp_lt (Int.ofNat_lt.mpr hl)
      rw [h, hq, own_zv, z1, hlt']
      first | done | rfl
theorem own_d (ua : Int32) : 1 ≤ ((1 : Int32) + (ua &&& (1023 : Int32))).toInt ∧ ((1 : Int32) + (ua &&& (1023 : Int32))).toInt ≤ 1024 := by
  have h := c_mask ua (1023 : Int32) 10 (by decide) (by decide)
  have e : ((1 : Int32) + (ua &&& (1023 : Int32))).toInt = 1 + (ua &&& (1023 : Int32)).toInt := by rw [XT.add32 ⟨by rw [show (1 : Int32).toInt = 1 from rfl]; omega, by rw [show (1 : Int32).toInt = 1 from rfl]; omega⟩]; rfl
  omega
theorem own_nz {un : Int32} (h : 1 ≤ un.toInt ∧ un.toInt ≤ 1024) : un ≠ 0 := by rintro rfl; revert h; decide
theorem own_k (ub vd : Int32) (h : 1 ≤ vd.toInt ∧ vd.toInt ≤ 1024) : 1 ≤ ((1 : Int32) + ((ub &&& (2147483647 : Int32)) % vd)).toInt ∧ ((1 : Int32) + ((ub &&& (2147483647 : Int32)) % vd)).toInt ≤ vd.toInt := by
  have m := own_mod ub vd (by omega)
  have e : ((1 : Int32) + ((ub &&& (2147483647 : Int32)) % vd)).toInt = 1 + ((ub &&& (2147483647 : Int32)) % vd).toInt := by rw [XT.add32 ⟨by rw [show (1 : Int32).toInt = 1 from rfl]; omega, by rw [show (1 : Int32).toInt = 1 from rfl]; omega⟩]; rfl
  omega
theorem own_b (uc : Int32) : 0 ≤ ((uc &&& (2147483647 : Int32)) % (1001 : Int32)).toInt ∧ ((uc &&& (2147483647 : Int32)) % (1001 : Int32)).toInt ≤ 1000 := by
  have m := own_mod uc (1001 : Int32) (by decide)
  have : (1001 : Int32).toInt = 1001 := rfl
  omega
theorem own_per (ud : Int64) : 1 ≤ (((1 : Int64) + ((ud &&& (9223372036854775807 : Int64)) - ((ud &&& (9223372036854775807 : Int64)) / (86400000 : Int64)) * (86400000 : Int64)))).toInt ∧ (((1 : Int64) + ((ud &&& (9223372036854775807 : Int64)) - ((ud &&& (9223372036854775807 : Int64)) / (86400000 : Int64)) * (86400000 : Int64)))).toInt ≤ 86400000 := by
  have h := c_maskL ud (9223372036854775807 : Int64) 63 (by decide) (by decide)
  generalize (ud &&& (9223372036854775807 : Int64)) = x at h ⊢
  have r := (c_lrem x (86400000 : Int64) 86400000 rfl).1 (by omega)
  have e : (((1 : Int64) + (x - (x / (86400000 : Int64)) * (86400000 : Int64)))).toInt = 1 + (x - (x / (86400000 : Int64)) * (86400000 : Int64)).toInt := by rw [XT.add64 ⟨by rw [show (1 : Int64).toInt = 1 from rfl]; omega, by rw [show (1 : Int64).toInt = 1 from rfl]; omega⟩]; rfl
  omega
theorem own_bn {vb : Int32} (h : 0 ≤ vb.toInt ∧ vb.toInt ≤ 1000) : ¬ vb < (0 : Int32) ∧ ¬ (1000 : Int32) < vb := by
  rw [Int32.lt_iff_toInt_lt, Int32.lt_iff_toInt_lt, show (0 : Int32).toInt = 0 from rfl, show (1000 : Int32).toInt = 1000 from rfl]; omega
theorem own_pn {vp : Int64} (h : 1 ≤ vp.toInt ∧ vp.toInt ≤ 86400000) : ¬ vp < (1 : Int64) ∧ ¬ (86400000 : Int64) < vp := by
  rw [Int64.lt_iff_toInt_lt, Int64.lt_iff_toInt_lt, show (1 : Int64).toInt = 1 from rfl, show (86400000 : Int64).toInt = 86400000 from rfl]; omega

theorem d2_0 : decode jdk_30_method_1_code 0 = .ok (.aload_n 0, 1) := by decide +kernel
theorem d2_1 : decode jdk_30_method_1_code 1 = .ok (.invokespecial 1, 3) := by decide +kernel
theorem d2_4 : decode jdk_30_method_1_code 4 = .ok (.return_, 1) := by decide +kernel
theorem pn_rmRec : plainFor (⟨"java/lang/Record", "<init>", "()V"⟩ : MethodName) = true := by first | exact plainFor_of_name (by first | (simp [plainName, overriddenIn]; done) | decide +kernel) | exact Jvm.Free.JP.mathPlain rfl (by decide +kernel) | decide +kernel
theorem ef_rmRec (m : MethodId) (x0 : Nat) : entryFrame m #[(.ref x0)] 1 = mkF m 0 #[.val (.ref x0)] [] := by first | (simp [entryFrame, mkF, argsToLocals, Value.category]; done) | rfl
set_option maxRecDepth 65536 in
set_option maxHeartbeats 40000000 in
theorem rmRec (l : Launch) (Z : State) (a0 : Array Value) (hw : ∀ d ∈ tables_1, d.before a0 Z = true) (ws : List Jvm.Cond) (ua : Nat) (h0 : Heap) (n0 : Nat) (Z0 : n0 ≤ h0.size)  :
    MetFree l (⟨"java/lang/Record", "<init>", "()V"⟩ : MethodName) (head1 (Jvm.Cond.code (⟨"java/lang/Record", "<init>", "()V"⟩ : MethodName) jdk_30_method_1_code 1 none :: ws) ({ frames := 1, cells := 0, slots := 0, locals := 12 } : Room)) (fun a U => a = #[(.ref ua)] ∧ Z.Warmed39 U.vm ∧ U.heap = h0) (fun _ _ _ _ _ => True) (fun _ U o U' => ∃ v L, o = .returned v ∧ (own_PV h0 n0) v U'.heap L ∧ FrameEnd U o U' L 0 0) := by
  refine MetFree.of_bodySF pn_rmRec hisR ?_
  intro p e s m args below meth c s₁ Bd hml0 hP hK
  obtain ⟨rfl, hZ, hh⟩ := hP
  have hx := Bd.exec
  have hby := Bd.bytes
  have hml : c.maxLocals = 1 := hml0
  have hown : s.vm.findClass "java/lang/Record" = some m.cls := findClass_of_methodNamed Bd.named
  have hnm := (name_of_methodNamed Bd.named Bd.method).1
  have hrt := Bd.returns
  have hlk := Bd.notSynchronized
  have X0 : Stand p l e ({ frames := 1, cells := 0, slots := 0, locals := 12 } : Room) s m #[(.ref ua)] below meth c s₁ [] 0 0 := Stand.of_body Bd
  have e0 : s₁.heap = h0 := by rw [← hh, Bd.state]; rfl
  have N0 := Fr.nil n0
  have K0 := Keep.refl h0 []
  refine own_done (B := s₁.setTop (mkF m 0 #[.val (.ref ua)] [])) (fun t k => castTop (ef_rmRec m ua) k) ?_
  refine own_by (B := s₁.setTop (mkF m 1 #[.val (.ref ua)] [(.ref ua)])) (fun _ k => XS.aloadN X0.here hx rfl (hb hby d2_0) rfl rfl  k) ?_
  obtain ⟨T1, X1, e1, st1⟩ := initO X0 hx hZ hown (hw _ (List.mem_of_getElem? (i := 14) rfl)) (hw _ (List.mem_of_getElem? (i := 15) rfl)) (hw _ (List.mem_of_getElem? (i := 16) rfl)) e0 (g := (mkF m 1 #[.val (.ref ua)] [(.ref ua)])) rfl (by rw [hml]; rfl) rfl (hb hby d2_1) (by decide) (W := 0) (by show 2 * 0 + _ ≤ _; exact Nat.le_of_eq rfl) (by decide)
  refine own_by (B := T1.setTop (mkF m 4 #[.val (.ref ua)] [])) st1 ?_
  exact own_retV X1 hx hrt hlk (hb hby d2_4) (by decide) (by decide) ⟨rfl, N0, e1⟩

def own_QMM (Z : State) (ua : Nat) (us : UInt64) (ub : Int32) (up uq : Int64) (h0 : Heap) (n0 : Nat) (v : Option Value) (h : Heap) (L : List Loc) : Prop := v = none ∧ Fr n0 L ∧ Keep h0 h [ua] ∧ Exa Z h ua "com/example/convene/convene/cluster/MachineModel" ∧ Fld Z h ua "com/example/convene/convene/cluster/MachineModel" "cpuShare" "D" (.double us) ∧ Fld Z h ua "com/example/convene/convene/cluster/MachineModel" "background" "I" (.int ub) ∧ Fld Z h ua "com/example/convene/convene/cluster/MachineModel" "periodMs" "J" (.long up) ∧ Fld Z h ua "com/example/convene/convene/cluster/MachineModel" "seed" "J" (.long uq)

theorem d1_0 : decode prog_19_method_1_code 0 = .ok (.aload_n 0, 1) := by decide +kernel
theorem d1_1 : decode prog_19_method_1_code 1 = .ok (.invokespecial 1, 3) := by decide +kernel
theorem d1_4 : decode prog_19_method_1_code 4 = .ok (.dload_n 1, 1) := by decide +kernel
theorem d1_5 : decode prog_19_method_1_code 5 = .ok (.dconst 0, 1) := by decide +kernel
theorem d1_6 : decode prog_19_method_1_code 6 = .ok (.dcmp .l, 1) := by decide +kernel
theorem d1_7 : decode prog_19_method_1_code 7 = .ok (.ifCond .le 9, 3) := by decide +kernel
theorem d1_10 : decode prog_19_method_1_code 10 = .ok (.dload_n 1, 1) := by decide +kernel
theorem d1_11 : decode prog_19_method_1_code 11 = .ok (.dconst 1, 1) := by decide +kernel
theorem d1_12 : decode prog_19_method_1_code 12 = .ok (.dcmp .g, 1) := by decide +kernel
theorem d1_13 : decode prog_19_method_1_code 13 = .ok (.ifCond .le 17, 3) := by decide +kernel
theorem d1_30 : decode prog_19_method_1_code 30 = .ok (.iload_n 3, 1) := by decide +kernel
theorem d1_31 : decode prog_19_method_1_code 31 = .ok (.ifCond .lt 10, 3) := by decide +kernel
theorem d1_34 : decode prog_19_method_1_code 34 = .ok (.iload_n 3, 1) := by decide +kernel
theorem d1_35 : decode prog_19_method_1_code 35 = .ok (.sipush 1000, 3) := by decide +kernel
theorem d1_38 : decode prog_19_method_1_code 38 = .ok (.if_icmp .le 17, 3) := by decide +kernel
theorem d1_55 : decode prog_19_method_1_code 55 = .ok (.lload 4, 2) := by decide +kernel
theorem d1_57 : decode prog_19_method_1_code 57 = .ok (.lconst 1, 1) := by decide +kernel
theorem d1_58 : decode prog_19_method_1_code 58 = .ok (.lcmp, 1) := by decide +kernel
theorem d1_59 : decode prog_19_method_1_code 59 = .ok (.ifCond .lt 12, 3) := by decide +kernel
theorem d1_62 : decode prog_19_method_1_code 62 = .ok (.lload 4, 2) := by decide +kernel
theorem d1_64 : decode prog_19_method_1_code 64 = .ok (.getstatic 21, 3) := by decide +kernel
theorem d1_67 : decode prog_19_method_1_code 67 = .ok (.lcmp, 1) := by decide +kernel
theorem d1_68 : decode prog_19_method_1_code 68 = .ok (.ifCond .le 21, 3) := by decide +kernel
theorem d1_89 : decode prog_19_method_1_code 89 = .ok (.aload_n 0, 1) := by decide +kernel
theorem d1_90 : decode prog_19_method_1_code 90 = .ok (.dload_n 1, 1) := by decide +kernel
theorem d1_91 : decode prog_19_method_1_code 91 = .ok (.putfield 28, 3) := by decide +kernel
theorem d1_94 : decode prog_19_method_1_code 94 = .ok (.aload_n 0, 1) := by decide +kernel
theorem d1_95 : decode prog_19_method_1_code 95 = .ok (.iload_n 3, 1) := by decide +kernel
theorem d1_96 : decode prog_19_method_1_code 96 = .ok (.putfield 32, 3) := by decide +kernel
theorem d1_99 : decode prog_19_method_1_code 99 = .ok (.aload_n 0, 1) := by decide +kernel
theorem d1_100 : decode prog_19_method_1_code 100 = .ok (.lload 4, 2) := by decide +kernel
theorem d1_102 : decode prog_19_method_1_code 102 = .ok (.putfield 36, 3) := by decide +kernel
theorem d1_105 : decode prog_19_method_1_code 105 = .ok (.aload_n 0, 1) := by decide +kernel
theorem d1_106 : decode prog_19_method_1_code 106 = .ok (.lload 6, 2) := by decide +kernel
theorem d1_108 : decode prog_19_method_1_code 108 = .ok (.putfield 39, 3) := by decide +kernel
theorem d1_111 : decode prog_19_method_1_code 111 = .ok (.return_, 1) := by decide +kernel
theorem pd_1___V : parseMethodDescriptor "()V" = some ⟨[], none⟩ := by decide +kernel
theorem pn_rmCt : plainFor (⟨"com/example/convene/convene/cluster/MachineModel", "<init>", "(DIJJ)V"⟩ : MethodName) = true := by first | exact plainFor_of_name (by first | (simp [plainName, overriddenIn]; done) | decide +kernel) | exact Jvm.Free.JP.mathPlain rfl (by decide +kernel) | decide +kernel
theorem ef_rmCt (m : MethodId) (x0 : Nat) (x1 : UInt64) (x2 : Int32) (x3 : Int64) (x4 : Int64) : entryFrame m #[(.ref x0), (.double x1), (.int x2), (.long x3), (.long x4)] 8 = mkF m 0 #[.val (.ref x0), .val (.double x1), .second, .val (.int x2), .val (.long x3), .second, .val (.long x4), .second] [] := by first | (simp [entryFrame, mkF, argsToLocals, Value.category]; done) | rfl
set_option maxRecDepth 65536 in
set_option maxHeartbeats 40000000 in
theorem rmCt (l : Launch) (Z : State) (a0 : Array Value) (hw : ∀ d ∈ tables_1, d.before a0 Z = true) (ws : List Jvm.Cond) (ua : Nat) (us : UInt64) (ub : Int32) (up uq : Int64) (ug : Int32) (h0 : Heap) (n0 : Nat) (Z0 : n0 ≤ h0.size) (O0 : Old Z n0 h0) (E_ua : Exa Z h0 ua "com/example/convene/convene/cluster/MachineModel") (F_cpuShare : Fld Z h0 ua "com/example/convene/convene/cluster/MachineModel" "cpuShare" "D" (.double 0)) (F_background : Fld Z h0 ua "com/example/convene/convene/cluster/MachineModel" "background" "I" (.int (0 : Int32))) (F_periodMs : Fld Z h0 ua "com/example/convene/convene/cluster/MachineModel" "periodMs" "J" (.long (0 : Int64))) (F_seed : Fld Z h0 ua "com/example/convene/convene/cluster/MachineModel" "seed" "J" (.long (0 : Int64))) (gn_ua : n0 ≤ ua) (SM : Sta Z Z.heap "com/example/convene/convene/cluster/MachineModel" "MAX_PERIOD_MS" "J" (.long (86400000 : Int64))) (hs0 : cmpValue (FP.dcmp us FP.dconst0) .l = (1 : Int32)) (hs1 : cmpValue (FP.dcmp us FP.dconst1) .g = ug) (hug : ¬ (0 : Int32) < ug) (hub : ¬ ub < (0 : Int32) ∧ ¬ (1000 : Int32) < ub) (hup : ¬ up < (1 : Int64) ∧ ¬ (86400000 : Int64) < up) :
    MetFree l (⟨"com/example/convene/convene/cluster/MachineModel", "<init>", "(DIJJ)V"⟩ : MethodName) (head1 (Jvm.Cond.code (⟨"com/example/convene/convene/cluster/MachineModel", "<init>", "(DIJJ)V"⟩ : MethodName) prog_19_method_1_code 8 none :: ws) ({ frames := 2, cells := 0, slots := 0, locals := 24 } : Room)) (fun a U => a = #[(.ref ua), (.double us), (.int ub), (.long up), (.long uq)] ∧ Z.Warmed39 U.vm ∧ U.heap = h0) (fun _ _ _ _ _ => True) (fun _ U o U' => ∃ v L, o = .returned v ∧ (own_QMM Z ua us ub up uq h0 n0) v U'.heap L ∧ FrameEnd U o U' L 0 0) := by
  refine MetFree.of_bodySF pn_rmCt hisR ?_
  intro p e s m args below meth c s₁ Bd hml0 hP hK
  obtain ⟨rfl, hZ, hh⟩ := hP
  have hx := Bd.exec
  have hby := Bd.bytes
  have hml : c.maxLocals = 8 := hml0
  have hown : s.vm.findClass "com/example/convene/convene/cluster/MachineModel" = some m.cls := findClass_of_methodNamed Bd.named
  have hnm := (name_of_methodNamed Bd.named Bd.method).1
  have hrt := Bd.returns
  have hlk := Bd.notSynchronized
  have X0 : Stand p l e ({ frames := 2, cells := 0, slots := 0, locals := 24 } : Room) s m #[(.ref ua), (.double us), (.int ub), (.long up), (.long uq)] below meth c s₁ [] 0 0 := Stand.of_body Bd
  have e0 : s₁.heap = h0 := by rw [← hh, Bd.state]; rfl
  have N0 := Fr.nil n0
  have K0 := Keep.refl h0 [ua]
  have lt_ua := own_lt E_ua.lt
  refine own_done (B := s₁.setTop (mkF m 0 #[.val (.ref ua), .val (.double us), .second, .val (.int ub), .val (.long up), .second, .val (.long uq), .second] [])) (fun t k => castTop (ef_rmCt m ua us ub up uq) k) ?_
  refine own_by (B := s₁.setTop (mkF m 1 #[.val (.ref ua), .val (.double us), .second, .val (.int ub), .val (.long up), .second, .val (.long uq), .second] [(.ref ua)])) (fun _ k => XS.aloadN X0.here hx rfl (hb hby d1_0) rfl rfl  k) ?_
  obtain ⟨_, _, ⟨T1, L1, k1, n1⟩, -, X1, ⟨Lc1, hQ1, l1, y1, z1⟩, st1⟩ := X0.specialBack hx (y := (⟨"java/lang/Record", "<init>", "()V"⟩ : MethodName)) rfl hown (mvT hZ (hw _ (List.mem_of_getElem? (i := 9) rfl))) (mvT hZ (hw _ (List.mem_of_getElem? (i := 10) rfl))) (mvT hZ (hw _ (List.mem_of_getElem? (i := 13) rfl))) (by decide) (backOf (W := 0) (rmRec l Z a0 hw [] ua h0 n0 (own_old_le O0)) hZ (hw _ (List.mem_of_getElem? (i := 13) rfl)) (hw _ (List.mem_of_getElem? (i := 12) rfl)) (by decide) (by decide)) (g := (mkF m 1 #[.val (.ref ua), .val (.double us), .second, .val (.int ub), .val (.long up), .second, .val (.long uq), .second] [(.ref ua)])) rfl (by rw [hml]; rfl) (Steps.refl _) (a := ua) (argsL := []) (rest := []) (lenOf pd_1___V rfl) rfl (by show 2 * 0 + _ ≤ _; exact Nat.le_of_eq rfl) (hb hby d1_1) (fun _ _ => ⟨rfl, e0, (by decide : 0 + 0 ≤ _), (by decide : 0 + 0 ≤ _)⟩)
  dsimp only [Pt.U, Pt.locs, Pt.cells, Pt.slots] at X1 l1 y1 z1 st1 hQ1
  subst l1 y1 z1
  obtain ⟨rfl, N1, e1⟩ := hQ1
  refine own_by (B := T1.setTop (mkF m 4 #[.val (.ref ua), .val (.double us), .second, .val (.int ub), .val (.long up), .second, .val (.long uq), .second] [])) (fun _ k => st1.trans k) ?_
  have M1 := Fr.app N0 N1
  refine own_by (B := T1.setTop (mkF m 5 #[.val (.ref ua), .val (.double us), .second, .val (.int ub), .val (.long up), .second, .val (.long uq), .second] [(.double us)])) (fun _ k => XS.dloadN X1.here hx rfl (hb hby d1_4) rfl  k) ?_
  refine own_by (B := T1.setTop (mkF m 6 #[.val (.ref ua), .val (.double us), .second, .val (.int ub), .val (.long up), .second, .val (.long uq), .second] [(.double FP.dconst0), (.double us)])) (fun _ k => XS.dconst0 X1.here hx rfl (hb hby d1_5) rfl k) ?_
  refine own_by (B := T1.setTop (mkF m 7 #[.val (.ref ua), .val (.double us), .second, .val (.int ub), .val (.long up), .second, .val (.long uq), .second] [(.int (1 : Int32))])) (fun _ k => XS.dcmpS X1.here hx rfl (hb hby d1_6) rfl hs0 k) ?_
  refine own_by (B := T1.setTop (mkF m 10 #[.val (.ref ua), .val (.double us), .second, .val (.int ub), .val (.long up), .second, .val (.long uq), .second] [])) (fun _ k => XS.ifNo X1.here hx rfl (hb hby d1_7) rfl (XT.i0_le_f (by decide)) k) ?_
  refine own_by (B := T1.setTop (mkF m 11 #[.val (.ref ua), .val (.double us), .second, .val (.int ub), .val (.long up), .second, .val (.long uq), .second] [(.double us)])) (fun _ k => XS.dloadN X1.here hx rfl (hb hby d1_10) rfl  k) ?_
  refine own_by (B := T1.setTop (mkF m 12 #[.val (.ref ua), .val (.double us), .second, .val (.int ub), .val (.long up), .second, .val (.long uq), .second] [(.double FP.dconst1), (.double us)])) (fun _ k => XS.dconst1 X1.here hx rfl (hb hby d1_11) rfl k) ?_
  refine own_by (B := T1.setTop (mkF m 13 #[.val (.ref ua), .val (.double us), .second, .val (.int ub), .val (.long up), .second, .val (.long uq), .second] [(.int ug)])) (fun _ k => XS.dcmpS X1.here hx rfl (hb hby d1_12) rfl hs1 k) ?_
  refine own_by (B := T1.setTop (mkF m 30 #[.val (.ref ua), .val (.double us), .second, .val (.int ub), .val (.long up), .second, .val (.long uq), .second] [])) (fun _ k => XS.ifYes X1.here hx rfl (pc0 := 13) (pc' := 30) rfl (hb hby d1_13) rfl (XT.i0_le_t hug) (by decide) (by decide) k) ?_
  refine own_by (B := T1.setTop (mkF m 31 #[.val (.ref ua), .val (.double us), .second, .val (.int ub), .val (.long up), .second, .val (.long uq), .second] [(.int ub)])) (fun _ k => XS.iloadN X1.here hx rfl (hb hby d1_30) rfl  k) ?_
  refine own_by (B := T1.setTop (mkF m 34 #[.val (.ref ua), .val (.double us), .second, .val (.int ub), .val (.long up), .second, .val (.long uq), .second] [])) (fun _ k => XS.ifNo X1.here hx rfl (hb hby d1_31) rfl (XT.i0_lt_f hub.1) k) ?_
  refine own_by (B := T1.setTop (mkF m 35 #[.val (.ref ua), .val (.double us), .second, .val (.int ub), .val (.long up), .second, .val (.long uq), .second] [(.int ub)])) (fun _ k => XS.iloadN X1.here hx rfl (hb hby d1_34) rfl  k) ?_
  refine own_by (B := T1.setTop (mkF m 38 #[.val (.ref ua), .val (.double us), .second, .val (.int ub), .val (.long up), .second, .val (.long uq), .second] [(.int (1000 : Int32)), (.int ub)])) (fun _ k => XS.sipush X1.here hx rfl (hb hby d1_35) k) ?_
  refine own_by (B := T1.setTop (mkF m 55 #[.val (.ref ua), .val (.double us), .second, .val (.int ub), .val (.long up), .second, .val (.long uq), .second] [])) (fun _ k => XS.icmpYes X1.here hx rfl (pc0 := 38) (pc' := 55) rfl (hb hby d1_38) rfl (XT.ii_le_t hub.2) (by decide) (by decide) k) ?_
  refine own_by (B := T1.setTop (mkF m 57 #[.val (.ref ua), .val (.double us), .second, .val (.int ub), .val (.long up), .second, .val (.long uq), .second] [(.long up)])) (fun _ k => XT.lload X1.here hx rfl (hb hby d1_55) rfl  k) ?_
  refine own_by (B := T1.setTop (mkF m 58 #[.val (.ref ua), .val (.double us), .second, .val (.int ub), .val (.long up), .second, .val (.long uq), .second] [(.long (1 : Int64)), (.long up)])) (fun _ k => XT.lconst X1.here hx rfl (hb hby d1_57) k) ?_
  refine own_by (B := T1.setTop (mkF m 59 #[.val (.ref ua), .val (.double us), .second, .val (.int ub), .val (.long up), .second, .val (.long uq), .second] [(.int (XT.cmpL up (1 : Int64)))])) (fun _ k => XT.lcmp X1.here hx rfl (hb hby d1_58) rfl k) ?_
  refine own_by (B := T1.setTop (mkF m 62 #[.val (.ref ua), .val (.double us), .second, .val (.int ub), .val (.long up), .second, .val (.long uq), .second] [])) (fun _ k => XS.ifNo X1.here hx rfl (hb hby d1_59) rfl (XT.ll_lt_f hup.1) k) ?_
  refine own_by (B := T1.setTop (mkF m 64 #[.val (.ref ua), .val (.double us), .second, .val (.int ub), .val (.long up), .second, .val (.long uq), .second] [(.long up)])) (fun _ k => XT.lload X1.here hx rfl (hb hby d1_62) rfl  k) ?_
  obtain ⟨T2, X2, e2, st2⟩ := getS2 X1 hx hZ hown (host := "") (Or.inl (hw _ (List.mem_of_getElem? (i := 17) rfl))) Via.refl e1 (SM.ext O0.2) (g := (mkF m 64 #[.val (.ref ua), .val (.double us), .second, .val (.int ub), .val (.long up), .second, .val (.long uq), .second] [(.long up)])) rfl (hb hby d1_64)
  refine own_by (B := T2.setTop (mkF m 67 #[.val (.ref ua), .val (.double us), .second, .val (.int ub), .val (.long up), .second, .val (.long uq), .second] [(.long (86400000 : Int64)), (.long up)])) st2 ?_
  refine own_by (B := T2.setTop (mkF m 68 #[.val (.ref ua), .val (.double us), .second, .val (.int ub), .val (.long up), .second, .val (.long uq), .second] [(.int (XT.cmpL up (86400000 : Int64)))])) (fun _ k => XT.lcmp X2.here hx rfl (hb hby d1_67) rfl k) ?_
  refine own_by (B := T2.setTop (mkF m 89 #[.val (.ref ua), .val (.double us), .second, .val (.int ub), .val (.long up), .second, .val (.long uq), .second] [])) (fun _ k => XS.ifYes X2.here hx rfl (pc0 := 68) (pc' := 89) rfl (hb hby d1_68) rfl (XT.ll_le_t hup.2) (by decide) (by decide) k) ?_
  refine own_by (B := T2.setTop (mkF m 90 #[.val (.ref ua), .val (.double us), .second, .val (.int ub), .val (.long up), .second, .val (.long uq), .second] [(.ref ua)])) (fun _ k => XS.aloadN X2.here hx rfl (hb hby d1_89) rfl rfl  k) ?_
  refine own_by (B := T2.setTop (mkF m 91 #[.val (.ref ua), .val (.double us), .second, .val (.int ub), .val (.long up), .second, .val (.long uq), .second] [(.double us), (.ref ua)])) (fun _ k => XS.dloadN X2.here hx rfl (hb hby d1_90) rfl  k) ?_
  obtain ⟨T3, h3, X3, e3, W3, st3⟩ := putF X2 hx hZ hown (host := "") (Or.inl (hw _ (List.mem_of_getElem? (i := 19) rfl))) Via.refl e2 F_cpuShare E_ua (Or.inr ⟨(hw _ (List.mem_of_getElem? (i := 20) rfl)), rfl, hnm⟩) (hw _ (List.mem_of_getElem? (i := 4) rfl)) (ty := .double) (by decide) rfl rfl (g := (mkF m 91 #[.val (.ref ua), .val (.double us), .second, .val (.int ub), .val (.long up), .second, .val (.long uq), .second] [(.double us), (.ref ua)])) rfl rfl (hb hby d1_91)
  have sz3 := W3.size
  have O3 := O0.wr W3 gn_ua
  have K3 := K0.wr W3 (Or.inl (List.mem_of_getElem? (i := 0) rfl))
  have N3 := Fr.snoc X3 M1 gn_ua
  have F3 := F_cpuShare.same W3
  refine own_by (B := T3.setTop (mkF m 94 #[.val (.ref ua), .val (.double us), .second, .val (.int ub), .val (.long up), .second, .val (.long uq), .second] [])) st3 ?_
  refine own_by (B := T3.setTop (mkF m 95 #[.val (.ref ua), .val (.double us), .second, .val (.int ub), .val (.long up), .second, .val (.long uq), .second] [(.ref ua)])) (fun _ k => XS.aloadN X3.here hx rfl (hb hby d1_94) rfl rfl  k) ?_
  refine own_by (B := T3.setTop (mkF m 96 #[.val (.ref ua), .val (.double us), .second, .val (.int ub), .val (.long up), .second, .val (.long uq), .second] [(.int ub), (.ref ua)])) (fun _ k => XS.iloadN X3.here hx rfl (hb hby d1_95) rfl  k) ?_
  have c5 := (E_ua.wr W3)
  have c6 := (F_background.other W3 (Or.inr (slot_ne (Or.inr (hw _ (List.mem_of_getElem? (i := 22) rfl))) (Or.inr (hw _ (List.mem_of_getElem? (i := 20) rfl))) (by decide) (t := .int) (t' := .double) (by decide) (by decide))))
  obtain ⟨T4, h4, X4, e4, W4, st4⟩ := putF X3 hx hZ hown (host := "") (Or.inl (hw _ (List.mem_of_getElem? (i := 21) rfl))) Via.refl e3 c6 c5 (Or.inr ⟨(hw _ (List.mem_of_getElem? (i := 22) rfl)), rfl, hnm⟩) (hw _ (List.mem_of_getElem? (i := 4) rfl)) (ty := .int) (by decide) rfl rfl (g := (mkF m 96 #[.val (.ref ua), .val (.double us), .second, .val (.int ub), .val (.long up), .second, .val (.long uq), .second] [(.int ub), (.ref ua)])) rfl rfl (hb hby d1_96)
  have sz4 := W4.size
  have O4 := O3.wr W4 gn_ua
  have K4 := K3.wr W4 (Or.inl (List.mem_of_getElem? (i := 0) rfl))
  have N4 := Fr.snoc X4 N3 gn_ua
  have F4 := c6.same W4
  refine own_by (B := T4.setTop (mkF m 99 #[.val (.ref ua), .val (.double us), .second, .val (.int ub), .val (.long up), .second, .val (.long uq), .second] [])) st4 ?_
  refine own_by (B := T4.setTop (mkF m 100 #[.val (.ref ua), .val (.double us), .second, .val (.int ub), .val (.long up), .second, .val (.long uq), .second] [(.ref ua)])) (fun _ k => XS.aloadN X4.here hx rfl (hb hby d1_99) rfl rfl  k) ?_
  refine own_by (B := T4.setTop (mkF m 102 #[.val (.ref ua), .val (.double us), .second, .val (.int ub), .val (.long up), .second, .val (.long uq), .second] [(.long up), (.ref ua)])) (fun _ k => XT.lload X4.here hx rfl (hb hby d1_100) rfl  k) ?_
  have c8 := (c5.wr W4)
  have c9 := ((F_periodMs.other W3 (Or.inr (slot_ne (Or.inr (hw _ (List.mem_of_getElem? (i := 24) rfl))) (Or.inr (hw _ (List.mem_of_getElem? (i := 20) rfl))) (by decide) (t := .long) (t' := .double) (by decide) (by decide)))).other W4 (Or.inr (slot_ne (Or.inr (hw _ (List.mem_of_getElem? (i := 24) rfl))) (Or.inr (hw _ (List.mem_of_getElem? (i := 22) rfl))) (by decide) (t := .long) (t' := .int) (by decide) (by decide))))
  obtain ⟨T7, h7, X7, e7, W7, st7⟩ := putF X4 hx hZ hown (host := "") (Or.inl (hw _ (List.mem_of_getElem? (i := 23) rfl))) Via.refl e4 c9 c8 (Or.inr ⟨(hw _ (List.mem_of_getElem? (i := 24) rfl)), rfl, hnm⟩) (hw _ (List.mem_of_getElem? (i := 4) rfl)) (ty := .long) (by decide) rfl rfl (g := (mkF m 102 #[.val (.ref ua), .val (.double us), .second, .val (.int ub), .val (.long up), .second, .val (.long uq), .second] [(.long up), (.ref ua)])) rfl rfl (hb hby d1_102)
  have sz7 := W7.size
  have O7 := O4.wr W7 gn_ua
  have K7 := K4.wr W7 (Or.inl (List.mem_of_getElem? (i := 0) rfl))
  have N7 := Fr.snoc X7 N4 gn_ua
  have F7 := c9.same W7
  refine own_by (B := T7.setTop (mkF m 105 #[.val (.ref ua), .val (.double us), .second, .val (.int ub), .val (.long up), .second, .val (.long uq), .second] [])) st7 ?_
  refine own_by (B := T7.setTop (mkF m 106 #[.val (.ref ua), .val (.double us), .second, .val (.int ub), .val (.long up), .second, .val (.long uq), .second] [(.ref ua)])) (fun _ k => XS.aloadN X7.here hx rfl (hb hby d1_105) rfl rfl  k) ?_
  refine own_by (B := T7.setTop (mkF m 108 #[.val (.ref ua), .val (.double us), .second, .val (.int ub), .val (.long up), .second, .val (.long uq), .second] [(.long uq), (.ref ua)])) (fun _ k => XT.lload X7.here hx rfl (hb hby d1_106) rfl  k) ?_
  have c11 := (c8.wr W7)
  have c12 := (((F_seed.other W3 (Or.inr (slot_ne (Or.inr (hw _ (List.mem_of_getElem? (i := 26) rfl))) (Or.inr (hw _ (List.mem_of_getElem? (i := 20) rfl))) (by decide) (t := .long) (t' := .double) (by decide) (by decide)))).other W4 (Or.inr (slot_ne (Or.inr (hw _ (List.mem_of_getElem? (i := 26) rfl))) (Or.inr (hw _ (List.mem_of_getElem? (i := 22) rfl))) (by decide) (t := .long) (t' := .int) (by decide) (by decide)))).other W7 (Or.inr (slot_ne (Or.inr (hw _ (List.mem_of_getElem? (i := 26) rfl))) (Or.inr (hw _ (List.mem_of_getElem? (i := 24) rfl))) (by decide) (t := .long) (t' := .long) (by decide) (by decide))))
  obtain ⟨T10, h10, X10, e10, W10, st10⟩ := putF X7 hx hZ hown (host := "") (Or.inl (hw _ (List.mem_of_getElem? (i := 25) rfl))) Via.refl e7 c12 c11 (Or.inr ⟨(hw _ (List.mem_of_getElem? (i := 26) rfl)), rfl, hnm⟩) (hw _ (List.mem_of_getElem? (i := 4) rfl)) (ty := .long) (by decide) rfl rfl (g := (mkF m 108 #[.val (.ref ua), .val (.double us), .second, .val (.int ub), .val (.long up), .second, .val (.long uq), .second] [(.long uq), (.ref ua)])) rfl rfl (hb hby d1_108)
  have sz10 := W10.size
  have O10 := O7.wr W10 gn_ua
  have K10 := K7.wr W10 (Or.inl (List.mem_of_getElem? (i := 0) rfl))
  have N10 := Fr.snoc X10 N7 gn_ua
  have F10 := c12.same W10
  refine own_by (B := T10.setTop (mkF m 111 #[.val (.ref ua), .val (.double us), .second, .val (.int ub), .val (.long up), .second, .val (.long uq), .second] [])) st10 ?_
  have c13 := (((F3.other W4 (Or.inr (slot_ne (Or.inr (hw _ (List.mem_of_getElem? (i := 20) rfl))) (Or.inr (hw _ (List.mem_of_getElem? (i := 22) rfl))) (by decide) (t := .double) (t' := .int) (by decide) (by decide)))).other W7 (Or.inr (slot_ne (Or.inr (hw _ (List.mem_of_getElem? (i := 20) rfl))) (Or.inr (hw _ (List.mem_of_getElem? (i := 24) rfl))) (by decide) (t := .double) (t' := .long) (by decide) (by decide)))).other W10 (Or.inr (slot_ne (Or.inr (hw _ (List.mem_of_getElem? (i := 20) rfl))) (Or.inr (hw _ (List.mem_of_getElem? (i := 26) rfl))) (by decide) (t := .double) (t' := .long) (by decide) (by decide))))
  have c14 := ((F4.other W7 (Or.inr (slot_ne (Or.inr (hw _ (List.mem_of_getElem? (i := 22) rfl))) (Or.inr (hw _ (List.mem_of_getElem? (i := 24) rfl))) (by decide) (t := .int) (t' := .long) (by decide) (by decide)))).other W10 (Or.inr (slot_ne (Or.inr (hw _ (List.mem_of_getElem? (i := 22) rfl))) (Or.inr (hw _ (List.mem_of_getElem? (i := 26) rfl))) (by decide) (t := .int) (t' := .long) (by decide) (by decide))))
  have c15 := (F7.other W10 (Or.inr (slot_ne (Or.inr (hw _ (List.mem_of_getElem? (i := 24) rfl))) (Or.inr (hw _ (List.mem_of_getElem? (i := 26) rfl))) (by decide) (t := .long) (t' := .long) (by decide) (by decide))))
  have c16 := (c11.wr W10)
  exact own_retV X10 hx hrt hlk (hb hby d1_111) (by decide) (by decide) (by show own_QMM Z ua us ub up uq h0 n0 none T10.heap _; rw [e10]; exact ⟨rfl, N10, K10, c16, c13, c14, c15, F10⟩)

def own_pc (ug : Int32) (ub : Int32) : Int32 := if ug < (0 : Int32) then (1 : Int32) else if (0 : Int32) < ub then (1 : Int32) else (0 : Int32)

theorem d4_0 : decode prog_19_method_2_code 0 = .ok (.aload_n 0, 1) := by decide +kernel
theorem d4_1 : decode prog_19_method_2_code 1 = .ok (.getfield 28, 3) := by decide +kernel
theorem d4_4 : decode prog_19_method_2_code 4 = .ok (.dconst 1, 1) := by decide +kernel
theorem d4_5 : decode prog_19_method_2_code 5 = .ok (.dcmp .g, 1) := by decide +kernel
theorem d4_6 : decode prog_19_method_2_code 6 = .ok (.ifCond .lt 10, 3) := by decide +kernel
theorem d4_9 : decode prog_19_method_2_code 9 = .ok (.aload_n 0, 1) := by decide +kernel
theorem d4_10 : decode prog_19_method_2_code 10 = .ok (.getfield 32, 3) := by decide +kernel
theorem d4_13 : decode prog_19_method_2_code 13 = .ok (.ifCond .le 7, 3) := by decide +kernel
theorem d4_16 : decode prog_19_method_2_code 16 = .ok (.iconst 1, 1) := by decide +kernel
theorem d4_17 : decode prog_19_method_2_code 17 = .ok (.goto 4, 3) := by decide +kernel
theorem d4_20 : decode prog_19_method_2_code 20 = .ok (.iconst 0, 1) := by decide +kernel
theorem d4_21 : decode prog_19_method_2_code 21 = .ok (.ireturn, 1) := by decide +kernel
theorem pn_rmPc : plainFor (⟨"com/example/convene/convene/cluster/MachineModel", "paces", "()Z"⟩ : MethodName) = true := by first | exact plainFor_of_name (by first | (simp [plainName, overriddenIn]; done) | decide +kernel) | exact Jvm.Free.JP.mathPlain rfl (by decide +kernel) | decide +kernel
theorem ef_rmPc (m : MethodId) (x0 : Nat) : entryFrame m #[(.ref x0)] 1 = mkF m 0 #[.val (.ref x0)] [] := by first | (simp [entryFrame, mkF, argsToLocals, Value.category]; done) | rfl
set_option maxRecDepth 65536 in
set_option maxHeartbeats 40000000 in
theorem rmPc (l : Launch) (Z : State) (a0 : Array Value) (hw : ∀ d ∈ tables_1, d.before a0 Z = true) (ws : List Jvm.Cond) (ua : Nat) (us : UInt64) (ub ug : Int32) (h0 : Heap) (n0 : Nat) (Z0 : n0 ≤ h0.size) (F_cpuShare : Fld Z h0 ua "com/example/convene/convene/cluster/MachineModel" "cpuShare" "D" (.double us)) (F_background : Fld Z h0 ua "com/example/convene/convene/cluster/MachineModel" "background" "I" (.int ub)) (hs1 : cmpValue (FP.dcmp us FP.dconst1) .g = ug) :
    MetFree l (⟨"com/example/convene/convene/cluster/MachineModel", "paces", "()Z"⟩ : MethodName) (head1 (Jvm.Cond.code (⟨"com/example/convene/convene/cluster/MachineModel", "paces", "()Z"⟩ : MethodName) prog_19_method_2_code 1 (some .boolean) :: ws) ({ frames := 0, cells := 0, slots := 0, locals := 0 } : Room)) (fun a U => a = #[(.ref ua)] ∧ Z.Warmed39 U.vm ∧ U.heap = h0) (fun _ _ _ _ _ => True) (fun _ U o U' => ∃ v L, o = .returned v ∧ (own_P (.int (own_pc ug ub)) h0 n0) v U'.heap L ∧ FrameEnd U o U' L 0 0) := by
  refine MetFree.of_bodySF pn_rmPc hisR ?_
  intro p e s m args below meth c s₁ Bd hml0 hP hK
  obtain ⟨rfl, hZ, hh⟩ := hP
  have hx := Bd.exec
  have hby := Bd.bytes
  have hml : c.maxLocals = 1 := hml0
  have hown : s.vm.findClass "com/example/convene/convene/cluster/MachineModel" = some m.cls := findClass_of_methodNamed Bd.named
  have hnm := (name_of_methodNamed Bd.named Bd.method).1
  have hrt := Bd.returns
  have hlk := Bd.notSynchronized
  have X0 : Stand p l e ({ frames := 0, cells := 0, slots := 0, locals := 0 } : Room) s m #[(.ref ua)] below meth c s₁ [] 0 0 := Stand.of_body Bd
  have e0 : s₁.heap = h0 := by rw [← hh, Bd.state]; rfl
  have N0 := Fr.nil n0
  refine own_done (B := s₁.setTop (mkF m 0 #[.val (.ref ua)] [])) (fun t k => castTop (ef_rmPc m ua) k) ?_
  refine own_by (B := s₁.setTop (mkF m 1 #[.val (.ref ua)] [(.ref ua)])) (fun _ k => XS.aloadN X0.here hx rfl (hb hby d4_0) rfl rfl  k) ?_
  obtain ⟨T1, X1, e1, st1⟩ := getF X0 hx hZ hown (host := "") (Or.inl (hw _ (List.mem_of_getElem? (i := 19) rfl))) Via.refl e0 F_cpuShare (g := (mkF m 1 #[.val (.ref ua)] [(.ref ua)])) rfl rfl (hb hby d4_1)
  refine own_by (B := T1.setTop (mkF m 4 #[.val (.ref ua)] [(.double us)])) st1 ?_
  refine own_by (B := T1.setTop (mkF m 5 #[.val (.ref ua)] [(.double FP.dconst1), (.double us)])) (fun _ k => XS.dconst1 X1.here hx rfl (hb hby d4_4) rfl k) ?_
  refine own_by (B := T1.setTop (mkF m 6 #[.val (.ref ua)] [(.int ug)])) (fun _ k => XS.dcmpS X1.here hx rfl (hb hby d4_5) rfl hs1 k) ?_
  by_cases hc2 : ug < (0 : Int32)
  · refine own_by (B := T1.setTop (mkF m 16 #[.val (.ref ua)] [])) (fun _ k => XS.ifYes X1.here hx rfl (pc0 := 6) (pc' := 16) rfl (hb hby d4_6) rfl (XT.i0_lt_t hc2) (by decide) (by decide) k) ?_
    refine own_by (B := T1.setTop (mkF m 17 #[.val (.ref ua)] [(.int (1 : Int32))])) (fun _ k => XS.iconst X1.here hx rfl (hb hby d4_16) k) ?_
    refine own_by (B := T1.setTop (mkF m 21 #[.val (.ref ua)] [(.int (1 : Int32))])) (fun _ k => XS.goto X1.here hx rfl (pc0 := 17) (pc' := 21) rfl (hb hby d4_17) (by decide) (by decide) k) ?_
    exact own_retZ X1 hx hrt hlk rfl (hb hby d4_21) (by decide) (by decide) ⟨(by unfold own_pc; rw [if_pos hc2]), N0, e1⟩
  · refine own_by (B := T1.setTop (mkF m 9 #[.val (.ref ua)] [])) (fun _ k => XS.ifNo X1.here hx rfl (hb hby d4_6) rfl (XT.i0_lt_f hc2) k) ?_
    refine own_by (B := T1.setTop (mkF m 10 #[.val (.ref ua)] [(.ref ua)])) (fun _ k => XS.aloadN X1.here hx rfl (hb hby d4_9) rfl rfl  k) ?_
    obtain ⟨T3, X3, e3, st3⟩ := getF X1 hx hZ hown (host := "") (Or.inl (hw _ (List.mem_of_getElem? (i := 21) rfl))) Via.refl e1 F_background (g := (mkF m 10 #[.val (.ref ua)] [(.ref ua)])) rfl rfl (hb hby d4_10)
    refine own_by (B := T3.setTop (mkF m 13 #[.val (.ref ua)] [(.int ub)])) st3 ?_
    by_cases hc4 : (0 : Int32) < ub
    · refine own_by (B := T3.setTop (mkF m 16 #[.val (.ref ua)] [])) (fun _ k => XS.ifNo X3.here hx rfl (hb hby d4_13) rfl (XT.i0_le_f hc4) k) ?_
      refine own_by (B := T3.setTop (mkF m 17 #[.val (.ref ua)] [(.int (1 : Int32))])) (fun _ k => XS.iconst X3.here hx rfl (hb hby d4_16) k) ?_
      refine own_by (B := T3.setTop (mkF m 21 #[.val (.ref ua)] [(.int (1 : Int32))])) (fun _ k => XS.goto X3.here hx rfl (pc0 := 17) (pc' := 21) rfl (hb hby d4_17) (by decide) (by decide) k) ?_
      exact own_retZ X3 hx hrt hlk rfl (hb hby d4_21) (by decide) (by decide) ⟨(by unfold own_pc; rw [if_neg hc2, if_pos hc4]), N0, e3⟩
    · refine own_by (B := T3.setTop (mkF m 20 #[.val (.ref ua)] [])) (fun _ k => XS.ifYes X3.here hx rfl (pc0 := 13) (pc' := 20) rfl (hb hby d4_13) rfl (XT.i0_le_t hc4) (by decide) (by decide) k) ?_
      refine own_by (B := T3.setTop (mkF m 21 #[.val (.ref ua)] [(.int (0 : Int32))])) (fun _ k => XS.iconst X3.here hx rfl (hb hby d4_20) k) ?_
      exact own_retZ X3 hx hrt hlk rfl (hb hby d4_21) (by decide) (by decide) ⟨(by unfold own_pc; rw [if_neg hc2, if_neg hc4]), N0, e3⟩

theorem own_pcs (vk vd vb : Int32) (h : 0 ≤ vb.toInt ∧ vb.toInt ≤ 1000) : own_pc (if vk = vd then (0 : Int32) else (-1 : Int32)) vb = if vk = vd then (if vb = (0 : Int32) then (0 : Int32) else (1 : Int32)) else (1 : Int32) := by
  unfold own_pc
  by_cases hc : vk = vd
  · rw [if_pos hc, if_pos hc, if_neg (by decide)]
    by_cases hz : vb = (0 : Int32)
    · rw [if_pos hz, if_neg (by rw [hz]; decide)]
    · rw [if_neg hz, if_pos (by
        rw [Int32.lt_iff_toInt_lt, show (0 : Int32).toInt = 0 from rfl]
        have : ¬ vb.toInt = 0 := fun q => hz (Int32.toInt_inj.mp q)
        omega)]
  · rw [if_neg hc, if_neg hc, if_pos (by decide)]
theorem own_ug (vk vd : Int32) : ¬ (0 : Int32) < (if vk = vd then (0 : Int32) else (-1 : Int32)) := by split <;> decide

def own_Q0 (n0 : Nat) (v : Option Value) (h : Heap) (L : List Loc) : Prop := v = some (.int 1) ∧ Fr n0 L

theorem pd_0__DIJJ_V : parseMethodDescriptor "(DIJJ)V" = some ⟨[.double, .int, .long, .long], none⟩ := by decide +kernel
theorem pd_0___Z : parseMethodDescriptor "()Z" = some ⟨[], some .boolean⟩ := by decide +kernel
theorem pn_rm0 : plainFor (⟨"com/example/convene/convene/cluster/MachineModelPacesPinLaw", "law", "(IIIJJ)Z"⟩ : MethodName) = true := by first | exact plainFor_of_name (by first | (simp [plainName, overriddenIn]; done) | decide +kernel) | exact Jvm.Free.JP.mathPlain rfl (by decide +kernel) | decide +kernel
theorem ef_rm0 (m : MethodId) (x0 : Int32) (x1 : Int32) (x2 : Int32) (x3 : Int64) (x4 : Int64) : entryFrame m #[(.int x0), (.int x1), (.int x2), (.long x3), (.long x4)] maxLocals = mkF m 0 #[.val (.int x0), .val (.int x1), .val (.int x2), .val (.long x3), .second, .val (.long x4), .second, .unset, .unset, .unset, .unset, .unset, .unset, .unset, .unset, .unset, .unset, .unset] [] := by first | (simp [entryFrame, mkF, argsToLocals, Value.category, maxLocals]; done) | rfl
set_option maxRecDepth 65536 in
set_option maxHeartbeats 40000000 in
theorem rm0 (l : Launch) (Z : State) (a0 : Array Value) (hw : ∀ d ∈ tables_1, d.before a0 Z = true) (ws : List Jvm.Cond) (ua ub uc : Int32) (ud ue : Int64) (h0 : Heap) (n0 : Nat) (Z0 : n0 ≤ h0.size) (O0 : Old Z n0 h0) (SM : Sta Z Z.heap "com/example/convene/convene/cluster/MachineModel" "MAX_PERIOD_MS" "J" (.long (86400000 : Int64))) :
    MetFree l x (head1 (Jvm.Cond.code x code maxLocals ret :: ws) room_1) (fun a U => a = #[(.int ua), (.int ub), (.int uc), (.long ud), (.long ue)] ∧ Z.Warmed39 U.vm ∧ U.heap = h0) (fun _ _ _ _ _ => True) (fun _ U o U' => ∃ v L, o = .returned v ∧ (own_Q0 n0) v U'.heap L ∧ FrameEnd U o U' L 16 128) := by
  refine MetFree.of_bodySF pn_rm0 hisR ?_
  intro p e s m args below meth c s₁ Bd hml0 hP hK
  obtain ⟨rfl, hZ, hh⟩ := hP
  have hx := Bd.exec
  have hby := Bd.bytes
  have hml : c.maxLocals = 18 := hml0
  have hown : s.vm.findClass "com/example/convene/convene/cluster/MachineModelPacesPinLaw" = some m.cls := findClass_of_methodNamed Bd.named
  have hnm := (name_of_methodNamed Bd.named Bd.method).1
  have hrt := Bd.returns
  have hlk := Bd.notSynchronized
  have X0 : Stand p l e room_1 s m #[(.int ua), (.int ub), (.int uc), (.long ud), (.long ue)] below meth c s₁ [] 0 0 := Stand.of_body Bd
  have e0 : s₁.heap = h0 := by rw [← hh, Bd.state]; rfl
  have N0 := Fr.nil n0
  have K0 := Keep.refl h0 []
  refine own_done (B := s₁.setTop (mkF m 0 #[.val (.int ua), .val (.int ub), .val (.int uc), .val (.long ud), .second, .val (.long ue), .second, .unset, .unset, .unset, .unset, .unset, .unset, .unset, .unset, .unset, .unset, .unset] [])) (fun t k => castTop (ef_rm0 m ua ub uc ud ue) k) ?_
  refine own_by (B := s₁.setTop (mkF m 1 #[.val (.int ua), .val (.int ub), .val (.int uc), .val (.long ud), .second, .val (.long ue), .second, .unset, .unset, .unset, .unset, .unset, .unset, .unset, .unset, .unset, .unset, .unset] [(.int (1 : Int32))])) (fun _ k => XS.iconst X0.here hx rfl (hb hby at_0) k) ?_
  refine own_by (B := s₁.setTop (mkF m 2 #[.val (.int ua), .val (.int ub), .val (.int uc), .val (.long ud), .second, .val (.long ue), .second, .unset, .unset, .unset, .unset, .unset, .unset, .unset, .unset, .unset, .unset, .unset] [(.int ua), (.int (1 : Int32))])) (fun _ k => XS.iloadN X0.here hx rfl (hb hby at_1) rfl  k) ?_
  refine own_by (B := s₁.setTop (mkF m 5 #[.val (.int ua), .val (.int ub), .val (.int uc), .val (.long ud), .second, .val (.long ue), .second, .unset, .unset, .unset, .unset, .unset, .unset, .unset, .unset, .unset, .unset, .unset] [(.int (1023 : Int32)), (.int ua), (.int (1 : Int32))])) (fun _ k => XS.sipush X0.here hx rfl (hb hby at_2) k) ?_
  refine own_by (B := s₁.setTop (mkF m 6 #[.val (.int ua), .val (.int ub), .val (.int uc), .val (.long ud), .second, .val (.long ue), .second, .unset, .unset, .unset, .unset, .unset, .unset, .unset, .unset, .unset, .unset, .unset] [(.int (ua &&& (1023 : Int32))), (.int (1 : Int32))])) (fun _ k => XS.iand X0.here hx rfl (hb hby at_5) rfl k) ?_
  refine own_by (B := s₁.setTop (mkF m 7 #[.val (.int ua), .val (.int ub), .val (.int uc), .val (.long ud), .second, .val (.long ue), .second, .unset, .unset, .unset, .unset, .unset, .unset, .unset, .unset, .unset, .unset, .unset] [(.int ((1 : Int32) + (ua &&& (1023 : Int32))))])) (fun _ k => XS.iadd X0.here hx rfl (hb hby at_6) rfl k) ?_
  obtain ⟨vd, hvd⟩ : ∃ z : Int32, z = ((1 : Int32) + (ua &&& (1023 : Int32))) := ⟨_, rfl⟩
  rw [← hvd]
  have hd : 1 ≤ vd.toInt ∧ vd.toInt ≤ 1024 := hvd ▸ own_d ua
  refine own_by (B := s₁.setTop (mkF m 9 #[.val (.int ua), .val (.int ub), .val (.int uc), .val (.long ud), .second, .val (.long ue), .second, .val (.int vd), .unset, .unset, .unset, .unset, .unset, .unset, .unset, .unset, .unset, .unset] [])) (fun _ k => XS.istore X0.here hx rfl (hb hby at_7) rfl (l' := #[.val (.int ua), .val (.int ub), .val (.int uc), .val (.long ud), .second, .val (.long ue), .second, .val (.int vd), .unset, .unset, .unset, .unset, .unset, .unset, .unset, .unset, .unset, .unset]) rfl k) ?_
  refine own_by (B := s₁.setTop (mkF m 10 #[.val (.int ua), .val (.int ub), .val (.int uc), .val (.long ud), .second, .val (.long ue), .second, .val (.int vd), .unset, .unset, .unset, .unset, .unset, .unset, .unset, .unset, .unset, .unset] [(.int (1 : Int32))])) (fun _ k => XS.iconst X0.here hx rfl (hb hby at_9) k) ?_
  refine own_by (B := s₁.setTop (mkF m 11 #[.val (.int ua), .val (.int ub), .val (.int uc), .val (.long ud), .second, .val (.long ue), .second, .val (.int vd), .unset, .unset, .unset, .unset, .unset, .unset, .unset, .unset, .unset, .unset] [(.int ub), (.int (1 : Int32))])) (fun _ k => XS.iloadN X0.here hx rfl (hb hby at_10) rfl  k) ?_
  refine own_by (B := s₁.setTop (mkF m 13 #[.val (.int ua), .val (.int ub), .val (.int uc), .val (.long ud), .second, .val (.long ue), .second, .val (.int vd), .unset, .unset, .unset, .unset, .unset, .unset, .unset, .unset, .unset, .unset] [(.int (2147483647 : Int32)), (.int ub), (.int (1 : Int32))])) (fun _ k => X0.ldcI (g := (mkF m 11 #[.val (.int ua), .val (.int ub), .val (.int uc), .val (.long ud), .second, .val (.long ue), .second, .val (.int vd), .unset, .unset, .unset, .unset, .unset, .unset, .unset, .unset, .unset, .unset] [(.int ub), (.int (1 : Int32))])) hx hown (mvT hZ (hw _ (List.mem_of_getElem? (i := 0) rfl))) rfl (hb hby at_11) k) ?_
  refine own_by (B := s₁.setTop (mkF m 14 #[.val (.int ua), .val (.int ub), .val (.int uc), .val (.long ud), .second, .val (.long ue), .second, .val (.int vd), .unset, .unset, .unset, .unset, .unset, .unset, .unset, .unset, .unset, .unset] [(.int (ub &&& (2147483647 : Int32))), (.int (1 : Int32))])) (fun _ k => XS.iand X0.here hx rfl (hb hby at_13) rfl k) ?_
  refine own_by (B := s₁.setTop (mkF m 16 #[.val (.int ua), .val (.int ub), .val (.int uc), .val (.long ud), .second, .val (.long ue), .second, .val (.int vd), .unset, .unset, .unset, .unset, .unset, .unset, .unset, .unset, .unset, .unset] [(.int vd), (.int (ub &&& (2147483647 : Int32))), (.int (1 : Int32))])) (fun _ k => XS.iload X0.here hx rfl (hb hby at_14) rfl  k) ?_
  refine own_by (B := s₁.setTop (mkF m 17 #[.val (.int ua), .val (.int ub), .val (.int uc), .val (.long ud), .second, .val (.long ue), .second, .val (.int vd), .unset, .unset, .unset, .unset, .unset, .unset, .unset, .unset, .unset, .unset] [(.int ((ub &&& (2147483647 : Int32)) % vd)), (.int (1 : Int32))])) (fun _ k => iremM (g := (mkF m 16 #[.val (.int ua), .val (.int ub), .val (.int uc), .val (.long ud), .second, .val (.long ue), .second, .val (.int vd), .unset, .unset, .unset, .unset, .unset, .unset, .unset, .unset, .unset, .unset] [(.int vd), (.int (ub &&& (2147483647 : Int32))), (.int (1 : Int32))])) X0 hx rfl (hb hby at_16) rfl (own_nz hd) k) ?_
  refine own_by (B := s₁.setTop (mkF m 18 #[.val (.int ua), .val (.int ub), .val (.int uc), .val (.long ud), .second, .val (.long ue), .second, .val (.int vd), .unset, .unset, .unset, .unset, .unset, .unset, .unset, .unset, .unset, .unset] [(.int ((1 : Int32) + ((ub &&& (2147483647 : Int32)) % vd)))])) (fun _ k => XS.iadd X0.here hx rfl (hb hby at_17) rfl k) ?_
  obtain ⟨vk, hvk⟩ : ∃ z : Int32, z = ((1 : Int32) + ((ub &&& (2147483647 : Int32)) % vd)) := ⟨_, rfl⟩
  rw [← hvk]
  have hk : 1 ≤ vk.toInt ∧ vk.toInt ≤ vd.toInt := hvk ▸ own_k ub vd hd
  refine own_by (B := s₁.setTop (mkF m 20 #[.val (.int ua), .val (.int ub), .val (.int uc), .val (.long ud), .second, .val (.long ue), .second, .val (.int vd), .val (.int vk), .unset, .unset, .unset, .unset, .unset, .unset, .unset, .unset, .unset] [])) (fun _ k => XS.istore X0.here hx rfl (hb hby at_18) rfl (l' := #[.val (.int ua), .val (.int ub), .val (.int uc), .val (.long ud), .second, .val (.long ue), .second, .val (.int vd), .val (.int vk), .unset, .unset, .unset, .unset, .unset, .unset, .unset, .unset, .unset]) rfl k) ?_
  refine own_by (B := s₁.setTop (mkF m 22 #[.val (.int ua), .val (.int ub), .val (.int uc), .val (.long ud), .second, .val (.long ue), .second, .val (.int vd), .val (.int vk), .unset, .unset, .unset, .unset, .unset, .unset, .unset, .unset, .unset] [(.int vk)])) (fun _ k => XS.iload X0.here hx rfl (hb hby at_20) rfl  k) ?_
  refine own_by (B := s₁.setTop (mkF m 23 #[.val (.int ua), .val (.int ub), .val (.int uc), .val (.long ud), .second, .val (.long ue), .second, .val (.int vd), .val (.int vk), .unset, .unset, .unset, .unset, .unset, .unset, .unset, .unset, .unset] [(.double (FP.i2d vk))])) (fun _ k => XS.i2dS X0.here hx rfl (hb hby at_22) rfl rfl k) ?_
  refine own_by (B := s₁.setTop (mkF m 25 #[.val (.int ua), .val (.int ub), .val (.int uc), .val (.long ud), .second, .val (.long ue), .second, .val (.int vd), .val (.int vk), .unset, .unset, .unset, .unset, .unset, .unset, .unset, .unset, .unset] [(.int vd), (.double (FP.i2d vk))])) (fun _ k => XS.iload X0.here hx rfl (hb hby at_23) rfl  k) ?_
  refine own_by (B := s₁.setTop (mkF m 26 #[.val (.int ua), .val (.int ub), .val (.int uc), .val (.long ud), .second, .val (.long ue), .second, .val (.int vd), .val (.int vk), .unset, .unset, .unset, .unset, .unset, .unset, .unset, .unset, .unset] [(.double (FP.i2d vd)), (.double (FP.i2d vk))])) (fun _ k => XS.i2dS X0.here hx rfl (hb hby at_25) rfl rfl k) ?_
  refine own_by (B := s₁.setTop (mkF m 27 #[.val (.int ua), .val (.int ub), .val (.int uc), .val (.long ud), .second, .val (.long ue), .second, .val (.int vd), .val (.int vk), .unset, .unset, .unset, .unset, .unset, .unset, .unset, .unset, .unset] [(.double (FP.ddiv (FP.i2d vk) (FP.i2d vd)))])) (fun _ k => XS.ddivS X0.here hx rfl (hb hby at_26) rfl (own_share vk vd hk hd.2).1 rfl k) ?_
  obtain ⟨vs_, hvs_⟩ : ∃ z : UInt64, z = (FP.ddiv (FP.i2d vk) (FP.i2d vd)) := ⟨_, rfl⟩
  rw [← hvs_]
  obtain ⟨-, hs0, hs1⟩ := own_share vk vd hk hd.2
  rw [← hvs_] at hs0 hs1
  refine own_by (B := s₁.setTop (mkF m 29 #[.val (.int ua), .val (.int ub), .val (.int uc), .val (.long ud), .second, .val (.long ue), .second, .val (.int vd), .val (.int vk), .val (.double vs_), .second, .unset, .unset, .unset, .unset, .unset, .unset, .unset] [])) (fun _ k => XS.dstore X0.here hx rfl (hb hby at_27) rfl (l' := #[.val (.int ua), .val (.int ub), .val (.int uc), .val (.long ud), .second, .val (.long ue), .second, .val (.int vd), .val (.int vk), .val (.double vs_), .second, .unset, .unset, .unset, .unset, .unset, .unset, .unset]) rfl k) ?_
  refine own_by (B := s₁.setTop (mkF m 30 #[.val (.int ua), .val (.int ub), .val (.int uc), .val (.long ud), .second, .val (.long ue), .second, .val (.int vd), .val (.int vk), .val (.double vs_), .second, .unset, .unset, .unset, .unset, .unset, .unset, .unset] [(.int uc)])) (fun _ k => XS.iloadN X0.here hx rfl (hb hby at_29) rfl  k) ?_
  refine own_by (B := s₁.setTop (mkF m 32 #[.val (.int ua), .val (.int ub), .val (.int uc), .val (.long ud), .second, .val (.long ue), .second, .val (.int vd), .val (.int vk), .val (.double vs_), .second, .unset, .unset, .unset, .unset, .unset, .unset, .unset] [(.int (2147483647 : Int32)), (.int uc)])) (fun _ k => X0.ldcI (g := (mkF m 30 #[.val (.int ua), .val (.int ub), .val (.int uc), .val (.long ud), .second, .val (.long ue), .second, .val (.int vd), .val (.int vk), .val (.double vs_), .second, .unset, .unset, .unset, .unset, .unset, .unset, .unset] [(.int uc)])) hx hown (mvT hZ (hw _ (List.mem_of_getElem? (i := 0) rfl))) rfl (hb hby at_30) k) ?_
  refine own_by (B := s₁.setTop (mkF m 33 #[.val (.int ua), .val (.int ub), .val (.int uc), .val (.long ud), .second, .val (.long ue), .second, .val (.int vd), .val (.int vk), .val (.double vs_), .second, .unset, .unset, .unset, .unset, .unset, .unset, .unset] [(.int (uc &&& (2147483647 : Int32)))])) (fun _ k => XS.iand X0.here hx rfl (hb hby at_32) rfl k) ?_
  refine own_by (B := s₁.setTop (mkF m 36 #[.val (.int ua), .val (.int ub), .val (.int uc), .val (.long ud), .second, .val (.long ue), .second, .val (.int vd), .val (.int vk), .val (.double vs_), .second, .unset, .unset, .unset, .unset, .unset, .unset, .unset] [(.int (1001 : Int32)), (.int (uc &&& (2147483647 : Int32)))])) (fun _ k => XS.sipush X0.here hx rfl (hb hby at_33) k) ?_
  refine own_by (B := s₁.setTop (mkF m 37 #[.val (.int ua), .val (.int ub), .val (.int uc), .val (.long ud), .second, .val (.long ue), .second, .val (.int vd), .val (.int vk), .val (.double vs_), .second, .unset, .unset, .unset, .unset, .unset, .unset, .unset] [(.int ((uc &&& (2147483647 : Int32)) % (1001 : Int32)))])) (fun _ k => iremM (g := (mkF m 36 #[.val (.int ua), .val (.int ub), .val (.int uc), .val (.long ud), .second, .val (.long ue), .second, .val (.int vd), .val (.int vk), .val (.double vs_), .second, .unset, .unset, .unset, .unset, .unset, .unset, .unset] [(.int (1001 : Int32)), (.int (uc &&& (2147483647 : Int32)))])) X0 hx rfl (hb hby at_36) rfl (by decide) k) ?_
  obtain ⟨vb, hvb⟩ : ∃ z : Int32, z = ((uc &&& (2147483647 : Int32)) % (1001 : Int32)) := ⟨_, rfl⟩
  rw [← hvb]
  have hbg : 0 ≤ vb.toInt ∧ vb.toInt ≤ 1000 := hvb ▸ own_b uc
  refine own_by (B := s₁.setTop (mkF m 39 #[.val (.int ua), .val (.int ub), .val (.int uc), .val (.long ud), .second, .val (.long ue), .second, .val (.int vd), .val (.int vk), .val (.double vs_), .second, .val (.int vb), .unset, .unset, .unset, .unset, .unset, .unset] [])) (fun _ k => XS.istore X0.here hx rfl (hb hby at_37) rfl (l' := #[.val (.int ua), .val (.int ub), .val (.int uc), .val (.long ud), .second, .val (.long ue), .second, .val (.int vd), .val (.int vk), .val (.double vs_), .second, .val (.int vb), .unset, .unset, .unset, .unset, .unset, .unset]) rfl k) ?_
  refine own_by (B := s₁.setTop (mkF m 40 #[.val (.int ua), .val (.int ub), .val (.int uc), .val (.long ud), .second, .val (.long ue), .second, .val (.int vd), .val (.int vk), .val (.double vs_), .second, .val (.int vb), .unset, .unset, .unset, .unset, .unset, .unset] [(.long (1 : Int64))])) (fun _ k => XT.lconst X0.here hx rfl (hb hby at_39) k) ?_
  refine own_by (B := s₁.setTop (mkF m 41 #[.val (.int ua), .val (.int ub), .val (.int uc), .val (.long ud), .second, .val (.long ue), .second, .val (.int vd), .val (.int vk), .val (.double vs_), .second, .val (.int vb), .unset, .unset, .unset, .unset, .unset, .unset] [(.long ud), (.long (1 : Int64))])) (fun _ k => XT.lloadN X0.here hx rfl (hb hby at_40) rfl  k) ?_
  refine own_by (B := s₁.setTop (mkF m 44 #[.val (.int ua), .val (.int ub), .val (.int uc), .val (.long ud), .second, .val (.long ue), .second, .val (.int vd), .val (.int vk), .val (.double vs_), .second, .val (.int vb), .unset, .unset, .unset, .unset, .unset, .unset] [(.long (9223372036854775807 : Int64)), (.long ud), (.long (1 : Int64))])) (fun _ k => X0.ldc2J (g := (mkF m 41 #[.val (.int ua), .val (.int ub), .val (.int uc), .val (.long ud), .second, .val (.long ue), .second, .val (.int vd), .val (.int vk), .val (.double vs_), .second, .val (.int vb), .unset, .unset, .unset, .unset, .unset, .unset] [(.long ud), (.long (1 : Int64))])) hx hown (mvT hZ (hw _ (List.mem_of_getElem? (i := 1) rfl))) rfl (hb hby at_41) k) ?_
  refine own_by (B := s₁.setTop (mkF m 45 #[.val (.int ua), .val (.int ub), .val (.int uc), .val (.long ud), .second, .val (.long ue), .second, .val (.int vd), .val (.int vk), .val (.double vs_), .second, .val (.int vb), .unset, .unset, .unset, .unset, .unset, .unset] [(.long (ud &&& (9223372036854775807 : Int64))), (.long (1 : Int64))])) (fun _ k => XT.land X0.here hx rfl (hb hby at_44) rfl k) ?_
  refine own_by (B := s₁.setTop (mkF m 48 #[.val (.int ua), .val (.int ub), .val (.int uc), .val (.long ud), .second, .val (.long ue), .second, .val (.int vd), .val (.int vk), .val (.double vs_), .second, .val (.int vb), .unset, .unset, .unset, .unset, .unset, .unset] [(.long (86400000 : Int64)), (.long (ud &&& (9223372036854775807 : Int64))), (.long (1 : Int64))])) (fun _ k => X0.ldc2J (g := (mkF m 45 #[.val (.int ua), .val (.int ub), .val (.int uc), .val (.long ud), .second, .val (.long ue), .second, .val (.int vd), .val (.int vk), .val (.double vs_), .second, .val (.int vb), .unset, .unset, .unset, .unset, .unset, .unset] [(.long (ud &&& (9223372036854775807 : Int64))), (.long (1 : Int64))])) hx hown (mvT hZ (hw _ (List.mem_of_getElem? (i := 2) rfl))) rfl (hb hby at_45) k) ?_
  refine own_by (B := s₁.setTop (mkF m 49 #[.val (.int ua), .val (.int ub), .val (.int uc), .val (.long ud), .second, .val (.long ue), .second, .val (.int vd), .val (.int vk), .val (.double vs_), .second, .val (.int vb), .unset, .unset, .unset, .unset, .unset, .unset] [(.long ((ud &&& (9223372036854775807 : Int64)) - ((ud &&& (9223372036854775807 : Int64)) / (86400000 : Int64)) * (86400000 : Int64))), (.long (1 : Int64))])) (fun _ k => XT.lrem X0.here hx rfl (hb hby at_48) rfl (by decide) k) ?_
  refine own_by (B := s₁.setTop (mkF m 50 #[.val (.int ua), .val (.int ub), .val (.int uc), .val (.long ud), .second, .val (.long ue), .second, .val (.int vd), .val (.int vk), .val (.double vs_), .second, .val (.int vb), .unset, .unset, .unset, .unset, .unset, .unset] [(.long ((1 : Int64) + ((ud &&& (9223372036854775807 : Int64)) - ((ud &&& (9223372036854775807 : Int64)) / (86400000 : Int64)) * (86400000 : Int64))))])) (fun _ k => XT.ladd X0.here hx rfl (hb hby at_49) rfl k) ?_
  obtain ⟨vp, hvp⟩ : ∃ z : Int64, z = ((1 : Int64) + ((ud &&& (9223372036854775807 : Int64)) - ((ud &&& (9223372036854775807 : Int64)) / (86400000 : Int64)) * (86400000 : Int64))) := ⟨_, rfl⟩
  rw [← hvp]
  have hpg : 1 ≤ vp.toInt ∧ vp.toInt ≤ 86400000 := hvp ▸ own_per ud
  refine own_by (B := s₁.setTop (mkF m 52 #[.val (.int ua), .val (.int ub), .val (.int uc), .val (.long ud), .second, .val (.long ue), .second, .val (.int vd), .val (.int vk), .val (.double vs_), .second, .val (.int vb), .val (.long vp), .second, .unset, .unset, .unset, .unset] [])) (fun _ k => XT.lstore X0.here hx rfl (hb hby at_50) rfl (l' := #[.val (.int ua), .val (.int ub), .val (.int uc), .val (.long ud), .second, .val (.long ue), .second, .val (.int vd), .val (.int vk), .val (.double vs_), .second, .val (.int vb), .val (.long vp), .second, .unset, .unset, .unset, .unset]) rfl k) ?_
  obtain ⟨T1, h1, X1, e1, E1, A1, D1, -, st1⟩ := newO X0 hx hZ hown (hw _ (List.mem_of_getElem? (i := 3) rfl)) (hw _ (List.mem_of_getElem? (i := 4) rfl)) (hw _ (List.mem_of_getElem? (i := 5) rfl)) e0 (g := (mkF m 52 #[.val (.int ua), .val (.int ub), .val (.int uc), .val (.long ud), .second, .val (.long ue), .second, .val (.int vd), .val (.int vk), .val (.double vs_), .second, .val (.int vb), .val (.long vp), .second, .unset, .unset, .unset, .unset] [])) rfl (hb hby at_52) (by decide) (by decide)
  obtain ⟨b1, g1⟩ : ∃ z, z = h0.size := ⟨_, rfl⟩
  rw [← g1] at A1 D1 st1
  have sz1 := E1.1
  have gn1 : n0 ≤ b1 := g1 ▸ own_old_le O0
  have fz1 : h0.size ≤ b1 := g1 ▸ K0.1
  have lt1 := own_lt A1.lt
  have O1 := O0.ext E1
  have K1 := K0.ext E1
  have F1_cpuShare : Fld Z h1 b1 "com/example/convene/convene/cluster/MachineModel" "cpuShare" "D" (.double 0) := D1 (Or.inr (hw _ (List.mem_of_getElem? (i := 20) rfl))) (ty := .double) (by decide)
  have F1_background : Fld Z h1 b1 "com/example/convene/convene/cluster/MachineModel" "background" "I" (.int (0 : Int32)) := D1 (Or.inr (hw _ (List.mem_of_getElem? (i := 22) rfl))) (ty := .int) (by decide)
  have F1_periodMs : Fld Z h1 b1 "com/example/convene/convene/cluster/MachineModel" "periodMs" "J" (.long (0 : Int64)) := D1 (Or.inr (hw _ (List.mem_of_getElem? (i := 24) rfl))) (ty := .long) (by decide)
  have F1_seed : Fld Z h1 b1 "com/example/convene/convene/cluster/MachineModel" "seed" "J" (.long (0 : Int64)) := D1 (Or.inr (hw _ (List.mem_of_getElem? (i := 26) rfl))) (ty := .long) (by decide)
  refine own_by (B := T1.setTop (mkF m 55 #[.val (.int ua), .val (.int ub), .val (.int uc), .val (.long ud), .second, .val (.long ue), .second, .val (.int vd), .val (.int vk), .val (.double vs_), .second, .val (.int vb), .val (.long vp), .second, .unset, .unset, .unset, .unset] [(.ref b1)])) st1 ?_
  refine own_by (B := T1.setTop (mkF m 56 #[.val (.int ua), .val (.int ub), .val (.int uc), .val (.long ud), .second, .val (.long ue), .second, .val (.int vd), .val (.int vk), .val (.double vs_), .second, .val (.int vb), .val (.long vp), .second, .unset, .unset, .unset, .unset] [(.ref b1), (.ref b1)])) (fun _ k => XS.dup X1.here hx rfl (hb hby at_55) rfl rfl k) ?_
  refine own_by (B := T1.setTop (mkF m 58 #[.val (.int ua), .val (.int ub), .val (.int uc), .val (.long ud), .second, .val (.long ue), .second, .val (.int vd), .val (.int vk), .val (.double vs_), .second, .val (.int vb), .val (.long vp), .second, .unset, .unset, .unset, .unset] [(.double vs_), (.ref b1), (.ref b1)])) (fun _ k => XS.dload X1.here hx rfl (hb hby at_56) rfl  k) ?_
  refine own_by (B := T1.setTop (mkF m 60 #[.val (.int ua), .val (.int ub), .val (.int uc), .val (.long ud), .second, .val (.long ue), .second, .val (.int vd), .val (.int vk), .val (.double vs_), .second, .val (.int vb), .val (.long vp), .second, .unset, .unset, .unset, .unset] [(.int vb), (.double vs_), (.ref b1), (.ref b1)])) (fun _ k => XS.iload X1.here hx rfl (hb hby at_58) rfl  k) ?_
  refine own_by (B := T1.setTop (mkF m 62 #[.val (.int ua), .val (.int ub), .val (.int uc), .val (.long ud), .second, .val (.long ue), .second, .val (.int vd), .val (.int vk), .val (.double vs_), .second, .val (.int vb), .val (.long vp), .second, .unset, .unset, .unset, .unset] [(.long vp), (.int vb), (.double vs_), (.ref b1), (.ref b1)])) (fun _ k => XT.lload X1.here hx rfl (hb hby at_60) rfl  k) ?_
  refine own_by (B := T1.setTop (mkF m 64 #[.val (.int ua), .val (.int ub), .val (.int uc), .val (.long ud), .second, .val (.long ue), .second, .val (.int vd), .val (.int vk), .val (.double vs_), .second, .val (.int vb), .val (.long vp), .second, .unset, .unset, .unset, .unset] [(.long ue), (.long vp), (.int vb), (.double vs_), (.ref b1), (.ref b1)])) (fun _ k => XT.lload X1.here hx rfl (hb hby at_62) rfl  k) ?_
  obtain ⟨_, _, ⟨T2, L2, k2, n2⟩, -, X2, ⟨Lc2, hQ2, l2, y2, z2⟩, st2⟩ := X1.specialBack hx (y := (⟨"com/example/convene/convene/cluster/MachineModel", "<init>", "(DIJJ)V"⟩ : MethodName)) rfl hown (mvT hZ (hw _ (List.mem_of_getElem? (i := 6) rfl))) (mvT hZ (hw _ (List.mem_of_getElem? (i := 7) rfl))) (mvT hZ (hw _ (List.mem_of_getElem? (i := 8) rfl))) (by decide) (backOf (W := 1) (rmCt l Z a0 hw [] b1 vs_ vb vp ue (if vk = vd then (0 : Int32) else (-1 : Int32)) h1 n0 (own_old_le O1) O1 A1 F1_cpuShare F1_background F1_periodMs F1_seed gn1 SM hs0 hs1 (own_ug vk vd) (own_bn hbg) (own_pn hpg)) hZ (hw _ (List.mem_of_getElem? (i := 8) rfl)) (hw _ (List.mem_of_getElem? (i := 5) rfl)) (by decide) (by decide)) (g := (mkF m 64 #[.val (.int ua), .val (.int ub), .val (.int uc), .val (.long ud), .second, .val (.long ue), .second, .val (.int vd), .val (.int vk), .val (.double vs_), .second, .val (.int vb), .val (.long vp), .second, .unset, .unset, .unset, .unset] [(.long ue), (.long vp), (.int vb), (.double vs_), (.ref b1), (.ref b1)])) rfl (by rw [hml]; rfl) (Steps.refl _) (a := b1) (argsL := [(.double vs_), (.int vb), (.long vp), (.long ue)]) (rest := [(.ref b1)]) (lenOf pd_0__DIJJ_V rfl) rfl (by show 2 * 0 + _ ≤ _; exact Nat.le_of_eq rfl) (hb hby at_64) (fun _ _ => ⟨rfl, e1, (by decide : 1 + 0 ≤ _), (by decide : 4 + 0 ≤ _)⟩)
  dsimp only [Pt.U, Pt.locs, Pt.cells, Pt.slots] at X2 l2 y2 z2 st2 hQ2
  subst l2 y2 z2
  obtain ⟨rfl, NC2, KC2, EC2, FC2_0, FC2_1, FC2_2, FC2_3⟩ := hQ2
  refine own_by (B := T2.setTop (mkF m 67 #[.val (.int ua), .val (.int ub), .val (.int uc), .val (.long ud), .second, .val (.long ue), .second, .val (.int vd), .val (.int vk), .val (.double vs_), .second, .val (.int vb), .val (.long vp), .second, .unset, .unset, .unset, .unset] [(.ref b1)])) (fun _ k => st2.trans k) ?_
  obtain ⟨h2, e2⟩ : ∃ z, T2.heap = z := ⟨_, rfl⟩
  rw [e2] at KC2 EC2 FC2_0 FC2_1 FC2_2 FC2_3
  have sz2 := KC2.1
  have O2 := O1.keep KC2 (allS gn1 all0)
  have K2 := K1.trans KC2 (allS (Or.inr fz1) all0)
  have N2 := Fr.app N0 NC2
  refine own_by (B := T2.setTop (mkF m 69 #[.val (.int ua), .val (.int ub), .val (.int uc), .val (.long ud), .second, .val (.long ue), .second, .val (.int vd), .val (.int vk), .val (.double vs_), .second, .val (.int vb), .val (.long vp), .second, .val (.ref b1), .unset, .unset, .unset] [])) (fun _ k => XS.astore X2.here hx rfl (hb hby at_67) rfl rfl (l' := #[.val (.int ua), .val (.int ub), .val (.int uc), .val (.long ud), .second, .val (.long ue), .second, .val (.int vd), .val (.int vk), .val (.double vs_), .second, .val (.int vb), .val (.long vp), .second, .val (.ref b1), .unset, .unset, .unset]) rfl k) ?_
  refine own_by (B := T2.setTop (mkF m 71 #[.val (.int ua), .val (.int ub), .val (.int uc), .val (.long ud), .second, .val (.long ue), .second, .val (.int vd), .val (.int vk), .val (.double vs_), .second, .val (.int vb), .val (.long vp), .second, .val (.ref b1), .unset, .unset, .unset] [(.int vk)])) (fun _ k => XS.iload X2.here hx rfl (hb hby at_69) rfl  k) ?_
  refine own_by (B := T2.setTop (mkF m 73 #[.val (.int ua), .val (.int ub), .val (.int uc), .val (.long ud), .second, .val (.long ue), .second, .val (.int vd), .val (.int vk), .val (.double vs_), .second, .val (.int vb), .val (.long vp), .second, .val (.ref b1), .unset, .unset, .unset] [(.int vd), (.int vk)])) (fun _ k => XS.iload X2.here hx rfl (hb hby at_71) rfl  k) ?_
  by_cases hc3 : vk = vd
  · refine own_by (B := T2.setTop (mkF m 76 #[.val (.int ua), .val (.int ub), .val (.int uc), .val (.long ud), .second, .val (.long ue), .second, .val (.int vd), .val (.int vk), .val (.double vs_), .second, .val (.int vb), .val (.long vp), .second, .val (.ref b1), .unset, .unset, .unset] [])) (fun _ k => XS.icmpNo X2.here hx rfl (hb hby at_73) rfl (XT.ii_ne_f hc3) k) ?_
    refine own_by (B := T2.setTop (mkF m 77 #[.val (.int ua), .val (.int ub), .val (.int uc), .val (.long ud), .second, .val (.long ue), .second, .val (.int vd), .val (.int vk), .val (.double vs_), .second, .val (.int vb), .val (.long vp), .second, .val (.ref b1), .unset, .unset, .unset] [(.int (1 : Int32))])) (fun _ k => XS.iconst X2.here hx rfl (hb hby at_76) k) ?_
    refine own_by (B := T2.setTop (mkF m 81 #[.val (.int ua), .val (.int ub), .val (.int uc), .val (.long ud), .second, .val (.long ue), .second, .val (.int vd), .val (.int vk), .val (.double vs_), .second, .val (.int vb), .val (.long vp), .second, .val (.ref b1), .unset, .unset, .unset] [(.int (1 : Int32))])) (fun _ k => XS.goto X2.here hx rfl (pc0 := 77) (pc' := 81) rfl (hb hby at_77) (by decide) (by decide) k) ?_
    refine own_by (B := T2.setTop (mkF m 83 #[.val (.int ua), .val (.int ub), .val (.int uc), .val (.long ud), .second, .val (.long ue), .second, .val (.int vd), .val (.int vk), .val (.double vs_), .second, .val (.int vb), .val (.long vp), .second, .val (.ref b1), .val (.int (1 : Int32)), .unset, .unset] [])) (fun _ k => XS.istore X2.here hx rfl (hb hby at_81) rfl (l' := #[.val (.int ua), .val (.int ub), .val (.int uc), .val (.long ud), .second, .val (.long ue), .second, .val (.int vd), .val (.int vk), .val (.double vs_), .second, .val (.int vb), .val (.long vp), .second, .val (.ref b1), .val (.int (1 : Int32)), .unset, .unset]) rfl k) ?_
    refine own_by (B := T2.setTop (mkF m 85 #[.val (.int ua), .val (.int ub), .val (.int uc), .val (.long ud), .second, .val (.long ue), .second, .val (.int vd), .val (.int vk), .val (.double vs_), .second, .val (.int vb), .val (.long vp), .second, .val (.ref b1), .val (.int (1 : Int32)), .unset, .unset] [(.int vb)])) (fun _ k => XS.iload X2.here hx rfl (hb hby at_83) rfl  k) ?_
    by_cases hc4 : vb = (0 : Int32)
    · refine own_by (B := T2.setTop (mkF m 88 #[.val (.int ua), .val (.int ub), .val (.int uc), .val (.long ud), .second, .val (.long ue), .second, .val (.int vd), .val (.int vk), .val (.double vs_), .second, .val (.int vb), .val (.long vp), .second, .val (.ref b1), .val (.int (1 : Int32)), .unset, .unset] [])) (fun _ k => XS.ifNo X2.here hx rfl (hb hby at_85) rfl (XT.i0_ne_f hc4) k) ?_
      refine own_by (B := T2.setTop (mkF m 89 #[.val (.int ua), .val (.int ub), .val (.int uc), .val (.long ud), .second, .val (.long ue), .second, .val (.int vd), .val (.int vk), .val (.double vs_), .second, .val (.int vb), .val (.long vp), .second, .val (.ref b1), .val (.int (1 : Int32)), .unset, .unset] [(.int (1 : Int32))])) (fun _ k => XS.iconst X2.here hx rfl (hb hby at_88) k) ?_
      refine own_by (B := T2.setTop (mkF m 93 #[.val (.int ua), .val (.int ub), .val (.int uc), .val (.long ud), .second, .val (.long ue), .second, .val (.int vd), .val (.int vk), .val (.double vs_), .second, .val (.int vb), .val (.long vp), .second, .val (.ref b1), .val (.int (1 : Int32)), .unset, .unset] [(.int (1 : Int32))])) (fun _ k => XS.goto X2.here hx rfl (pc0 := 89) (pc' := 93) rfl (hb hby at_89) (by decide) (by decide) k) ?_
      refine own_by (B := T2.setTop (mkF m 95 #[.val (.int ua), .val (.int ub), .val (.int uc), .val (.long ud), .second, .val (.long ue), .second, .val (.int vd), .val (.int vk), .val (.double vs_), .second, .val (.int vb), .val (.long vp), .second, .val (.ref b1), .val (.int (1 : Int32)), .val (.int (1 : Int32)), .unset] [])) (fun _ k => XS.istore X2.here hx rfl (hb hby at_93) rfl (l' := #[.val (.int ua), .val (.int ub), .val (.int uc), .val (.long ud), .second, .val (.long ue), .second, .val (.int vd), .val (.int vk), .val (.double vs_), .second, .val (.int vb), .val (.long vp), .second, .val (.ref b1), .val (.int (1 : Int32)), .val (.int (1 : Int32)), .unset]) rfl k) ?_
      refine own_by (B := T2.setTop (mkF m 97 #[.val (.int ua), .val (.int ub), .val (.int uc), .val (.long ud), .second, .val (.long ue), .second, .val (.int vd), .val (.int vk), .val (.double vs_), .second, .val (.int vb), .val (.long vp), .second, .val (.ref b1), .val (.int (1 : Int32)), .val (.int (1 : Int32)), .unset] [(.int (1 : Int32))])) (fun _ k => XS.iload X2.here hx rfl (hb hby at_95) rfl  k) ?_
      refine own_by (B := T2.setTop (mkF m 100 #[.val (.int ua), .val (.int ub), .val (.int uc), .val (.long ud), .second, .val (.long ue), .second, .val (.int vd), .val (.int vk), .val (.double vs_), .second, .val (.int vb), .val (.long vp), .second, .val (.ref b1), .val (.int (1 : Int32)), .val (.int (1 : Int32)), .unset] [])) (fun _ k => XS.ifNo X2.here hx rfl (hb hby at_97) rfl (XT.i0_eq_f (by decide)) k) ?_
      refine own_by (B := T2.setTop (mkF m 102 #[.val (.int ua), .val (.int ub), .val (.int uc), .val (.long ud), .second, .val (.long ue), .second, .val (.int vd), .val (.int vk), .val (.double vs_), .second, .val (.int vb), .val (.long vp), .second, .val (.ref b1), .val (.int (1 : Int32)), .val (.int (1 : Int32)), .unset] [(.int (1 : Int32))])) (fun _ k => XS.iload X2.here hx rfl (hb hby at_100) rfl  k) ?_
      refine own_by (B := T2.setTop (mkF m 109 #[.val (.int ua), .val (.int ub), .val (.int uc), .val (.long ud), .second, .val (.long ue), .second, .val (.int vd), .val (.int vk), .val (.double vs_), .second, .val (.int vb), .val (.long vp), .second, .val (.ref b1), .val (.int (1 : Int32)), .val (.int (1 : Int32)), .unset] [])) (fun _ k => XS.ifYes X2.here hx rfl (pc0 := 102) (pc' := 109) rfl (hb hby at_102) rfl (XT.i0_ne_t (by decide)) (by decide) (by decide) k) ?_
      refine own_by (B := T2.setTop (mkF m 110 #[.val (.int ua), .val (.int ub), .val (.int uc), .val (.long ud), .second, .val (.long ue), .second, .val (.int vd), .val (.int vk), .val (.double vs_), .second, .val (.int vb), .val (.long vp), .second, .val (.ref b1), .val (.int (1 : Int32)), .val (.int (1 : Int32)), .unset] [(.int (0 : Int32))])) (fun _ k => XS.iconst X2.here hx rfl (hb hby at_109) k) ?_
      refine own_by (B := T2.setTop (mkF m 112 #[.val (.int ua), .val (.int ub), .val (.int uc), .val (.long ud), .second, .val (.long ue), .second, .val (.int vd), .val (.int vk), .val (.double vs_), .second, .val (.int vb), .val (.long vp), .second, .val (.ref b1), .val (.int (1 : Int32)), .val (.int (1 : Int32)), .val (.int (0 : Int32))] [])) (fun _ k => XS.istore X2.here hx rfl (hb hby at_110) rfl (l' := #[.val (.int ua), .val (.int ub), .val (.int uc), .val (.long ud), .second, .val (.long ue), .second, .val (.int vd), .val (.int vk), .val (.double vs_), .second, .val (.int vb), .val (.long vp), .second, .val (.ref b1), .val (.int (1 : Int32)), .val (.int (1 : Int32)), .val (.int (0 : Int32))]) rfl k) ?_
      refine own_by (B := T2.setTop (mkF m 114 #[.val (.int ua), .val (.int ub), .val (.int uc), .val (.long ud), .second, .val (.long ue), .second, .val (.int vd), .val (.int vk), .val (.double vs_), .second, .val (.int vb), .val (.long vp), .second, .val (.ref b1), .val (.int (1 : Int32)), .val (.int (1 : Int32)), .val (.int (0 : Int32))] [(.ref b1)])) (fun _ k => XS.aload X2.here hx rfl (hb hby at_112) rfl rfl  k) ?_
      obtain ⟨cq5, kq5, qa5, qb5, qc5⟩ := isOf hZ e2 EC2
      obtain ⟨_, _, ⟨T5, L5, k5, n5⟩, -, X5, ⟨Lc5, hQ5, l5, y5, z5⟩, st5⟩ := X2.virtualBack hx (y := (⟨"com/example/convene/convene/cluster/MachineModel", "paces", "()Z"⟩ : MethodName)) (z := (⟨"com/example/convene/convene/cluster/MachineModel", "paces", "()Z"⟩ : MethodName)) hown (mvT hZ (hw _ (List.mem_of_getElem? (i := 27) rfl))) (mvT hZ (hw _ (List.mem_of_getElem? (i := 28) rfl))) (notFace_of_selects (args := #[]) (mvT hZ (hw _ (List.mem_of_getElem? (i := 30) rfl)))) (mvT hZ (hw _ (List.mem_of_getElem? (i := 30) rfl))) (mvT hZ (hw _ (List.mem_of_getElem? (i := 29) rfl))) (by decide) (backOf (W := 0) (rmPc l Z a0 hw [] b1 vs_ vb (if vk = vd then (0 : Int32) else (-1 : Int32)) h2 n0 (own_old_le O2) FC2_0 FC2_1 hs1) hZ (hw _ (List.mem_of_getElem? (i := 31) rfl)) (hw _ (List.mem_of_getElem? (i := 5) rfl)) (by decide) (by decide)) qa5 qc5 (g := (mkF m 114 #[.val (.int ua), .val (.int ub), .val (.int uc), .val (.long ud), .second, .val (.long ue), .second, .val (.int vd), .val (.int vk), .val (.double vs_), .second, .val (.int vb), .val (.long vp), .second, .val (.ref b1), .val (.int (1 : Int32)), .val (.int (1 : Int32)), .val (.int (0 : Int32))] [(.ref b1)])) rfl (by rw [hml]; rfl) (Steps.refl _) (argsL := []) (rest := []) (lenOf pd_0___Z rfl) rfl (by show 2 * 0 + _ ≤ _; exact Nat.le_of_eq rfl) (hb hby at_114) (fun _ _ => ⟨rfl, e2, (by decide : 1 + 0 ≤ _), (by decide : 4 + 0 ≤ _)⟩)
      dsimp only [Pt.U, Pt.locs, Pt.cells, Pt.slots] at X5 l5 y5 z5 st5 hQ5
      subst l5 y5 z5
      obtain ⟨rfl, N5, e5⟩ := hQ5
      refine own_by (B := T5.setTop (mkF m 117 #[.val (.int ua), .val (.int ub), .val (.int uc), .val (.long ud), .second, .val (.long ue), .second, .val (.int vd), .val (.int vk), .val (.double vs_), .second, .val (.int vb), .val (.long vp), .second, .val (.ref b1), .val (.int (1 : Int32)), .val (.int (1 : Int32)), .val (.int (0 : Int32))] [(.int (own_pc (if vk = vd then (0 : Int32) else (-1 : Int32)) vb))])) (fun _ k => st5.trans k) ?_
      have M5 := Fr.app N2 N5
      refine own_by (B := T5.setTop (mkF m 119 #[.val (.int ua), .val (.int ub), .val (.int uc), .val (.long ud), .second, .val (.long ue), .second, .val (.int vd), .val (.int vk), .val (.double vs_), .second, .val (.int vb), .val (.long vp), .second, .val (.ref b1), .val (.int (1 : Int32)), .val (.int (1 : Int32)), .val (.int (0 : Int32))] [(.int (0 : Int32)), (.int (own_pc (if vk = vd then (0 : Int32) else (-1 : Int32)) vb))])) (fun _ k => XS.iload X5.here hx rfl (hb hby at_117) rfl  k) ?_
      refine own_by (B := T5.setTop (mkF m 122 #[.val (.int ua), .val (.int ub), .val (.int uc), .val (.long ud), .second, .val (.long ue), .second, .val (.int vd), .val (.int vk), .val (.double vs_), .second, .val (.int vb), .val (.long vp), .second, .val (.ref b1), .val (.int (1 : Int32)), .val (.int (1 : Int32)), .val (.int (0 : Int32))] [])) (fun _ k => XS.icmpNo X5.here hx rfl (hb hby at_119) rfl (XT.ii_ne_f (by rw [own_pcs vk vd vb hbg, if_pos hc3, if_pos hc4])) k) ?_
      refine own_by (B := T5.setTop (mkF m 123 #[.val (.int ua), .val (.int ub), .val (.int uc), .val (.long ud), .second, .val (.long ue), .second, .val (.int vd), .val (.int vk), .val (.double vs_), .second, .val (.int vb), .val (.long vp), .second, .val (.ref b1), .val (.int (1 : Int32)), .val (.int (1 : Int32)), .val (.int (0 : Int32))] [(.int (1 : Int32))])) (fun _ k => XS.iconst X5.here hx rfl (hb hby at_122) k) ?_
      refine own_by (B := T5.setTop (mkF m 127 #[.val (.int ua), .val (.int ub), .val (.int uc), .val (.long ud), .second, .val (.long ue), .second, .val (.int vd), .val (.int vk), .val (.double vs_), .second, .val (.int vb), .val (.long vp), .second, .val (.ref b1), .val (.int (1 : Int32)), .val (.int (1 : Int32)), .val (.int (0 : Int32))] [(.int (1 : Int32))])) (fun _ k => XS.goto X5.here hx rfl (pc0 := 123) (pc' := 127) rfl (hb hby at_123) (by decide) (by decide) k) ?_
      exact own_retZ X5 hx hrt hlk rfl (hb hby at_127) (by decide) (by decide) ⟨rfl, M5⟩
    · refine own_by (B := T2.setTop (mkF m 92 #[.val (.int ua), .val (.int ub), .val (.int uc), .val (.long ud), .second, .val (.long ue), .second, .val (.int vd), .val (.int vk), .val (.double vs_), .second, .val (.int vb), .val (.long vp), .second, .val (.ref b1), .val (.int (1 : Int32)), .unset, .unset] [])) (fun _ k => XS.ifYes X2.here hx rfl (pc0 := 85) (pc' := 92) rfl (hb hby at_85) rfl (XT.i0_ne_t hc4) (by decide) (by decide) k) ?_
      refine own_by (B := T2.setTop (mkF m 93 #[.val (.int ua), .val (.int ub), .val (.int uc), .val (.long ud), .second, .val (.long ue), .second, .val (.int vd), .val (.int vk), .val (.double vs_), .second, .val (.int vb), .val (.long vp), .second, .val (.ref b1), .val (.int (1 : Int32)), .unset, .unset] [(.int (0 : Int32))])) (fun _ k => XS.iconst X2.here hx rfl (hb hby at_92) k) ?_
      refine own_by (B := T2.setTop (mkF m 95 #[.val (.int ua), .val (.int ub), .val (.int uc), .val (.long ud), .second, .val (.long ue), .second, .val (.int vd), .val (.int vk), .val (.double vs_), .second, .val (.int vb), .val (.long vp), .second, .val (.ref b1), .val (.int (1 : Int32)), .val (.int (0 : Int32)), .unset] [])) (fun _ k => XS.istore X2.here hx rfl (hb hby at_93) rfl (l' := #[.val (.int ua), .val (.int ub), .val (.int uc), .val (.long ud), .second, .val (.long ue), .second, .val (.int vd), .val (.int vk), .val (.double vs_), .second, .val (.int vb), .val (.long vp), .second, .val (.ref b1), .val (.int (1 : Int32)), .val (.int (0 : Int32)), .unset]) rfl k) ?_
      refine own_by (B := T2.setTop (mkF m 97 #[.val (.int ua), .val (.int ub), .val (.int uc), .val (.long ud), .second, .val (.long ue), .second, .val (.int vd), .val (.int vk), .val (.double vs_), .second, .val (.int vb), .val (.long vp), .second, .val (.ref b1), .val (.int (1 : Int32)), .val (.int (0 : Int32)), .unset] [(.int (1 : Int32))])) (fun _ k => XS.iload X2.here hx rfl (hb hby at_95) rfl  k) ?_
      refine own_by (B := T2.setTop (mkF m 100 #[.val (.int ua), .val (.int ub), .val (.int uc), .val (.long ud), .second, .val (.long ue), .second, .val (.int vd), .val (.int vk), .val (.double vs_), .second, .val (.int vb), .val (.long vp), .second, .val (.ref b1), .val (.int (1 : Int32)), .val (.int (0 : Int32)), .unset] [])) (fun _ k => XS.ifNo X2.here hx rfl (hb hby at_97) rfl (XT.i0_eq_f (by decide)) k) ?_
      refine own_by (B := T2.setTop (mkF m 102 #[.val (.int ua), .val (.int ub), .val (.int uc), .val (.long ud), .second, .val (.long ue), .second, .val (.int vd), .val (.int vk), .val (.double vs_), .second, .val (.int vb), .val (.long vp), .second, .val (.ref b1), .val (.int (1 : Int32)), .val (.int (0 : Int32)), .unset] [(.int (0 : Int32))])) (fun _ k => XS.iload X2.here hx rfl (hb hby at_100) rfl  k) ?_
      refine own_by (B := T2.setTop (mkF m 105 #[.val (.int ua), .val (.int ub), .val (.int uc), .val (.long ud), .second, .val (.long ue), .second, .val (.int vd), .val (.int vk), .val (.double vs_), .second, .val (.int vb), .val (.long vp), .second, .val (.ref b1), .val (.int (1 : Int32)), .val (.int (0 : Int32)), .unset] [])) (fun _ k => XS.ifNo X2.here hx rfl (hb hby at_102) rfl (XT.i0_ne_f (by decide)) k) ?_
      refine own_by (B := T2.setTop (mkF m 106 #[.val (.int ua), .val (.int ub), .val (.int uc), .val (.long ud), .second, .val (.long ue), .second, .val (.int vd), .val (.int vk), .val (.double vs_), .second, .val (.int vb), .val (.long vp), .second, .val (.ref b1), .val (.int (1 : Int32)), .val (.int (0 : Int32)), .unset] [(.int (1 : Int32))])) (fun _ k => XS.iconst X2.here hx rfl (hb hby at_105) k) ?_
      refine own_by (B := T2.setTop (mkF m 110 #[.val (.int ua), .val (.int ub), .val (.int uc), .val (.long ud), .second, .val (.long ue), .second, .val (.int vd), .val (.int vk), .val (.double vs_), .second, .val (.int vb), .val (.long vp), .second, .val (.ref b1), .val (.int (1 : Int32)), .val (.int (0 : Int32)), .unset] [(.int (1 : Int32))])) (fun _ k => XS.goto X2.here hx rfl (pc0 := 106) (pc' := 110) rfl (hb hby at_106) (by decide) (by decide) k) ?_
      refine own_by (B := T2.setTop (mkF m 112 #[.val (.int ua), .val (.int ub), .val (.int uc), .val (.long ud), .second, .val (.long ue), .second, .val (.int vd), .val (.int vk), .val (.double vs_), .second, .val (.int vb), .val (.long vp), .second, .val (.ref b1), .val (.int (1 : Int32)), .val (.int (0 : Int32)), .val (.int (1 : Int32))] [])) (fun _ k => XS.istore X2.here hx rfl (hb hby at_110) rfl (l' := #[.val (.int ua), .val (.int ub), .val (.int uc), .val (.long ud), .second, .val (.long ue), .second, .val (.int vd), .val (.int vk), .val (.double vs_), .second, .val (.int vb), .val (.long vp), .second, .val (.ref b1), .val (.int (1 : Int32)), .val (.int (0 : Int32)), .val (.int (1 : Int32))]) rfl k) ?_
      refine own_by (B := T2.setTop (mkF m 114 #[.val (.int ua), .val (.int ub), .val (.int uc), .val (.long ud), .second, .val (.long ue), .second, .val (.int vd), .val (.int vk), .val (.double vs_), .second, .val (.int vb), .val (.long vp), .second, .val (.ref b1), .val (.int (1 : Int32)), .val (.int (0 : Int32)), .val (.int (1 : Int32))] [(.ref b1)])) (fun _ k => XS.aload X2.here hx rfl (hb hby at_112) rfl rfl  k) ?_
      obtain ⟨cq6, kq6, qa6, qb6, qc6⟩ := isOf hZ e2 EC2
      obtain ⟨_, _, ⟨T6, L6, k6, n6⟩, -, X6, ⟨Lc6, hQ6, l6, y6, z6⟩, st6⟩ := X2.virtualBack hx (y := (⟨"com/example/convene/convene/cluster/MachineModel", "paces", "()Z"⟩ : MethodName)) (z := (⟨"com/example/convene/convene/cluster/MachineModel", "paces", "()Z"⟩ : MethodName)) hown (mvT hZ (hw _ (List.mem_of_getElem? (i := 27) rfl))) (mvT hZ (hw _ (List.mem_of_getElem? (i := 28) rfl))) (notFace_of_selects (args := #[]) (mvT hZ (hw _ (List.mem_of_getElem? (i := 30) rfl)))) (mvT hZ (hw _ (List.mem_of_getElem? (i := 30) rfl))) (mvT hZ (hw _ (List.mem_of_getElem? (i := 29) rfl))) (by decide) (backOf (W := 0) (rmPc l Z a0 hw [] b1 vs_ vb (if vk = vd then (0 : Int32) else (-1 : Int32)) h2 n0 (own_old_le O2) FC2_0 FC2_1 hs1) hZ (hw _ (List.mem_of_getElem? (i := 31) rfl)) (hw _ (List.mem_of_getElem? (i := 5) rfl)) (by decide) (by decide)) qa6 qc6 (g := (mkF m 114 #[.val (.int ua), .val (.int ub), .val (.int uc), .val (.long ud), .second, .val (.long ue), .second, .val (.int vd), .val (.int vk), .val (.double vs_), .second, .val (.int vb), .val (.long vp), .second, .val (.ref b1), .val (.int (1 : Int32)), .val (.int (0 : Int32)), .val (.int (1 : Int32))] [(.ref b1)])) rfl (by rw [hml]; rfl) (Steps.refl _) (argsL := []) (rest := []) (lenOf pd_0___Z rfl) rfl (by show 2 * 0 + _ ≤ _; exact Nat.le_of_eq rfl) (hb hby at_114) (fun _ _ => ⟨rfl, e2, (by decide : 1 + 0 ≤ _), (by decide : 4 + 0 ≤ _)⟩)
      dsimp only [Pt.U, Pt.locs, Pt.cells, Pt.slots] at X6 l6 y6 z6 st6 hQ6
      subst l6 y6 z6
      obtain ⟨rfl, N6, e6⟩ := hQ6
      refine own_by (B := T6.setTop (mkF m 117 #[.val (.int ua), .val (.int ub), .val (.int uc), .val (.long ud), .second, .val (.long ue), .second, .val (.int vd), .val (.int vk), .val (.double vs_), .second, .val (.int vb), .val (.long vp), .second, .val (.ref b1), .val (.int (1 : Int32)), .val (.int (0 : Int32)), .val (.int (1 : Int32))] [(.int (own_pc (if vk = vd then (0 : Int32) else (-1 : Int32)) vb))])) (fun _ k => st6.trans k) ?_
      have M6 := Fr.app N2 N6
      refine own_by (B := T6.setTop (mkF m 119 #[.val (.int ua), .val (.int ub), .val (.int uc), .val (.long ud), .second, .val (.long ue), .second, .val (.int vd), .val (.int vk), .val (.double vs_), .second, .val (.int vb), .val (.long vp), .second, .val (.ref b1), .val (.int (1 : Int32)), .val (.int (0 : Int32)), .val (.int (1 : Int32))] [(.int (1 : Int32)), (.int (own_pc (if vk = vd then (0 : Int32) else (-1 : Int32)) vb))])) (fun _ k => XS.iload X6.here hx rfl (hb hby at_117) rfl  k) ?_
      refine own_by (B := T6.setTop (mkF m 122 #[.val (.int ua), .val (.int ub), .val (.int uc), .val (.long ud), .second, .val (.long ue), .second, .val (.int vd), .val (.int vk), .val (.double vs_), .second, .val (.int vb), .val (.long vp), .second, .val (.ref b1), .val (.int (1 : Int32)), .val (.int (0 : Int32)), .val (.int (1 : Int32))] [])) (fun _ k => XS.icmpNo X6.here hx rfl (hb hby at_119) rfl (XT.ii_ne_f (by rw [own_pcs vk vd vb hbg, if_pos hc3, if_neg hc4])) k) ?_
      refine own_by (B := T6.setTop (mkF m 123 #[.val (.int ua), .val (.int ub), .val (.int uc), .val (.long ud), .second, .val (.long ue), .second, .val (.int vd), .val (.int vk), .val (.double vs_), .second, .val (.int vb), .val (.long vp), .second, .val (.ref b1), .val (.int (1 : Int32)), .val (.int (0 : Int32)), .val (.int (1 : Int32))] [(.int (1 : Int32))])) (fun _ k => XS.iconst X6.here hx rfl (hb hby at_122) k) ?_
      refine own_by (B := T6.setTop (mkF m 127 #[.val (.int ua), .val (.int ub), .val (.int uc), .val (.long ud), .second, .val (.long ue), .second, .val (.int vd), .val (.int vk), .val (.double vs_), .second, .val (.int vb), .val (.long vp), .second, .val (.ref b1), .val (.int (1 : Int32)), .val (.int (0 : Int32)), .val (.int (1 : Int32))] [(.int (1 : Int32))])) (fun _ k => XS.goto X6.here hx rfl (pc0 := 123) (pc' := 127) rfl (hb hby at_123) (by decide) (by decide) k) ?_
      exact own_retZ X6 hx hrt hlk rfl (hb hby at_127) (by decide) (by decide) ⟨rfl, M6⟩
  · refine own_by (B := T2.setTop (mkF m 80 #[.val (.int ua), .val (.int ub), .val (.int uc), .val (.long ud), .second, .val (.long ue), .second, .val (.int vd), .val (.int vk), .val (.double vs_), .second, .val (.int vb), .val (.long vp), .second, .val (.ref b1), .unset, .unset, .unset] [])) (fun _ k => XS.icmpYes X2.here hx rfl (pc0 := 73) (pc' := 80) rfl (hb hby at_73) rfl (XT.ii_ne_t hc3) (by decide) (by decide) k) ?_
    refine own_by (B := T2.setTop (mkF m 81 #[.val (.int ua), .val (.int ub), .val (.int uc), .val (.long ud), .second, .val (.long ue), .second, .val (.int vd), .val (.int vk), .val (.double vs_), .second, .val (.int vb), .val (.long vp), .second, .val (.ref b1), .unset, .unset, .unset] [(.int (0 : Int32))])) (fun _ k => XS.iconst X2.here hx rfl (hb hby at_80) k) ?_
    refine own_by (B := T2.setTop (mkF m 83 #[.val (.int ua), .val (.int ub), .val (.int uc), .val (.long ud), .second, .val (.long ue), .second, .val (.int vd), .val (.int vk), .val (.double vs_), .second, .val (.int vb), .val (.long vp), .second, .val (.ref b1), .val (.int (0 : Int32)), .unset, .unset] [])) (fun _ k => XS.istore X2.here hx rfl (hb hby at_81) rfl (l' := #[.val (.int ua), .val (.int ub), .val (.int uc), .val (.long ud), .second, .val (.long ue), .second, .val (.int vd), .val (.int vk), .val (.double vs_), .second, .val (.int vb), .val (.long vp), .second, .val (.ref b1), .val (.int (0 : Int32)), .unset, .unset]) rfl k) ?_
    refine own_by (B := T2.setTop (mkF m 85 #[.val (.int ua), .val (.int ub), .val (.int uc), .val (.long ud), .second, .val (.long ue), .second, .val (.int vd), .val (.int vk), .val (.double vs_), .second, .val (.int vb), .val (.long vp), .second, .val (.ref b1), .val (.int (0 : Int32)), .unset, .unset] [(.int vb)])) (fun _ k => XS.iload X2.here hx rfl (hb hby at_83) rfl  k) ?_
    by_cases hc7 : vb = (0 : Int32)
    · refine own_by (B := T2.setTop (mkF m 88 #[.val (.int ua), .val (.int ub), .val (.int uc), .val (.long ud), .second, .val (.long ue), .second, .val (.int vd), .val (.int vk), .val (.double vs_), .second, .val (.int vb), .val (.long vp), .second, .val (.ref b1), .val (.int (0 : Int32)), .unset, .unset] [])) (fun _ k => XS.ifNo X2.here hx rfl (hb hby at_85) rfl (XT.i0_ne_f hc7) k) ?_
      refine own_by (B := T2.setTop (mkF m 89 #[.val (.int ua), .val (.int ub), .val (.int uc), .val (.long ud), .second, .val (.long ue), .second, .val (.int vd), .val (.int vk), .val (.double vs_), .second, .val (.int vb), .val (.long vp), .second, .val (.ref b1), .val (.int (0 : Int32)), .unset, .unset] [(.int (1 : Int32))])) (fun _ k => XS.iconst X2.here hx rfl (hb hby at_88) k) ?_
      refine own_by (B := T2.setTop (mkF m 93 #[.val (.int ua), .val (.int ub), .val (.int uc), .val (.long ud), .second, .val (.long ue), .second, .val (.int vd), .val (.int vk), .val (.double vs_), .second, .val (.int vb), .val (.long vp), .second, .val (.ref b1), .val (.int (0 : Int32)), .unset, .unset] [(.int (1 : Int32))])) (fun _ k => XS.goto X2.here hx rfl (pc0 := 89) (pc' := 93) rfl (hb hby at_89) (by decide) (by decide) k) ?_
      refine own_by (B := T2.setTop (mkF m 95 #[.val (.int ua), .val (.int ub), .val (.int uc), .val (.long ud), .second, .val (.long ue), .second, .val (.int vd), .val (.int vk), .val (.double vs_), .second, .val (.int vb), .val (.long vp), .second, .val (.ref b1), .val (.int (0 : Int32)), .val (.int (1 : Int32)), .unset] [])) (fun _ k => XS.istore X2.here hx rfl (hb hby at_93) rfl (l' := #[.val (.int ua), .val (.int ub), .val (.int uc), .val (.long ud), .second, .val (.long ue), .second, .val (.int vd), .val (.int vk), .val (.double vs_), .second, .val (.int vb), .val (.long vp), .second, .val (.ref b1), .val (.int (0 : Int32)), .val (.int (1 : Int32)), .unset]) rfl k) ?_
      refine own_by (B := T2.setTop (mkF m 97 #[.val (.int ua), .val (.int ub), .val (.int uc), .val (.long ud), .second, .val (.long ue), .second, .val (.int vd), .val (.int vk), .val (.double vs_), .second, .val (.int vb), .val (.long vp), .second, .val (.ref b1), .val (.int (0 : Int32)), .val (.int (1 : Int32)), .unset] [(.int (0 : Int32))])) (fun _ k => XS.iload X2.here hx rfl (hb hby at_95) rfl  k) ?_
      refine own_by (B := T2.setTop (mkF m 105 #[.val (.int ua), .val (.int ub), .val (.int uc), .val (.long ud), .second, .val (.long ue), .second, .val (.int vd), .val (.int vk), .val (.double vs_), .second, .val (.int vb), .val (.long vp), .second, .val (.ref b1), .val (.int (0 : Int32)), .val (.int (1 : Int32)), .unset] [])) (fun _ k => XS.ifYes X2.here hx rfl (pc0 := 97) (pc' := 105) rfl (hb hby at_97) rfl (XT.i0_eq_t (by decide)) (by decide) (by decide) k) ?_
      refine own_by (B := T2.setTop (mkF m 106 #[.val (.int ua), .val (.int ub), .val (.int uc), .val (.long ud), .second, .val (.long ue), .second, .val (.int vd), .val (.int vk), .val (.double vs_), .second, .val (.int vb), .val (.long vp), .second, .val (.ref b1), .val (.int (0 : Int32)), .val (.int (1 : Int32)), .unset] [(.int (1 : Int32))])) (fun _ k => XS.iconst X2.here hx rfl (hb hby at_105) k) ?_
      refine own_by (B := T2.setTop (mkF m 110 #[.val (.int ua), .val (.int ub), .val (.int uc), .val (.long ud), .second, .val (.long ue), .second, .val (.int vd), .val (.int vk), .val (.double vs_), .second, .val (.int vb), .val (.long vp), .second, .val (.ref b1), .val (.int (0 : Int32)), .val (.int (1 : Int32)), .unset] [(.int (1 : Int32))])) (fun _ k => XS.goto X2.here hx rfl (pc0 := 106) (pc' := 110) rfl (hb hby at_106) (by decide) (by decide) k) ?_
      refine own_by (B := T2.setTop (mkF m 112 #[.val (.int ua), .val (.int ub), .val (.int uc), .val (.long ud), .second, .val (.long ue), .second, .val (.int vd), .val (.int vk), .val (.double vs_), .second, .val (.int vb), .val (.long vp), .second, .val (.ref b1), .val (.int (0 : Int32)), .val (.int (1 : Int32)), .val (.int (1 : Int32))] [])) (fun _ k => XS.istore X2.here hx rfl (hb hby at_110) rfl (l' := #[.val (.int ua), .val (.int ub), .val (.int uc), .val (.long ud), .second, .val (.long ue), .second, .val (.int vd), .val (.int vk), .val (.double vs_), .second, .val (.int vb), .val (.long vp), .second, .val (.ref b1), .val (.int (0 : Int32)), .val (.int (1 : Int32)), .val (.int (1 : Int32))]) rfl k) ?_
      refine own_by (B := T2.setTop (mkF m 114 #[.val (.int ua), .val (.int ub), .val (.int uc), .val (.long ud), .second, .val (.long ue), .second, .val (.int vd), .val (.int vk), .val (.double vs_), .second, .val (.int vb), .val (.long vp), .second, .val (.ref b1), .val (.int (0 : Int32)), .val (.int (1 : Int32)), .val (.int (1 : Int32))] [(.ref b1)])) (fun _ k => XS.aload X2.here hx rfl (hb hby at_112) rfl rfl  k) ?_
      obtain ⟨cq8, kq8, qa8, qb8, qc8⟩ := isOf hZ e2 EC2
      obtain ⟨_, _, ⟨T8, L8, k8, n8⟩, -, X8, ⟨Lc8, hQ8, l8, y8, z8⟩, st8⟩ := X2.virtualBack hx (y := (⟨"com/example/convene/convene/cluster/MachineModel", "paces", "()Z"⟩ : MethodName)) (z := (⟨"com/example/convene/convene/cluster/MachineModel", "paces", "()Z"⟩ : MethodName)) hown (mvT hZ (hw _ (List.mem_of_getElem? (i := 27) rfl))) (mvT hZ (hw _ (List.mem_of_getElem? (i := 28) rfl))) (notFace_of_selects (args := #[]) (mvT hZ (hw _ (List.mem_of_getElem? (i := 30) rfl)))) (mvT hZ (hw _ (List.mem_of_getElem? (i := 30) rfl))) (mvT hZ (hw _ (List.mem_of_getElem? (i := 29) rfl))) (by decide) (backOf (W := 0) (rmPc l Z a0 hw [] b1 vs_ vb (if vk = vd then (0 : Int32) else (-1 : Int32)) h2 n0 (own_old_le O2) FC2_0 FC2_1 hs1) hZ (hw _ (List.mem_of_getElem? (i := 31) rfl)) (hw _ (List.mem_of_getElem? (i := 5) rfl)) (by decide) (by decide)) qa8 qc8 (g := (mkF m 114 #[.val (.int ua), .val (.int ub), .val (.int uc), .val (.long ud), .second, .val (.long ue), .second, .val (.int vd), .val (.int vk), .val (.double vs_), .second, .val (.int vb), .val (.long vp), .second, .val (.ref b1), .val (.int (0 : Int32)), .val (.int (1 : Int32)), .val (.int (1 : Int32))] [(.ref b1)])) rfl (by rw [hml]; rfl) (Steps.refl _) (argsL := []) (rest := []) (lenOf pd_0___Z rfl) rfl (by show 2 * 0 + _ ≤ _; exact Nat.le_of_eq rfl) (hb hby at_114) (fun _ _ => ⟨rfl, e2, (by decide : 1 + 0 ≤ _), (by decide : 4 + 0 ≤ _)⟩)
      dsimp only [Pt.U, Pt.locs, Pt.cells, Pt.slots] at X8 l8 y8 z8 st8 hQ8
      subst l8 y8 z8
      obtain ⟨rfl, N8, e8⟩ := hQ8
      refine own_by (B := T8.setTop (mkF m 117 #[.val (.int ua), .val (.int ub), .val (.int uc), .val (.long ud), .second, .val (.long ue), .second, .val (.int vd), .val (.int vk), .val (.double vs_), .second, .val (.int vb), .val (.long vp), .second, .val (.ref b1), .val (.int (0 : Int32)), .val (.int (1 : Int32)), .val (.int (1 : Int32))] [(.int (own_pc (if vk = vd then (0 : Int32) else (-1 : Int32)) vb))])) (fun _ k => st8.trans k) ?_
      have M8 := Fr.app N2 N8
      refine own_by (B := T8.setTop (mkF m 119 #[.val (.int ua), .val (.int ub), .val (.int uc), .val (.long ud), .second, .val (.long ue), .second, .val (.int vd), .val (.int vk), .val (.double vs_), .second, .val (.int vb), .val (.long vp), .second, .val (.ref b1), .val (.int (0 : Int32)), .val (.int (1 : Int32)), .val (.int (1 : Int32))] [(.int (1 : Int32)), (.int (own_pc (if vk = vd then (0 : Int32) else (-1 : Int32)) vb))])) (fun _ k => XS.iload X8.here hx rfl (hb hby at_117) rfl  k) ?_
      refine own_by (B := T8.setTop (mkF m 122 #[.val (.int ua), .val (.int ub), .val (.int uc), .val (.long ud), .second, .val (.long ue), .second, .val (.int vd), .val (.int vk), .val (.double vs_), .second, .val (.int vb), .val (.long vp), .second, .val (.ref b1), .val (.int (0 : Int32)), .val (.int (1 : Int32)), .val (.int (1 : Int32))] [])) (fun _ k => XS.icmpNo X8.here hx rfl (hb hby at_119) rfl (XT.ii_ne_f (by rw [own_pcs vk vd vb hbg, if_neg hc3])) k) ?_
      refine own_by (B := T8.setTop (mkF m 123 #[.val (.int ua), .val (.int ub), .val (.int uc), .val (.long ud), .second, .val (.long ue), .second, .val (.int vd), .val (.int vk), .val (.double vs_), .second, .val (.int vb), .val (.long vp), .second, .val (.ref b1), .val (.int (0 : Int32)), .val (.int (1 : Int32)), .val (.int (1 : Int32))] [(.int (1 : Int32))])) (fun _ k => XS.iconst X8.here hx rfl (hb hby at_122) k) ?_
      refine own_by (B := T8.setTop (mkF m 127 #[.val (.int ua), .val (.int ub), .val (.int uc), .val (.long ud), .second, .val (.long ue), .second, .val (.int vd), .val (.int vk), .val (.double vs_), .second, .val (.int vb), .val (.long vp), .second, .val (.ref b1), .val (.int (0 : Int32)), .val (.int (1 : Int32)), .val (.int (1 : Int32))] [(.int (1 : Int32))])) (fun _ k => XS.goto X8.here hx rfl (pc0 := 123) (pc' := 127) rfl (hb hby at_123) (by decide) (by decide) k) ?_
      exact own_retZ X8 hx hrt hlk rfl (hb hby at_127) (by decide) (by decide) ⟨rfl, M8⟩
    · refine own_by (B := T2.setTop (mkF m 92 #[.val (.int ua), .val (.int ub), .val (.int uc), .val (.long ud), .second, .val (.long ue), .second, .val (.int vd), .val (.int vk), .val (.double vs_), .second, .val (.int vb), .val (.long vp), .second, .val (.ref b1), .val (.int (0 : Int32)), .unset, .unset] [])) (fun _ k => XS.ifYes X2.here hx rfl (pc0 := 85) (pc' := 92) rfl (hb hby at_85) rfl (XT.i0_ne_t hc7) (by decide) (by decide) k) ?_
      refine own_by (B := T2.setTop (mkF m 93 #[.val (.int ua), .val (.int ub), .val (.int uc), .val (.long ud), .second, .val (.long ue), .second, .val (.int vd), .val (.int vk), .val (.double vs_), .second, .val (.int vb), .val (.long vp), .second, .val (.ref b1), .val (.int (0 : Int32)), .unset, .unset] [(.int (0 : Int32))])) (fun _ k => XS.iconst X2.here hx rfl (hb hby at_92) k) ?_
      refine own_by (B := T2.setTop (mkF m 95 #[.val (.int ua), .val (.int ub), .val (.int uc), .val (.long ud), .second, .val (.long ue), .second, .val (.int vd), .val (.int vk), .val (.double vs_), .second, .val (.int vb), .val (.long vp), .second, .val (.ref b1), .val (.int (0 : Int32)), .val (.int (0 : Int32)), .unset] [])) (fun _ k => XS.istore X2.here hx rfl (hb hby at_93) rfl (l' := #[.val (.int ua), .val (.int ub), .val (.int uc), .val (.long ud), .second, .val (.long ue), .second, .val (.int vd), .val (.int vk), .val (.double vs_), .second, .val (.int vb), .val (.long vp), .second, .val (.ref b1), .val (.int (0 : Int32)), .val (.int (0 : Int32)), .unset]) rfl k) ?_
      refine own_by (B := T2.setTop (mkF m 97 #[.val (.int ua), .val (.int ub), .val (.int uc), .val (.long ud), .second, .val (.long ue), .second, .val (.int vd), .val (.int vk), .val (.double vs_), .second, .val (.int vb), .val (.long vp), .second, .val (.ref b1), .val (.int (0 : Int32)), .val (.int (0 : Int32)), .unset] [(.int (0 : Int32))])) (fun _ k => XS.iload X2.here hx rfl (hb hby at_95) rfl  k) ?_
      refine own_by (B := T2.setTop (mkF m 105 #[.val (.int ua), .val (.int ub), .val (.int uc), .val (.long ud), .second, .val (.long ue), .second, .val (.int vd), .val (.int vk), .val (.double vs_), .second, .val (.int vb), .val (.long vp), .second, .val (.ref b1), .val (.int (0 : Int32)), .val (.int (0 : Int32)), .unset] [])) (fun _ k => XS.ifYes X2.here hx rfl (pc0 := 97) (pc' := 105) rfl (hb hby at_97) rfl (XT.i0_eq_t (by decide)) (by decide) (by decide) k) ?_
      refine own_by (B := T2.setTop (mkF m 106 #[.val (.int ua), .val (.int ub), .val (.int uc), .val (.long ud), .second, .val (.long ue), .second, .val (.int vd), .val (.int vk), .val (.double vs_), .second, .val (.int vb), .val (.long vp), .second, .val (.ref b1), .val (.int (0 : Int32)), .val (.int (0 : Int32)), .unset] [(.int (1 : Int32))])) (fun _ k => XS.iconst X2.here hx rfl (hb hby at_105) k) ?_
      refine own_by (B := T2.setTop (mkF m 110 #[.val (.int ua), .val (.int ub), .val (.int uc), .val (.long ud), .second, .val (.long ue), .second, .val (.int vd), .val (.int vk), .val (.double vs_), .second, .val (.int vb), .val (.long vp), .second, .val (.ref b1), .val (.int (0 : Int32)), .val (.int (0 : Int32)), .unset] [(.int (1 : Int32))])) (fun _ k => XS.goto X2.here hx rfl (pc0 := 106) (pc' := 110) rfl (hb hby at_106) (by decide) (by decide) k) ?_
      refine own_by (B := T2.setTop (mkF m 112 #[.val (.int ua), .val (.int ub), .val (.int uc), .val (.long ud), .second, .val (.long ue), .second, .val (.int vd), .val (.int vk), .val (.double vs_), .second, .val (.int vb), .val (.long vp), .second, .val (.ref b1), .val (.int (0 : Int32)), .val (.int (0 : Int32)), .val (.int (1 : Int32))] [])) (fun _ k => XS.istore X2.here hx rfl (hb hby at_110) rfl (l' := #[.val (.int ua), .val (.int ub), .val (.int uc), .val (.long ud), .second, .val (.long ue), .second, .val (.int vd), .val (.int vk), .val (.double vs_), .second, .val (.int vb), .val (.long vp), .second, .val (.ref b1), .val (.int (0 : Int32)), .val (.int (0 : Int32)), .val (.int (1 : Int32))]) rfl k) ?_
      refine own_by (B := T2.setTop (mkF m 114 #[.val (.int ua), .val (.int ub), .val (.int uc), .val (.long ud), .second, .val (.long ue), .second, .val (.int vd), .val (.int vk), .val (.double vs_), .second, .val (.int vb), .val (.long vp), .second, .val (.ref b1), .val (.int (0 : Int32)), .val (.int (0 : Int32)), .val (.int (1 : Int32))] [(.ref b1)])) (fun _ k => XS.aload X2.here hx rfl (hb hby at_112) rfl rfl  k) ?_
      obtain ⟨cq9, kq9, qa9, qb9, qc9⟩ := isOf hZ e2 EC2
      obtain ⟨_, _, ⟨T9, L9, k9, n9⟩, -, X9, ⟨Lc9, hQ9, l9, y9, z9⟩, st9⟩ := X2.virtualBack hx (y := (⟨"com/example/convene/convene/cluster/MachineModel", "paces", "()Z"⟩ : MethodName)) (z := (⟨"com/example/convene/convene/cluster/MachineModel", "paces", "()Z"⟩ : MethodName)) hown (mvT hZ (hw _ (List.mem_of_getElem? (i := 27) rfl))) (mvT hZ (hw _ (List.mem_of_getElem? (i := 28) rfl))) (notFace_of_selects (args := #[]) (mvT hZ (hw _ (List.mem_of_getElem? (i := 30) rfl)))) (mvT hZ (hw _ (List.mem_of_getElem? (i := 30) rfl))) (mvT hZ (hw _ (List.mem_of_getElem? (i := 29) rfl))) (by decide) (backOf (W := 0) (rmPc l Z a0 hw [] b1 vs_ vb (if vk = vd then (0 : Int32) else (-1 : Int32)) h2 n0 (own_old_le O2) FC2_0 FC2_1 hs1) hZ (hw _ (List.mem_of_getElem? (i := 31) rfl)) (hw _ (List.mem_of_getElem? (i := 5) rfl)) (by decide) (by decide)) qa9 qc9 (g := (mkF m 114 #[.val (.int ua), .val (.int ub), .val (.int uc), .val (.long ud), .second, .val (.long ue), .second, .val (.int vd), .val (.int vk), .val (.double vs_), .second, .val (.int vb), .val (.long vp), .second, .val (.ref b1), .val (.int (0 : Int32)), .val (.int (0 : Int32)), .val (.int (1 : Int32))] [(.ref b1)])) rfl (by rw [hml]; rfl) (Steps.refl _) (argsL := []) (rest := []) (lenOf pd_0___Z rfl) rfl (by show 2 * 0 + _ ≤ _; exact Nat.le_of_eq rfl) (hb hby at_114) (fun _ _ => ⟨rfl, e2, (by decide : 1 + 0 ≤ _), (by decide : 4 + 0 ≤ _)⟩)
      dsimp only [Pt.U, Pt.locs, Pt.cells, Pt.slots] at X9 l9 y9 z9 st9 hQ9
      subst l9 y9 z9
      obtain ⟨rfl, N9, e9⟩ := hQ9
      refine own_by (B := T9.setTop (mkF m 117 #[.val (.int ua), .val (.int ub), .val (.int uc), .val (.long ud), .second, .val (.long ue), .second, .val (.int vd), .val (.int vk), .val (.double vs_), .second, .val (.int vb), .val (.long vp), .second, .val (.ref b1), .val (.int (0 : Int32)), .val (.int (0 : Int32)), .val (.int (1 : Int32))] [(.int (own_pc (if vk = vd then (0 : Int32) else (-1 : Int32)) vb))])) (fun _ k => st9.trans k) ?_
      have M9 := Fr.app N2 N9
      refine own_by (B := T9.setTop (mkF m 119 #[.val (.int ua), .val (.int ub), .val (.int uc), .val (.long ud), .second, .val (.long ue), .second, .val (.int vd), .val (.int vk), .val (.double vs_), .second, .val (.int vb), .val (.long vp), .second, .val (.ref b1), .val (.int (0 : Int32)), .val (.int (0 : Int32)), .val (.int (1 : Int32))] [(.int (1 : Int32)), (.int (own_pc (if vk = vd then (0 : Int32) else (-1 : Int32)) vb))])) (fun _ k => XS.iload X9.here hx rfl (hb hby at_117) rfl  k) ?_
      refine own_by (B := T9.setTop (mkF m 122 #[.val (.int ua), .val (.int ub), .val (.int uc), .val (.long ud), .second, .val (.long ue), .second, .val (.int vd), .val (.int vk), .val (.double vs_), .second, .val (.int vb), .val (.long vp), .second, .val (.ref b1), .val (.int (0 : Int32)), .val (.int (0 : Int32)), .val (.int (1 : Int32))] [])) (fun _ k => XS.icmpNo X9.here hx rfl (hb hby at_119) rfl (XT.ii_ne_f (by rw [own_pcs vk vd vb hbg, if_neg hc3])) k) ?_
      refine own_by (B := T9.setTop (mkF m 123 #[.val (.int ua), .val (.int ub), .val (.int uc), .val (.long ud), .second, .val (.long ue), .second, .val (.int vd), .val (.int vk), .val (.double vs_), .second, .val (.int vb), .val (.long vp), .second, .val (.ref b1), .val (.int (0 : Int32)), .val (.int (0 : Int32)), .val (.int (1 : Int32))] [(.int (1 : Int32))])) (fun _ k => XS.iconst X9.here hx rfl (hb hby at_122) k) ?_
      refine own_by (B := T9.setTop (mkF m 127 #[.val (.int ua), .val (.int ub), .val (.int uc), .val (.long ud), .second, .val (.long ue), .second, .val (.int vd), .val (.int vk), .val (.double vs_), .second, .val (.int vb), .val (.long vp), .second, .val (.ref b1), .val (.int (0 : Int32)), .val (.int (0 : Int32)), .val (.int (1 : Int32))] [(.int (1 : Int32))])) (fun _ k => XS.goto X9.here hx rfl (pc0 := 123) (pc' := 127) rfl (hb hby at_123) (by decide) (by decide) k) ?_
      exact own_retZ X9 hx hrt hlk rfl (hb hby at_127) (by decide) (by decide) ⟨rfl, M9⟩

set_option maxRecDepth 65536 in
set_option maxHeartbeats 40000000 in
theorem comes_1 {Post : Tables → Env → Array Value → State → Outcome → State → Prop} (hpost : ∀ tb e args s v u, (limb_1_1.after args s (.returned v) u = true ∧ limb_1_2.after args s (.returned v) u = true ∧ True) → FrameEnd s (.returned v) u (Jvm.fieldLocs frame_1_writes args s ++ Jvm.arrayLocs frame_1_arrays args s ++ Jvm.staticLocs frame_1_statics s) 16 128 → Post tb e args s (.returned v) u) :
    ArmFor flags0 classFile x code maxLocals ret World_1 tables_1 room_1 Calls_1 rest_1 Pre_1 Post := by
  intro l hfl _ _ p e ha hc hk s m args below hf hA hF happ hP
  obtain ⟨hcalls, hrest, hpre⟩ := hP
  obtain ⟨-, -, -, hnamed, -, -, -, hat⟩ := (Spec.applies_iff hf).mp happ
  obtain ⟨hg, hn⟩ := and_e (Cond.before_iff.mp (show (Jvm.Cond.and given_1 narrow_1).before args s = true from hpre))
  obtain ⟨hg1a, hg1b⟩ := and_e hg
  obtain ⟨hg2a, hg2b⟩ := and_e hg1b
  obtain ⟨hg3a, hg3b⟩ := and_e hg2b
  obtain ⟨hg4a, hg4b⟩ := and_e hg3b
  obtain ⟨hg5a, hg5b⟩ := and_e hg4b
  obtain ⟨w0, w1, w2, w3, w4, rfl⟩ : ∃ w0 w1 w2 w3 w4 : Value, args = #[w0, w1, w2, w3, w4] := by
    have hs : args.size = 5 := by simpa [Cond.value, given_1] using hg1a
    obtain ⟨L⟩ := args
    match L, hs with
    | [w0, w1, w2, w3, w4], _ => exact ⟨w0, w1, w2, w3, w4, rfl⟩
  have hw := fun d (hd : d ∈ tables_1) => atoms_spec (ws := Jvm.Cond.code x code maxLocals ret :: tables_1) hat d (List.mem_cons_of_mem _ hd)
  have hfit : Fit s := fun {y c} hc i hi => by
    obtain ⟨ha, rfl⟩ := Array.getElem?_eq_some_iff.mp hc
    have q := List.all_eq_true.mp ((Array.all_eq_true_iff_forall_mem.mp hF) _ (Array.getElem_mem ha)) i (List.mem_range.mpr hi)
    simpa [Array.getElem?_eq_getElem hi] using q
  obtain ⟨i0, ei0⟩ := is_v hg2a
  obtain rfl : w0 = (.int i0) := Option.some.inj ei0
  obtain ⟨i1, ei1⟩ := is_v hg3a
  obtain rfl : w1 = (.int i1) := Option.some.inj ei1
  obtain ⟨i2, ei2⟩ := is_v hg4a
  obtain rfl : w2 = (.int i2) := Option.some.inj ei2
  obtain ⟨i3, ei3⟩ := isL_v hg5a
  obtain rfl : w3 = (.long i3) := Option.some.inj ei3
  obtain ⟨i4, ei4⟩ := isL_v hg5b
  obtain rfl : w4 = (.long i4) := Option.some.inj ei4
  have SM : Sta s s.heap "com/example/convene/convene/cluster/MachineModel" "MAX_PERIOD_MS" "J" (.long (86400000 : Int64)) := Sta.start (eqv_l (long_at _) hn) (Or.inr ⟨(hw _ (List.mem_of_getElem? (i := 5) rfl)), (hw _ (List.mem_of_getElem? (i := 18) rfl))⟩)
  obtain ⟨n, o, h1, h2, h3, _, L, rfl, ⟨rfl, N⟩, hq⟩ := rm0 l s _ hw tables_1 i0 i1 i2 i3 i4 s.heap s.heap.size (Nat.le_refl _) (Old.start s) SM p e ha hc hk s m _ below hf ((Spec.applies_iff_loose hf).mp happ).1 ⟨rfl, State.Warmed39.refl s, rfl⟩ trivial
  refine ⟨n, _, h1, h2, h3, hpost _ _ _ _ _ _ ⟨Cond.after_iff.mpr rfl, Cond.after_iff.mpr (eq_i res_at (Term.int_eval (1)) rfl), trivial⟩ ⟨hq.1, hq.2.1, (hq.2.2.sift fun y hy => Or.inr (N y hy)).mono (by decide) (by decide)⟩⟩
theorem main_1_1 : Claimed_1_1 := comes_1 fun _ _ _ _ _ _ h hF => ⟨h.1, hF⟩
theorem main_1_2 : Claimed_1_2 := comes_1 fun _ _ _ _ _ _ h hF => ⟨h.2.1, hF⟩
end Jvm.Pilot.@@N@@
namespace Jvm.Pilot.@@N@@
open Jvm Jvm.ClassFile Sem Op Lib Jvm.Free Jvm.Stand Jvm.Pilot.@@N@@.Jvm.D
/-! MADE BY PROGRAM (witnessworld.py) out of the Statement's table words and the real class files: 10 classes; the members and pool entries that the words name. The judged class is class 1, her method 1. -/
namespace start1
open Jvm.ClassFile
def u (s : String) : CpInfo := .utf8 (stringToUtf16 s)
/-- a pool by its gaps: so many unusable entries, then the entry; so many at the end -/
def gap : Nat → List CpInfo → List CpInfo
  | 0, r => r
  | n + 1, r => .unusable :: gap n r
def poolList (es : List (Nat × CpInfo)) (last : Nat) : List CpInfo := es.foldr (fun e r => gap e.1 (e.2 :: r)) (gap last [])
def pool (es : List (Nat × CpInfo)) (last : Nat) : Array CpInfo := ⟨poolList es last⟩
def fileOf (pool : Array CpInfo) (this : Nat) (attrs : Array Attribute := #[]) (ms : Array MethodInfo := #[]) (fl : Nat := 33) (sup : Nat := 0) (ifs : Array Nat := #[]) (fds : Array FieldInfo := #[]) : ClassFile where
  minorVersion := 0
  majorVersion := 65
  constantPool := pool
  accessFlags := fl
  thisClass := this
  superClass := sup
  interfaces := ifs
  fields := fds
  methods := ms
  attributes := attrs
def plain (name : String) (sup : Option ClassId) : Class where
  name := name
  kind := .ordinary
  loader := none
  accessFlags := 33
  super := sup
  interfaces := #[]
  cf := none
  fields := #[]
  methods := #[]
  instanceTypes := #[]
  staticTypes := #[]
  resolved := #[]
  callSites := []
  init := .initialized
  statics := none
  mirror := none

def pool0 : Array CpInfo := pool [(5, u "<init>"), (0, u "()V"), (1, .class_ 10), (1, u "java/lang/Object")] 113

def k0c0 : Code := { maxStack := 0, maxLocals := 1, code := object_method_1_code, exceptionTable := #[], attributes := #[] }
def k0m0 : Method := { name := "<init>", desc := "()V", sig := { parameters := [], returnType := none }, accessFlags := 1, code := some k0c0 }
/-- java/lang/Object -/
def k0 : Class := { plain "java/lang/Object" none with
  accessFlags := 33
  interfaces := #[]
  cf := some (fileOf pool0 8 #[] #[{ accessFlags := 1, nameIndex := 5, descriptorIndex := 6, attributes := #[] }] 33 0 #[] #[])
  fields := #[]
  methods := #[k0m0]
  instanceTypes := #[]
  staticTypes := #[]
  resolved := Array.replicate 124 none
  statics := none }

def pool1 : Array CpInfo := pool [(2, .class_ 4), (1, u "java/lang/Object"), (0, u "<init>"), (0, u "()V"), (0, .integer 2147483647), (2, .long 9223372036854775807), (1, .long 86400000), (1, .class_ 15), (0, u "com/example/convene/convene/cluster/MachineModel"), (0, .methodref 14 17), (0, .nameAndType 5 18), (0, u "(DIJJ)V"), (0, .methodref 14 20), (0, .nameAndType 21 22), (0, u "paces"), (0, u "()Z"), (0, .class_ 24), (0, u "com/example/convene/convene/cluster/MachineModelPacesPinLaw"), (2, u "law"), (0, u "(IIIJJ)Z")] 3

def k1m0 : Method := { name := "<init>", desc := "()V", sig := { parameters := [], returnType := none }, accessFlags := 1, code := none }
def k1c1 : Code := { maxStack := 9, maxLocals := 18, code := code, exceptionTable := #[], attributes := #[] }
def k1m1 : Method := { name := "law", desc := "(IIIJJ)Z", sig := { parameters := [.int, .int, .int, .long, .long], returnType := some .boolean }, accessFlags := 9, code := some k1c1 }
/-- com/example/convene/convene/cluster/MachineModelPacesPinLaw -/
def k1 : Class := { plain "com/example/convene/convene/cluster/MachineModelPacesPinLaw" (some 0) with
  accessFlags := 49
  interfaces := #[]
  cf := some (fileOf pool1 23 #[] #[{ accessFlags := 1, nameIndex := 5, descriptorIndex := 6, attributes := #[] }, { accessFlags := 9, nameIndex := 27, descriptorIndex := 28, attributes := #[] }] 49 2 #[] #[])
  fields := #[]
  methods := #[k1m0, k1m1]
  instanceTypes := #[]
  staticTypes := #[]
  resolved := Array.replicate 32 none
  statics := none }

def pool2 : Array CpInfo := pool [(1, .methodref 2 3), (0, .class_ 4), (0, .nameAndType 5 6), (0, u "java/lang/Object"), (0, u "<init>"), (0, u "()V"), (0, .class_ 8), (0, u "java/lang/Record")] 13

def k2c0 : Code := { maxStack := 1, maxLocals := 1, code := jdk_30_method_1_code, exceptionTable := #[], attributes := #[] }
def k2m0 : Method := { name := "<init>", desc := "()V", sig := { parameters := [], returnType := none }, accessFlags := 4, code := some k2c0 }
/-- java/lang/Record -/
def k2 : Class := { plain "java/lang/Record" (some 0) with
  accessFlags := 1057
  interfaces := #[]
  cf := some (fileOf pool2 7 #[] #[{ accessFlags := 4, nameIndex := 5, descriptorIndex := 6, attributes := #[] }] 1057 2 #[] #[])
  fields := #[]
  methods := #[k2m0]
  instanceTypes := #[]
  staticTypes := #[]
  resolved := Array.replicate 22 none
  statics := none }

def pool3 : Array CpInfo := pool [(1, .methodref 2 3), (0, .class_ 4), (0, .nameAndType 5 6), (0, u "java/lang/Record"), (0, u "<init>"), (0, u "()V"), (9, .class_ 17), (0, u "com/example/convene/convene/cluster/MachineModel"), (3, .fieldref 16 22), (0, .nameAndType 23 24), (0, u "MAX_PERIOD_MS"), (0, u "J"), (3, .fieldref 16 29), (0, .nameAndType 30 31), (0, u "cpuShare"), (0, u "D"), (0, .fieldref 16 33), (0, .nameAndType 34 35), (0, u "background"), (0, u "I"), (0, .fieldref 16 37), (0, .nameAndType 38 24), (0, u "periodMs"), (0, .fieldref 16 40), (0, .nameAndType 41 24), (0, u "seed"), (32, .class_ 75), (0, u "com/example/convene/convene/cluster/MachineModel$Period"), (27, u "(DIJJ)V"), (2, u "FULL"), (0, u "Lcom/example/convene/convene/cluster/MachineModel;"), (0, u "MAX_BACKGROUND"), (2, u "PERIOD_SEED_STRIDE"), (4, u "paces"), (0, u "()Z")] 50

def k3c0 : Code := { maxStack := 6, maxLocals := 8, code := prog_19_method_1_code, exceptionTable := #[], attributes := #[] }
def k3m0 : Method := { name := "<init>", desc := "(DIJJ)V", sig := { parameters := [.double, .int, .long, .long], returnType := none }, accessFlags := 1, code := some k3c0 }
def k3c1 : Code := { maxStack := 4, maxLocals := 1, code := prog_19_method_2_code, exceptionTable := #[], attributes := #[] }
def k3m1 : Method := { name := "paces", desc := "()Z", sig := { parameters := [], returnType := some .boolean }, accessFlags := 0, code := some k3c1 }
/-- com/example/convene/convene/cluster/MachineModel -/
def k3 : Class := { plain "com/example/convene/convene/cluster/MachineModel" (some 2) with
  accessFlags := 49
  interfaces := #[]
  cf := some (fileOf pool3 16 #[.nestMembers #[74]] #[{ accessFlags := 1, nameIndex := 5, descriptorIndex := 103, attributes := #[] }, { accessFlags := 0, nameIndex := 116, descriptorIndex := 117, attributes := #[] }] 49 2 #[] #[{ accessFlags := 18, nameIndex := 30, descriptorIndex := 31, attributes := #[] }, { accessFlags := 18, nameIndex := 34, descriptorIndex := 35, attributes := #[] }, { accessFlags := 18, nameIndex := 38, descriptorIndex := 24, attributes := #[] }, { accessFlags := 18, nameIndex := 41, descriptorIndex := 24, attributes := #[] }, { accessFlags := 25, nameIndex := 108, descriptorIndex := 35, attributes := #[] }, { accessFlags := 25, nameIndex := 23, descriptorIndex := 24, attributes := #[] }, { accessFlags := 25, nameIndex := 106, descriptorIndex := 107, attributes := #[] }, { accessFlags := 26, nameIndex := 111, descriptorIndex := 24, attributes := #[] }])
  fields := #[{ name := "cpuShare", type := .double, accessFlags := 18, slot := 0, constantValue := 0 }, { name := "background", type := .int, accessFlags := 18, slot := 1, constantValue := 0 }, { name := "periodMs", type := .long, accessFlags := 18, slot := 2, constantValue := 0 }, { name := "seed", type := .long, accessFlags := 18, slot := 3, constantValue := 0 }, { name := "MAX_BACKGROUND", type := .int, accessFlags := 25, slot := 0, constantValue := 0 }, { name := "MAX_PERIOD_MS", type := .long, accessFlags := 25, slot := 1, constantValue := 0 }, { name := "FULL", type := (.object "com/example/convene/convene/cluster/MachineModel"), accessFlags := 25, slot := 2, constantValue := 0 }, { name := "PERIOD_SEED_STRIDE", type := .long, accessFlags := 26, slot := 3, constantValue := 0 }]
  methods := #[k3m0, k3m1]
  instanceTypes := #[.double, .int, .long, .long]
  staticTypes := #[.int, .long, (.object "com/example/convene/convene/cluster/MachineModel"), .long]
  resolved := Array.replicate 168 none
  statics := some 0 }

def pool4 : Array CpInfo := pool [(1, u "java/lang/Cloneable"), (0, .class_ 1), (0, u "java/lang/Object"), (0, .class_ 3)] 3

/-- java/lang/Cloneable -/
def k4 : Class := { plain "java/lang/Cloneable" (some 0) with
  accessFlags := 1537
  interfaces := #[]
  cf := some (fileOf pool4 2 #[] #[] 1537 4 #[] #[])
  fields := #[]
  methods := #[]
  instanceTypes := #[]
  staticTypes := #[]
  resolved := Array.replicate 8 none
  statics := none }

def pool5 : Array CpInfo := pool [(1, u "java/io/Serializable"), (0, .class_ 1), (0, u "java/lang/Object"), (0, .class_ 3)] 3

/-- java/io/Serializable -/
def k5 : Class := { plain "java/io/Serializable" (some 0) with
  accessFlags := 1537
  interfaces := #[]
  cf := some (fileOf pool5 2 #[] #[] 1537 4 #[] #[])
  fields := #[]
  methods := #[]
  instanceTypes := #[]
  staticTypes := #[]
  resolved := Array.replicate 8 none
  statics := none }

/-- the primitive byte -/
def k6 : Class := { plain "byte" none with kind := .primitive 'B', accessFlags := 0x411 }
/-- [B -/
def k7 : Class := { plain "[B" (some 0) with kind := .array 6 .byte, interfaces := #[4, 5], accessFlags := 1041 }

/-- the primitive int -/
def k8 : Class := { plain "int" none with kind := .primitive 'I', accessFlags := 0x411 }
/-- [I -/
def k9 : Class := { plain "[I" (some 0) with kind := .array 8 .int, interfaces := #[4, 5], accessFlags := 1041 }

def heap : Heap := #[{ cls := 3, slots := #[.int 0, .long 86400000, .null, .long 0], vm := .statics 3 }]
def classes : Array Class := #[k0, k1, k2, k3, k4, k5, k6, k7, k8, k9]
def interned : List (Array UInt16 × Addr) := []
def slotsUsed : Nat := 4
def theMethod : MethodId := ⟨1, 1⟩
def args0 : Array Value := #[.int 5, .int 7, .int 3, .long 9, .long 11]
def aboutOver (below : List Frame) : State where
  vm := { classes := classes, interned := interned.toArray }
  heap := heap
  slotsUsed := slotsUsed
  threads := #[{ frames := .invoking theMethod args0 :: below }]
def below0 : List Frame := [.native { method := ⟨0, 0⟩, args := #[] }]
def about1 : State := aboutOver below0
def p0 : Program := .bare "" "" ""
def e0 : Env := launch0.env 0 0 0
theorem w_frames : about1.frames = Frame.invoking theMethod args0 :: below0 := rfl
set_option maxRecDepth 65536 in
theorem w_args : argsFit about1.vm theMethod args0 = true := by decide +kernel
set_option maxRecDepth 65536 in
theorem w_heap : heapFits about1 = true := by decide +kernel
set_option maxRecDepth 65536 in
theorem w_runnable : about1.curStatus? = some .runnable := by decide +kernel
set_option maxRecDepth 65536 in
theorem w_alone : about1.alone = true := by decide +kernel
set_option maxRecDepth 65536 in
theorem w_named : about1.methodNamed? x = some theMethod := by decide +kernel
set_option maxRecDepth 65536 in
theorem w_hears : about1.hears theMethod below0 = true := by decide +kernel
set_option maxRecDepth 65536 in
theorem w_ripe : about1.ripe theMethod args0 below0 = true := by decide +kernel
theorem w_running : about1.status = .running := rfl
set_option maxRecDepth 65536 in
theorem w_room : about1.hasRoom e0.platform room_1 = true :=
  launch0.hasRoom_least _ room_1 (by decide +kernel) (by decide +kernel) (by decide +kernel) (by decide +kernel) (by decide +kernel) (by decide +kernel)
theorem allAtoms_all (ts : List Jvm.Cond) (a : Array Jvm.Value) (st : Jvm.State) : (allAtoms ts).before a st = ts.all (fun c => c.before a st) := by
  induction ts with
  | nil => rfl
  | cons c t ih =>
    show (Jvm.Cond.and c (allAtoms t)).before a st = _
    rw [Jvm.Cond.before_and, ih, List.all_cons]
def words1 : List Jvm.Cond := Jvm.Cond.code x code maxLocals ret :: tables_1
/-- a 'code' word, met by the world's own term for the bytes: nothing is compared byte by byte -/
theorem code_word {y : MethodName} {bytes : ByteArray} {mx : Nat} {rt : Option FieldType} {a : Array Value} {s : State} {m : MethodId} {meth : Method} {c : Code} (h1 : s.methodNamed? y = some m) (h2 : s.vm.method? m = some meth) (h3 : meth.code = some c) (h4 : c.code = bytes)
    (h5 : (c.maxLocals == mx && c.exceptionTable.isEmpty && decide (c.maxStack ≤ mostOperands) && decide (meth.sig.returnType = rt) && !meth.locks && decide (parseMethodDescriptor y.desc = some meth.sig)) = true) : (Jvm.Cond.code y bytes mx rt).before a s = true := by
  simp only [Bool.and_eq_true, beq_iff_eq, Bool.not_eq_true', decide_eq_true_eq] at h5
  obtain ⟨⟨⟨⟨⟨g1, g2⟩, g3⟩, g4⟩, g5⟩, g6⟩ := h5
  simp [Cond.before, Cond.holds, Cond.value, h1, h2, h3, h4, g1, g2, g3, g4, g5, g6]
def isCode : Jvm.Cond → Bool
  | .code _ _ _ _ => true
  | _ => false
theorem all_split {L : List Jvm.Cond} {P : Jvm.Cond → Bool} (h1 : L.all (fun c => isCode c || P c) = true) (h2 : ∀ c ∈ L.filter isCode, P c = true) : L.all P = true := by
  refine List.all_eq_true.mpr fun c hc => ?_
  have h := List.all_eq_true.mp h1 c hc
  rcases Bool.eq_false_or_eq_true (isCode c) with hi | hi
  · exact h2 c (List.mem_filter.mpr ⟨hc, hi⟩)
  · simpa [hi] using h
set_option maxRecDepth 65536 in
theorem w_c0 : (Jvm.Cond.code x code maxLocals ret).before args0 about1 = true := code_word (m := ⟨1, 1⟩) (meth := k1m1) (c := k1c1) (by decide +kernel) rfl rfl rfl (by decide +kernel)
set_option maxRecDepth 65536 in
theorem w_c1 : (Jvm.Cond.code ({ cls := "com/example/convene/convene/cluster/MachineModel", name := "<init>", desc := "(DIJJ)V" } : Jvm.MethodName) prog_19_method_1_code (8 : Nat) (Option.none : Option Jvm.ClassFile.FieldType)).before args0 about1 = true := code_word (m := ⟨3, 0⟩) (meth := k3m0) (c := k3c0) (by decide +kernel) rfl rfl rfl (by decide +kernel)
set_option maxRecDepth 65536 in
theorem w_c2 : (Jvm.Cond.code ({ cls := "java/lang/Record", name := "<init>", desc := "()V" } : Jvm.MethodName) jdk_30_method_1_code (1 : Nat) (Option.none : Option Jvm.ClassFile.FieldType)).before args0 about1 = true := code_word (m := ⟨2, 0⟩) (meth := k2m0) (c := k2c0) (by decide +kernel) rfl rfl rfl (by decide +kernel)
set_option maxRecDepth 65536 in
theorem w_c3 : (Jvm.Cond.code ({ cls := "java/lang/Object", name := "<init>", desc := "()V" } : Jvm.MethodName) object_method_1_code (1 : Nat) (Option.none : Option Jvm.ClassFile.FieldType)).before args0 about1 = true := code_word (m := ⟨0, 0⟩) (meth := k0m0) (c := k0c0) (by decide +kernel) rfl rfl rfl (by decide +kernel)
set_option maxRecDepth 65536 in
theorem w_c4 : (Jvm.Cond.code ({ cls := "com/example/convene/convene/cluster/MachineModel", name := "paces", desc := "()Z" } : Jvm.MethodName) prog_19_method_2_code (1 : Nat) (Option.some Jvm.ClassFile.FieldType.boolean)).before args0 about1 = true := code_word (m := ⟨3, 1⟩) (meth := k3m1) (c := k3c1) (by decide +kernel) rfl rfl rfl (by decide +kernel)
def codes1 : List Jvm.Cond := [Jvm.Cond.code x code maxLocals ret, Jvm.Cond.code ({ cls := "com/example/convene/convene/cluster/MachineModel", name := "<init>", desc := "(DIJJ)V" } : Jvm.MethodName) prog_19_method_1_code (8 : Nat) (Option.none : Option Jvm.ClassFile.FieldType), Jvm.Cond.code ({ cls := "java/lang/Record", name := "<init>", desc := "()V" } : Jvm.MethodName) jdk_30_method_1_code (1 : Nat) (Option.none : Option Jvm.ClassFile.FieldType), Jvm.Cond.code ({ cls := "java/lang/Object", name := "<init>", desc := "()V" } : Jvm.MethodName) object_method_1_code (1 : Nat) (Option.none : Option Jvm.ClassFile.FieldType), Jvm.Cond.code ({ cls := "com/example/convene/convene/cluster/MachineModel", name := "paces", desc := "()Z" } : Jvm.MethodName) prog_19_method_2_code (1 : Nat) (Option.some Jvm.ClassFile.FieldType.boolean)]
set_option maxRecDepth 65536 in
theorem codes_eq : words1.filter isCode = codes1 := rfl
theorem w_codes : ∀ c ∈ words1.filter isCode, c.before args0 about1 = true := by
  rw [codes_eq]
  intro c hc
  simp only [codes1, List.mem_cons, List.not_mem_nil, or_false] at hc
  rcases hc with rfl | rfl | rfl | rfl | rfl
  · exact w_c0
  · exact w_c1
  · exact w_c2
  · exact w_c3
  · exact w_c4
set_option maxRecDepth 65536 in
theorem w_t1 : (words1.take 24).all (fun c => isCode c || c.before args0 about1) = true := by decide +kernel
set_option maxRecDepth 65536 in
theorem w_t2 : (words1.drop 24).all (fun c => isCode c || c.before args0 about1) = true := by decide +kernel
theorem w_tables : (allAtoms (Jvm.Cond.code x code maxLocals ret :: tables_1)).before args0 about1 = true := by
  rw [allAtoms_all]
  show words1.all (fun c => c.before args0 about1) = true
  refine all_split ?_ w_codes
  rw [← List.take_append_drop 24 words1, List.all_append, w_t1, w_t2]
  rfl
set_option maxRecDepth 65536 in
theorem w_case : (Jvm.Cond.and given_1 narrow_1).before args0 about1 = true := by decide +kernel
theorem w_applies : (headSpec (Jvm.Cond.code x code maxLocals ret :: tables_1) room_1).applies x e0.platform about1 = true :=
  (Spec.applies_iff w_frames).mpr ⟨w_running, w_runnable, w_alone, w_named, w_hears, w_ripe, w_room, w_tables⟩
theorem atStart : AtStart classFile x code maxLocals ret World_1 tables_1 room_1 Calls_1 rest_1 Pre_1 launch0 p0 e0 about1 theMethod args0 below0 :=
  ⟨lists_1, trivial, launch0.admits_env _ _ _, launch0.least_env, fairChoices_fair.cas, fairChoices_fair.clock, w_frames, w_args, w_heap, w_applies, trivial, trivial, w_case⟩
end start1
theorem witness_1 : WitnessClaimed_1 := ⟨start1.p0, start1.e0, start1.about1, start1.theMethod, start1.args0, start1.below0, start1.atStart⟩
end Jvm.Pilot.@@N@@
