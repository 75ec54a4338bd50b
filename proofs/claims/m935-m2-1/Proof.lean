import JvmDerived
import JvmDerived.Pilot.@@N@@Statement
import JvmDerived.Pilot.@@N@@Code
set_option linter.unusedVariables false
set_option linter.unusedSimpArgs false

namespace Jvm.Pilot.@@N@@
open Jvm Jvm.ClassFile Sem Op Lib Jvm.Free Jvm.Stand Jvm.LawKit Jvm.RoadKit Bundle Jvm.Pilot.@@N@@.Jvm.D
/-! continuation style: from A the run comes to a state of which K holds -/
def own_Go (tb : Tables) (e : Env) (below : List Frame) (K : State → Prop) (A : State) : Prop := ∃ U, Steps tb e below A U ∧ K U
theorem own_by {tb : Tables} {e : Env} {below : List Frame} {K : State → Prop} {A B : State} (h : ∀ t, Steps tb e below B t → Steps tb e below A t) (k : own_Go tb e below K B) : own_Go tb e below K A := by
  obtain ⟨U, s, q⟩ := k; exact ⟨U, h U s, q⟩
def own_K (s : State) (below : List Frame) (Q : Option Value → Heap → List Loc → Prop) (kc ks : Nat) (U : State) : Prop :=
  ∃ v L, U.status = .running ∧ Ended U below (.returned v) ∧ Q v U.heap L ∧ FrameEnd s (.returned v) U L kc ks
theorem own_done {tb : Tables} {e : Env} {below : List Frame} {s A B : State} {Q : Option Value → Heap → List Loc → Prop} {kc ks : Nat} (h : ∀ t, Steps tb e below B t → Steps tb e below A t) (k : own_Go tb e below (own_K s below Q kc ks) B) :
    ∃ s₂ o, Steps tb e below A s₂ ∧ s₂.status = .running ∧ Ended s₂ below o ∧ ∃ v L, o = .returned v ∧ Q v s₂.heap L ∧ FrameEnd s o s₂ L kc ks := by
  obtain ⟨U, st, v, L, h1, h2, h3, h4⟩ := k
  exact ⟨U, _, h U st, h1, h2, v, L, rfl, h3, h4⟩
theorem own_ne {a b : Nat} (h : a < b ∨ b < a) : a ≠ b := by omega
theorem own_lt {a b : Nat} (h : a < b) : a < b := h
theorem own_cat1 (x : Int32) : Value.category (.int x) = 1 := rfl
theorem own_cat2 (x : Addr) : Value.category (.ref x) = 1 := rfl
theorem own_cat3 : Value.category .null = 1 := rfl
theorem own_cat4 (x : Int64) : Value.category (.long x) = 2 := rfl
section OwnRet
variable {p : Program} {l : Launch} {e : Env} {R : Room} {s : State} {m : MethodId} {args : Array Value} {below : List Frame} {meth : Method} {c : Code} {T : State} {locs : List Loc} {cells slots : Nat} {Q : Option Value → Heap → List Loc → Prop} {kc ks : Nat}
theorem own_retW (X : Stand p l e R s m args below meth c T locs cells slots) (hx : p.tables.exec = Jvm.exec) {pc : Nat} {Ls : Array Slot} {w : Value} {t : FieldType} {i : Instr} {rest : List Value} (hrt : meth.sig.returnType = some t) (hlk : meth.locks = false) (hn : narrow t w = w)
    (hi : (i = .ireturn ∧ (t = .int ∨ t = .boolean ∨ t = .byte ∨ t = .char ∨ t = .short) ∧ ∃ z, w = .int z) ∨ (i = .lreturn ∧ t = .long ∧ ∃ z, w = .long z) ∨ (i = .dreturn ∧ t = .double ∧ ∃ z, w = .double z) ∨ (i = .freturn ∧ t = .float ∧ ∃ z, w = .float z) ∨ (i = .areturn ∧ t.isReference = true ∧ w.isRef = true))
    (hd : decode c.code pc = .ok (i, 1)) (hc : cells ≤ kc) (hs : slots ≤ ks) (hq : Q (some w) T.heap locs) :
    own_Go p.tables e below (own_K s below Q kc ks) (T.setTop (mkF m pc Ls (w :: rest))) := by
  obtain ⟨fs, hr, hrun, hended, hW, hsame⟩ := X.leave (v := some w) (fun h => by rw [hrt] at h; cases h) hlk
  exact ⟨_, retOut X hx hrt hn hi hd hr, some w, locs, hrun, hended, hq, ⟨_, rfl⟩, hW, hsame.mono hc hs⟩
theorem own_retI (X : Stand p l e R s m args below meth c T locs cells slots) (hx : p.tables.exec = Jvm.exec) {pc : Nat} {Ls : Array Slot} {z : Int32} {rest : List Value} (hrt : meth.sig.returnType = some .int) (hlk : meth.locks = false)
    (hd : decode c.code pc = .ok (.ireturn, 1)) (hc : cells ≤ kc) (hs : slots ≤ ks) (hq : Q (some (.int z)) T.heap locs) :
    own_Go p.tables e below (own_K s below Q kc ks) (T.setTop (mkF m pc Ls (.int z :: rest))) :=
  own_retW X hx hrt hlk rfl (Or.inl ⟨rfl, Or.inl rfl, _, rfl⟩) hd hc hs hq
theorem own_retZ (X : Stand p l e R s m args below meth c T locs cells slots) (hx : p.tables.exec = Jvm.exec) {pc : Nat} {Ls : Array Slot} {z : Int32} {rest : List Value} (hrt : meth.sig.returnType = some .boolean) (hlk : meth.locks = false) (hn : narrow .boolean (.int z) = .int z)
    (hd : decode c.code pc = .ok (.ireturn, 1)) (hc : cells ≤ kc) (hs : slots ≤ ks) (hq : Q (some (.int z)) T.heap locs) :
    own_Go p.tables e below (own_K s below Q kc ks) (T.setTop (mkF m pc Ls (.int z :: rest))) :=
  own_retW X hx hrt hlk hn (Or.inl ⟨rfl, Or.inr (Or.inl rfl), _, rfl⟩) hd hc hs hq
theorem own_retJ (X : Stand p l e R s m args below meth c T locs cells slots) (hx : p.tables.exec = Jvm.exec) {pc : Nat} {Ls : Array Slot} {z : Int64} {rest : List Value} (hrt : meth.sig.returnType = some .long) (hlk : meth.locks = false)
    (hd : decode c.code pc = .ok (.lreturn, 1)) (hc : cells ≤ kc) (hs : slots ≤ ks) (hq : Q (some (.long z)) T.heap locs) :
    own_Go p.tables e below (own_K s below Q kc ks) (T.setTop (mkF m pc Ls (.long z :: rest))) :=
  own_retW X hx hrt hlk rfl (Or.inr (Or.inl ⟨rfl, rfl, _, rfl⟩)) hd hc hs hq
theorem own_retA (X : Stand p l e R s m args below meth c T locs cells slots) (hx : p.tables.exec = Jvm.exec) {pc : Nat} {Ls : Array Slot} {w : Value} {t : FieldType} {rest : List Value} (hrt : meth.sig.returnType = some t) (ht : t.isReference = true) (hw : w.isRef = true) (hlk : meth.locks = false)
    (hd : decode c.code pc = .ok (.areturn, 1)) (hc : cells ≤ kc) (hs : slots ≤ ks) (hq : Q (some w) T.heap locs) :
    own_Go p.tables e below (own_K s below Q kc ks) (T.setTop (mkF m pc Ls (w :: rest))) :=
  own_retW X hx hrt hlk (by rcases ref_cases hw with rfl | ⟨a, rfl⟩ <;> cases t <;> first | rfl | (cases ht)) (Or.inr (Or.inr (Or.inr (Or.inr ⟨rfl, ht, hw⟩)))) hd hc hs hq
theorem own_retV (X : Stand p l e R s m args below meth c T locs cells slots) (hx : p.tables.exec = Jvm.exec) {pc : Nat} {Ls : Array Slot} (hrt : meth.sig.returnType = none) (hlk : meth.locks = false)
    (hd : decode c.code pc = .ok (.return_, 1)) (hc : cells ≤ kc) (hs : slots ≤ ks) (hq : Q none T.heap locs) :
    own_Go p.tables e below (own_K s below Q kc ks) (T.setTop (mkF m pc Ls [])) := by
  obtain ⟨fs, hr, hrun, hended, hW, hsame⟩ := X.leave (v := none) (fun _ => rfl) hlk
  exact ⟨_, X.returnOut hx hrt hd hr, none, locs, hrun, hended, hq, ⟨_, rfl⟩, hW, hsame.mono hc hs⟩
theorem own_retB (X : Stand p l e R s m args below meth c T locs cells slots) (hx : p.tables.exec = Jvm.exec) {pc : Nat} {Ls : Array Slot} {z : Int32} {rest : List Value} (hrt : meth.sig.returnType = some .boolean) (hlk : meth.locks = false)
    (hd : decode c.code pc = .ok (.ireturn, 1)) (hc : cells ≤ kc) (hs : slots ≤ ks) (hq : Q (some (.int (z &&& (1 : Int32)))) T.heap locs) :
    own_Go p.tables e below (own_K s below Q kc ks) (T.setTop (mkF m pc Ls (.int z :: rest))) := by
  obtain ⟨fs, hr, hrun, hended, hW, hsame⟩ := X.leave (v := some (.int (nar .boolean z))) (fun h => by rw [hrt] at h; cases h) hlk
  exact ⟨_, retN X hx (t := .boolean) hrt (Or.inl rfl) hd hr, some (.int (nar .boolean z)), locs, hrun, hended, hq, ⟨_, rfl⟩, hW, hsame.mono hc hs⟩
end OwnRet
def own_P (r : Value) (h0 : Heap) (n0 : Nat) (v : Option Value) (h : Heap) (L : List Loc) : Prop := v = some r ∧ Fr n0 L ∧ h = h0
theorem own_selpriv {Z : State} {a0 : Array Value} {y : MethodName} {n : Nat} (wi : (Cond.instantiable y.cls n).before a0 Z = true) (wp : (Cond.privateMethod y).before a0 Z = true) (wm : (Cond.instanceMethod y).before a0 Z = true) (hy : y.cls ≠ "java/lang/invoke/MethodHandle" ∧ y.cls ≠ "java/lang/invoke/VarHandle") : (Cond.selects y.cls y y).before a0 Z = true := by
  obtain ⟨c, k, h1, h2, h3, h4, -⟩ := Cond.instantiable_spec wi
  exact selects_self_of_private h1 h2 (Bool.or_eq_false_iff.mp h4).1 (Cond.privateMethod_at wp) wm hy
theorem own_old_le {Z : State} {n0 : Nat} {h : Heap} (O : Old Z n0 h) : n0 ≤ h.size := by rw [← O.1]; exact O.2.1

def own_PV (h0 : Heap) (n0 : Nat) (v : Option Value) (h : Heap) (L : List Loc) : Prop := v = none ∧ Fr n0 L ∧ h = h0

def own_KH (Z : State) (EL : List (String × Nat)) (s : State) (below : List Frame) (Q : Option Value → Heap → List Loc → Prop) (kc ks : Nat) (U : State) : Prop :=
  ∃ v L, U.status = .running ∧ Ended U below (.returned v) ∧ Q v U.heap L ∧ CHr Z EL s.vm s.heap U.vm U.heap ∧ ReturnedEndW s (.returned v) U L kc ks
theorem own_doneH {Z : State} {EL : List (String × Nat)} {tb : Tables} {e : Env} {below : List Frame} {s A B : State} {Q : Option Value → Heap → List Loc → Prop} {kc ks : Nat} (h : ∀ t, Steps tb e below B t → Steps tb e below A t) (k : own_Go tb e below (own_KH Z EL s below Q kc ks) B) :
    ∃ s₂ o, Steps tb e below A s₂ ∧ s₂.status = .running ∧ Ended s₂ below o ∧ ∃ v L, o = .returned v ∧ Q v s₂.heap L ∧ CHr Z EL s.vm s.heap s₂.vm s₂.heap ∧ ReturnedEndW s o s₂ L kc ks := by
  obtain ⟨U, st, v, L, h1, h2, h3, h4, h5⟩ := k
  exact ⟨U, _, h U st, h1, h2, v, L, rfl, h3, h4, h5⟩
def own_KL (s : State) (below : List Frame) (Q : Option Value → Heap → List Loc → Prop) (kc ks : Nat) (U : State) : Prop :=
  ∃ v L, U.status = .running ∧ Ended U below (.returned v) ∧ Q v U.heap L ∧ ReturnedEndW s (.returned v) U L kc ks
theorem own_doneL {tb : Tables} {e : Env} {below : List Frame} {s A B : State} {Q : Option Value → Heap → List Loc → Prop} {kc ks : Nat} (h : ∀ t, Steps tb e below B t → Steps tb e below A t) (k : own_Go tb e below (own_KL s below Q kc ks) B) :
    ∃ s₂ o, Steps tb e below A s₂ ∧ s₂.status = .running ∧ Ended s₂ below o ∧ ∃ v L, o = .returned v ∧ Q v s₂.heap L ∧ ReturnedEndW s o s₂ L kc ks := by
  obtain ⟨U, st, v, L, h1, h2, h3, h5⟩ := k
  exact ⟨U, _, h U st, h1, h2, v, L, rfl, h3, h5⟩
theorem own_monoW {s t : State} {o : Outcome} {L : List Loc} {k n k' n' : Nat} (h : ReturnedEndW s o t L k n) (hk : k ≤ k') (hn : n ≤ n') : ReturnedEndW s o t L k' n' := ⟨h.1, h.2.1, h.2.2.1, h.2.2.2.mono hk hn⟩
section OwnRetH
variable {p : Program} {l : Launch} {e : Env} {R : Room} {s : State} {m : MethodId} {args : Array Value} {below : List Frame} {meth : Method} {c : Code} {T : State} {locs : List Loc} {cells slots : Nat} {Q : Option Value → Heap → List Loc → Prop} {kc ks : Nat} {Z : State} {EL : List (String × Nat)}
theorem own_retZH {vm1 : Vm} (X : Stand p l e R (s.setVm vm1) m args below meth c T locs cells slots) (hx : p.tables.exec = Jvm.exec) {k1 : Nat} (hS : s.Since vm1 k1) (hk : k1 ≤ T.heap.size) {pc : Nat} {Ls : Array Slot} {z : Int32} {rest : List Value} (hrt : meth.sig.returnType = some .boolean) (hlk : meth.locks = false) (hn : narrow .boolean (.int z) = .int z)
    (hd : decode c.code pc = .ok (.ireturn, 1)) (hc : cells ≤ kc) (hs : slots ≤ ks) (hC : CHr Z EL s.vm s.heap T.vm T.heap) (hq : Q (some (.int z)) T.heap locs) :
    own_Go p.tables e below (own_KH Z EL s below Q kc ks) (T.setTop (mkF m pc Ls (.int z :: rest))) := by
  obtain ⟨fs, hr, hrun, hended, hW⟩ := Jvm.Stand.leaveW X hS hk (v := some (.int z)) (fun h => by rw [hrt] at h; cases h) hlk
  exact ⟨_, retOut X hx hrt hn (Or.inl ⟨rfl, Or.inr (Or.inl rfl), _, rfl⟩) hd hr, some (.int z), locs, hrun, hended, hq, hC, own_monoW hW hc hs⟩
theorem own_retZN (X : Stand p l e R s m args below meth c T locs cells slots) (hx : p.tables.exec = Jvm.exec) {pc : Nat} {Ls : Array Slot} {z : Int32} {rest : List Value} (hrt : meth.sig.returnType = some .boolean) (hlk : meth.locks = false) (hn : narrow .boolean (.int z) = .int z)
    (hd : decode c.code pc = .ok (.ireturn, 1)) (hc : cells ≤ kc) (hs : slots ≤ ks) (hC : CHr Z EL s.vm s.heap T.vm T.heap) (hq : Q (some (.int z)) T.heap locs) :
    own_Go p.tables e below (own_KH Z EL s below Q kc ks) (T.setTop (mkF m pc Ls (.int z :: rest))) :=
  own_retZH (s := s) (vm1 := s.vm) X hx (k1 := 0) ((State.WarmedH.refl s).since 0) (Nat.zero_le _) hrt hlk hn hd hc hs hC hq
theorem own_retZL {vm1 : Vm} (X : Stand p l e R (s.setVm vm1) m args below meth c T locs cells slots) (hx : p.tables.exec = Jvm.exec) {k1 : Nat} (hS : s.Since vm1 k1) (hk : k1 ≤ T.heap.size) {pc : Nat} {Ls : Array Slot} {z : Int32} {rest : List Value} (hrt : meth.sig.returnType = some .boolean) (hlk : meth.locks = false) (hn : narrow .boolean (.int z) = .int z)
    (hd : decode c.code pc = .ok (.ireturn, 1)) (hc : cells ≤ kc) (hs : slots ≤ ks) (hq : Q (some (.int z)) T.heap locs) :
    own_Go p.tables e below (own_KL s below Q kc ks) (T.setTop (mkF m pc Ls (.int z :: rest))) := by
  obtain ⟨fs, hr, hrun, hended, hW⟩ := Jvm.Stand.leaveW X hS hk (v := some (.int z)) (fun h => by rw [hrt] at h; cases h) hlk
  exact ⟨_, retOut X hx hrt hn (Or.inl ⟨rfl, Or.inr (Or.inl rfl), _, rfl⟩) hd hr, some (.int z), locs, hrun, hended, hq, own_monoW hW hc hs⟩
end OwnRetH

theorem own_mod (x n : Int32) (hn : 0 < n.toInt) : 0 ≤ ((x &&& (2147483647 : Int32)) % n).toInt ∧ ((x &&& (2147483647 : Int32)) % n).toInt < n.toInt := by
  have h0 := (c_and x (2147483647 : Int32) (by decide)).1
  have h1 := (c_iremV (x &&& (2147483647 : Int32)) n).1 h0 hn
  exact ⟨h1.1, h1.2.1⟩

theorem own_enum5 {z : Int32} (h0 : 0 ≤ z.toInt) (h1 : z.toInt < 5) : z = (0 : Int32) ∨ z = (1 : Int32) ∨ z = (2 : Int32) ∨ z = (3 : Int32) ∨ z = (4 : Int32) := by
  have h : z.toInt = 0 ∨ z.toInt = 1 ∨ z.toInt = 2 ∨ z.toInt = 3 ∨ z.toInt = 4 := by omega
  rcases h with h | h | h | h | h
  · exact Or.inl (Int32.toInt_inj.mp (h.trans (by decide)))
  · exact Or.inr (Or.inl (Int32.toInt_inj.mp (h.trans (by decide))))
  · exact Or.inr (Or.inr (Or.inl (Int32.toInt_inj.mp (h.trans (by decide)))))
  · exact Or.inr (Or.inr (Or.inr (Or.inl (Int32.toInt_inj.mp (h.trans (by decide))))))
  · exact Or.inr (Or.inr (Or.inr (Or.inr ((Int32.toInt_inj.mp (h.trans (by decide)))))))

def own_EL : List (String × Nat) := consts_1

theorem own_ne0 {Z : State} {args : Array Value} {t : Term} {x : Int32} (e : t.eval args Z none [] Z = some (.int x)) (h : (Cond.eq t (.int 0)).value args Z none Z [] = some (!true)) : ¬ x = (0 : Int32) := by
  intro q; subst q; simp [Cond.value, e, Term.eval] at h

def own_W (Z : State) (h : Heap) (a_INTEGER a_BIGINT a_VARCHAR a_DECIMAL a_DOUBLE : Addr) (ucs : Int32) : Prop := Sta Z h "com/example/planwright/planwright/cache/LiteralType$Kind" "INTEGER" "Lcom/example/planwright/planwright/cache/LiteralType$Kind;" (.ref a_INTEGER) ∧ Exa Z h a_INTEGER "com/example/planwright/planwright/cache/LiteralType$Kind" ∧ Sta Z h "com/example/planwright/planwright/cache/LiteralType$Kind" "BIGINT" "Lcom/example/planwright/planwright/cache/LiteralType$Kind;" (.ref a_BIGINT) ∧ Exa Z h a_BIGINT "com/example/planwright/planwright/cache/LiteralType$Kind" ∧ Sta Z h "com/example/planwright/planwright/cache/LiteralType$Kind" "VARCHAR" "Lcom/example/planwright/planwright/cache/LiteralType$Kind;" (.ref a_VARCHAR) ∧ Exa Z h a_VARCHAR "com/example/planwright/planwright/cache/LiteralType$Kind" ∧ Sta Z h "com/example/planwright/planwright/cache/LiteralType$Kind" "DECIMAL" "Lcom/example/planwright/planwright/cache/LiteralType$Kind;" (.ref a_DECIMAL) ∧ Exa Z h a_DECIMAL "com/example/planwright/planwright/cache/LiteralType$Kind" ∧ Sta Z h "com/example/planwright/planwright/cache/LiteralType$Kind" "DOUBLE" "Lcom/example/planwright/planwright/cache/LiteralType$Kind;" (.ref a_DOUBLE) ∧ Exa Z h a_DOUBLE "com/example/planwright/planwright/cache/LiteralType$Kind" ∧ Fld Z h a_INTEGER "java/lang/Enum" "ordinal" "I" (.int (0 : Int32)) ∧ Fld Z h a_BIGINT "java/lang/Enum" "ordinal" "I" (.int (1 : Int32)) ∧ Fld Z h a_VARCHAR "java/lang/Enum" "ordinal" "I" (.int (4 : Int32)) ∧ Fld Z h a_DECIMAL "java/lang/Enum" "ordinal" "I" (.int (2 : Int32)) ∧ Fld Z h a_DOUBLE "java/lang/Enum" "ordinal" "I" (.int (3 : Int32)) ∧ Sta Z h "java/lang/String" "COMPACT_STRINGS" "Z" (.int ucs) ∧ ¬ ucs = (0 : Int32)

def own_ko (uj : Int32) (a_INTEGER : Addr) (a_BIGINT : Addr) (a_DECIMAL : Addr) (a_DOUBLE : Addr) (a_VARCHAR : Addr) : Addr := if uj = (0 : Int32) then a_INTEGER else if uj = (1 : Int32) then a_BIGINT else if uj = (2 : Int32) then a_DECIMAL else if uj = (3 : Int32) then a_DOUBLE else a_VARCHAR

theorem d1_0 : decode method_2_code 0 = .ok (.iload_n 0, 1) := by decide +kernel
theorem d1_1 : decode method_2_code 1 = .ok (.ifCond .ne 7, 3) := by decide +kernel
theorem d1_4 : decode method_2_code 4 = .ok (.getstatic 7, 3) := by decide +kernel
theorem d1_7 : decode method_2_code 7 = .ok (.areturn, 1) := by decide +kernel
theorem d1_8 : decode method_2_code 8 = .ok (.iload_n 0, 1) := by decide +kernel
theorem d1_9 : decode method_2_code 9 = .ok (.iconst 1, 1) := by decide +kernel
theorem d1_10 : decode method_2_code 10 = .ok (.if_icmp .ne 7, 3) := by decide +kernel
theorem d1_13 : decode method_2_code 13 = .ok (.getstatic 13, 3) := by decide +kernel
theorem d1_16 : decode method_2_code 16 = .ok (.areturn, 1) := by decide +kernel
theorem d1_17 : decode method_2_code 17 = .ok (.iload_n 0, 1) := by decide +kernel
theorem d1_18 : decode method_2_code 18 = .ok (.iconst 2, 1) := by decide +kernel
theorem d1_19 : decode method_2_code 19 = .ok (.if_icmp .ne 7, 3) := by decide +kernel
theorem d1_22 : decode method_2_code 22 = .ok (.getstatic 16, 3) := by decide +kernel
theorem d1_25 : decode method_2_code 25 = .ok (.areturn, 1) := by decide +kernel
theorem d1_26 : decode method_2_code 26 = .ok (.iload_n 0, 1) := by decide +kernel
theorem d1_27 : decode method_2_code 27 = .ok (.iconst 3, 1) := by decide +kernel
theorem d1_28 : decode method_2_code 28 = .ok (.if_icmp .ne 7, 3) := by decide +kernel
theorem d1_31 : decode method_2_code 31 = .ok (.getstatic 19, 3) := by decide +kernel
theorem d1_34 : decode method_2_code 34 = .ok (.areturn, 1) := by decide +kernel
theorem d1_35 : decode method_2_code 35 = .ok (.getstatic 22, 3) := by decide +kernel
theorem d1_38 : decode method_2_code 38 = .ok (.areturn, 1) := by decide +kernel
theorem pn_rmKo : plainFor (⟨"com/example/planwright/planwright/cache/LiteralTypeFitsPinLaw", "kindOf", "(I)Lcom/example/planwright/planwright/cache/LiteralType$Kind;"⟩ : MethodName) = true := by first | exact plainFor_of_name (by first | (simp [plainName, overriddenIn]; done) | decide +kernel) | exact Jvm.Free.JP.mathPlain rfl (by decide +kernel) | decide +kernel
theorem ef_rmKo (m : MethodId) (x0 : Int32) : entryFrame m #[(.int x0)] 1 = mkF m 0 #[.val (.int x0)] [] := by first | (simp [entryFrame, mkF, argsToLocals, Value.category]; done) | rfl
set_option maxRecDepth 65536 in
set_option maxHeartbeats 40000000 in
theorem rmKo (l : Launch) (Z : State) (a0 : Array Value) (hw : ∀ d ∈ tables_1, d.before a0 Z = true) (ws : List Jvm.Cond) (a_INTEGER a_BIGINT a_VARCHAR a_DECIMAL a_DOUBLE : Addr) (ucs : Int32) (uj : Int32) (h0 : Heap) (n0 : Nat) (Z0 : n0 ≤ h0.size) (O0 : Old Z n0 h0) (HW : own_W Z Z.heap a_INTEGER a_BIGINT a_VARCHAR a_DECIMAL a_DOUBLE ucs) :
    MetFree l (⟨"com/example/planwright/planwright/cache/LiteralTypeFitsPinLaw", "kindOf", "(I)Lcom/example/planwright/planwright/cache/LiteralType$Kind;"⟩ : MethodName) (head1 (Jvm.Cond.code (⟨"com/example/planwright/planwright/cache/LiteralTypeFitsPinLaw", "kindOf", "(I)Lcom/example/planwright/planwright/cache/LiteralType$Kind;"⟩ : MethodName) method_2_code 1 (some (.object "com/example/planwright/planwright/cache/LiteralType$Kind")) :: ws) ({ frames := 0, cells := 0, slots := 0, locals := 0 } : Room)) (fun a U => a = #[(.int uj)] ∧ Z.Warmed39 U.vm ∧ U.heap = h0) (fun _ _ _ _ _ => True) (fun _ U o U' => ∃ v L, o = .returned v ∧ (own_P (.ref (own_ko uj a_INTEGER a_BIGINT a_DECIMAL a_DOUBLE a_VARCHAR)) h0 n0) v U'.heap L ∧ FrameEnd U o U' L 0 0) := by
  refine MetFree.of_bodySF pn_rmKo hisR ?_
  intro p e s m args below meth c s₁ Bd hml0 hP hK
  obtain ⟨rfl, hZ, hh⟩ := hP
  have hx := Bd.exec
  have hby := Bd.bytes
  have hml : c.maxLocals = 1 := hml0
  have hown : s.vm.findClass "com/example/planwright/planwright/cache/LiteralTypeFitsPinLaw" = some m.cls := findClass_of_methodNamed Bd.named
  have hnm := (name_of_methodNamed Bd.named Bd.method).1
  have hrt := Bd.returns
  have hlk := Bd.notSynchronized
  have X0 : Stand p l e ({ frames := 0, cells := 0, slots := 0, locals := 0 } : Room) s m #[(.int uj)] below meth c s₁ [] 0 0 := Stand.of_body Bd
  have e0 : s₁.heap = h0 := by rw [← hh, Bd.state]; rfl
  have N0 := Fr.nil n0
  have HW' := HW
  obtain ⟨S_INTEGER, E_INTEGER, S_BIGINT, E_BIGINT, S_VARCHAR, E_VARCHAR, S_DECIMAL, E_DECIMAL, S_DOUBLE, E_DOUBLE, F_INTEGER_ordinal, F_BIGINT_ordinal, F_VARCHAR_ordinal, F_DECIMAL_ordinal, F_DOUBLE_ordinal, S_CS, H_CS⟩ := HW'
  refine own_done (B := s₁.setTop (mkF m 0 #[.val (.int uj)] [])) (fun t k => castTop (ef_rmKo m uj) k) ?_
  refine own_by (B := s₁.setTop (mkF m 1 #[.val (.int uj)] [(.int uj)])) (fun _ k => XS.iloadN X0.here hx rfl (hb hby d1_0) rfl  k) ?_
  by_cases hc1 : uj = (0 : Int32)
  · refine own_by (B := s₁.setTop (mkF m 4 #[.val (.int uj)] [])) (fun _ k => XS.ifNo X0.here hx rfl (hb hby d1_1) rfl (XT.i0_ne_f hc1) k) ?_
    obtain ⟨T2, X2, e2, st2⟩ := getS2 X0 hx hZ hown (host := "") (Or.inl (hw _ (List.mem_of_getElem? (i := 8) rfl))) Via.refl e0 (S_INTEGER.ext O0.2) (g := (mkF m 4 #[.val (.int uj)] [])) rfl (hb hby d1_4)
    refine own_by (B := T2.setTop (mkF m 7 #[.val (.int uj)] [(.ref a_INTEGER)])) st2 ?_
    exact own_retA X2 hx hrt rfl rfl hlk (hb hby d1_7) (by decide) (by decide) ⟨(by unfold own_ko; rw [if_pos hc1]), N0, e2⟩
  · refine own_by (B := s₁.setTop (mkF m 8 #[.val (.int uj)] [])) (fun _ k => XS.ifYes X0.here hx rfl (pc0 := 1) (pc' := 8) rfl (hb hby d1_1) rfl (XT.i0_ne_t hc1) (by decide) (by decide) k) ?_
    refine own_by (B := s₁.setTop (mkF m 9 #[.val (.int uj)] [(.int uj)])) (fun _ k => XS.iloadN X0.here hx rfl (hb hby d1_8) rfl  k) ?_
    refine own_by (B := s₁.setTop (mkF m 10 #[.val (.int uj)] [(.int (1 : Int32)), (.int uj)])) (fun _ k => XS.iconst X0.here hx rfl (hb hby d1_9) k) ?_
    by_cases hc3 : uj = (1 : Int32)
    · refine own_by (B := s₁.setTop (mkF m 13 #[.val (.int uj)] [])) (fun _ k => XS.icmpNo X0.here hx rfl (hb hby d1_10) rfl (XT.ii_ne_f hc3) k) ?_
      obtain ⟨T4, X4, e4, st4⟩ := getS2 X0 hx hZ hown (host := "") (Or.inl (hw _ (List.mem_of_getElem? (i := 28) rfl))) Via.refl e0 (S_BIGINT.ext O0.2) (g := (mkF m 13 #[.val (.int uj)] [])) rfl (hb hby d1_13)
      refine own_by (B := T4.setTop (mkF m 16 #[.val (.int uj)] [(.ref a_BIGINT)])) st4 ?_
      exact own_retA X4 hx hrt rfl rfl hlk (hb hby d1_16) (by decide) (by decide) ⟨(by unfold own_ko; rw [if_neg hc1, if_pos hc3]), N0, e4⟩
    · refine own_by (B := s₁.setTop (mkF m 17 #[.val (.int uj)] [])) (fun _ k => XS.icmpYes X0.here hx rfl (pc0 := 10) (pc' := 17) rfl (hb hby d1_10) rfl (XT.ii_ne_t hc3) (by decide) (by decide) k) ?_
      refine own_by (B := s₁.setTop (mkF m 18 #[.val (.int uj)] [(.int uj)])) (fun _ k => XS.iloadN X0.here hx rfl (hb hby d1_17) rfl  k) ?_
      refine own_by (B := s₁.setTop (mkF m 19 #[.val (.int uj)] [(.int (2 : Int32)), (.int uj)])) (fun _ k => XS.iconst X0.here hx rfl (hb hby d1_18) k) ?_
      by_cases hc5 : uj = (2 : Int32)
      · refine own_by (B := s₁.setTop (mkF m 22 #[.val (.int uj)] [])) (fun _ k => XS.icmpNo X0.here hx rfl (hb hby d1_19) rfl (XT.ii_ne_f hc5) k) ?_
        obtain ⟨T6, X6, e6, st6⟩ := getS2 X0 hx hZ hown (host := "") (Or.inl (hw _ (List.mem_of_getElem? (i := 48) rfl))) Via.refl e0 (S_DECIMAL.ext O0.2) (g := (mkF m 22 #[.val (.int uj)] [])) rfl (hb hby d1_22)
        refine own_by (B := T6.setTop (mkF m 25 #[.val (.int uj)] [(.ref a_DECIMAL)])) st6 ?_
        exact own_retA X6 hx hrt rfl rfl hlk (hb hby d1_25) (by decide) (by decide) ⟨(by unfold own_ko; rw [if_neg hc1, if_neg hc3, if_pos hc5]), N0, e6⟩
      · refine own_by (B := s₁.setTop (mkF m 26 #[.val (.int uj)] [])) (fun _ k => XS.icmpYes X0.here hx rfl (pc0 := 19) (pc' := 26) rfl (hb hby d1_19) rfl (XT.ii_ne_t hc5) (by decide) (by decide) k) ?_
        refine own_by (B := s₁.setTop (mkF m 27 #[.val (.int uj)] [(.int uj)])) (fun _ k => XS.iloadN X0.here hx rfl (hb hby d1_26) rfl  k) ?_
        refine own_by (B := s₁.setTop (mkF m 28 #[.val (.int uj)] [(.int (3 : Int32)), (.int uj)])) (fun _ k => XS.iconst X0.here hx rfl (hb hby d1_27) k) ?_
        by_cases hc7 : uj = (3 : Int32)
        · refine own_by (B := s₁.setTop (mkF m 31 #[.val (.int uj)] [])) (fun _ k => XS.icmpNo X0.here hx rfl (hb hby d1_28) rfl (XT.ii_ne_f hc7) k) ?_
          obtain ⟨T8, X8, e8, st8⟩ := getS2 X0 hx hZ hown (host := "") (Or.inl (hw _ (List.mem_of_getElem? (i := 51) rfl))) Via.refl e0 (S_DOUBLE.ext O0.2) (g := (mkF m 31 #[.val (.int uj)] [])) rfl (hb hby d1_31)
          refine own_by (B := T8.setTop (mkF m 34 #[.val (.int uj)] [(.ref a_DOUBLE)])) st8 ?_
          exact own_retA X8 hx hrt rfl rfl hlk (hb hby d1_34) (by decide) (by decide) ⟨(by unfold own_ko; rw [if_neg hc1, if_neg hc3, if_neg hc5, if_pos hc7]), N0, e8⟩
        · refine own_by (B := s₁.setTop (mkF m 35 #[.val (.int uj)] [])) (fun _ k => XS.icmpYes X0.here hx rfl (pc0 := 28) (pc' := 35) rfl (hb hby d1_28) rfl (XT.ii_ne_t hc7) (by decide) (by decide) k) ?_
          obtain ⟨T9, X9, e9, st9⟩ := getS2 X0 hx hZ hown (host := "") (Or.inl (hw _ (List.mem_of_getElem? (i := 46) rfl))) Via.refl e0 (S_VARCHAR.ext O0.2) (g := (mkF m 35 #[.val (.int uj)] [])) rfl (hb hby d1_35)
          refine own_by (B := T9.setTop (mkF m 38 #[.val (.int uj)] [(.ref a_VARCHAR)])) st9 ?_
          exact own_retA X9 hx hrt rfl rfl hlk (hb hby d1_38) (by decide) (by decide) ⟨(by unfold own_ko; rw [if_neg hc1, if_neg hc3, if_neg hc5, if_neg hc7]), N0, e9⟩

theorem d3_0 : decode jdk_30_method_1_code 0 = .ok (.aload_n 0, 1) := by decide +kernel
theorem d3_1 : decode jdk_30_method_1_code 1 = .ok (.invokespecial 1, 3) := by decide +kernel
theorem d3_4 : decode jdk_30_method_1_code 4 = .ok (.return_, 1) := by decide +kernel
theorem pn_rmRec : plainFor (⟨"java/lang/Record", "<init>", "()V"⟩ : MethodName) = true := by first | exact plainFor_of_name (by first | (simp [plainName, overriddenIn]; done) | decide +kernel) | exact Jvm.Free.JP.mathPlain rfl (by decide +kernel) | decide +kernel
theorem ef_rmRec (m : MethodId) (x0 : Addr) : entryFrame m #[(.ref x0)] 1 = mkF m 0 #[.val (.ref x0)] [] := by first | (simp [entryFrame, mkF, argsToLocals, Value.category]; done) | rfl
set_option maxRecDepth 65536 in
set_option maxHeartbeats 40000000 in
theorem rmRec (l : Launch) (Z : State) (a0 : Array Value) (hw : ∀ d ∈ tables_1, d.before a0 Z = true) (ws : List Jvm.Cond) (ua : Addr) (h0 : Heap) (n0 : Nat) (Z0 : n0 ≤ h0.size)  :
    MetFree l (⟨"java/lang/Record", "<init>", "()V"⟩ : MethodName) (head1 (Jvm.Cond.code (⟨"java/lang/Record", "<init>", "()V"⟩ : MethodName) jdk_30_method_1_code 1 none :: ws) ({ frames := 1, cells := 0, slots := 0, locals := 12 } : Room)) (fun a U => a = #[(.ref ua)] ∧ Z.Warmed39 U.vm ∧ U.heap = h0) (fun _ _ _ _ _ => True) (fun _ U o U' => ∃ v L, o = .returned v ∧ (own_PV h0 n0) v U'.heap L ∧ FrameEnd U o U' L 0 0) := by
  refine MetFree.of_bodySF pn_rmRec hisR ?_
  intro p e s m args below meth c s₁ Bd hml0 hP hK
  obtain ⟨rfl, hZ, hh⟩ := hP
  have hx := Bd.exec
  have hby := Bd.bytes
  have hml : c.maxLocals = 1 := hml0
  have hown : s.vm.findClass "java/lang/Record" = some m.cls := findClass_of_methodNamed Bd.named
  have hnm := (name_of_methodNamed Bd.named Bd.method).1
  have hrt := Bd.returns
  have hlk := Bd.notSynchronized
  have X0 : Stand p l e ({ frames := 1, cells := 0, slots := 0, locals := 12 } : Room) s m #[(.ref ua)] below meth c s₁ [] 0 0 := Stand.of_body Bd
  have e0 : s₁.heap = h0 := by rw [← hh, Bd.state]; rfl
  have N0 := Fr.nil n0
  have K0 := Keep.refl h0 []
  refine own_done (B := s₁.setTop (mkF m 0 #[.val (.ref ua)] [])) (fun t k => castTop (ef_rmRec m ua) k) ?_
  refine own_by (B := s₁.setTop (mkF m 1 #[.val (.ref ua)] [(.ref ua)])) (fun _ k => XS.aloadN X0.here hx rfl (hb hby d3_0) rfl rfl  k) ?_
  obtain ⟨T1, X1, e1, st1⟩ := initO X0 hx hZ hown (hw _ (List.mem_of_getElem? (i := 19) rfl)) (hw _ (List.mem_of_getElem? (i := 20) rfl)) (hw _ (List.mem_of_getElem? (i := 21) rfl)) e0 (g := (mkF m 1 #[.val (.ref ua)] [(.ref ua)])) rfl (by rw [hml]; rfl) rfl (hb hby d3_1) (by decide) (W := 0) (by show 2 * 0 + _ ≤ _; exact Nat.le_of_eq rfl) (by decide)
  refine own_by (B := T1.setTop (mkF m 4 #[.val (.ref ua)] [])) st1 ?_
  exact own_retV X1 hx hrt hlk (hb hby d3_4) (by decide) (by decide) ⟨rfl, N0, e1⟩

def own_QLT (Z : State) (ua : Addr) (uk : Addr) (us uc : Int32) (h0 : Heap) (n0 : Nat) (v : Option Value) (h : Heap) (L : List Loc) : Prop := v = none ∧ Fr n0 L ∧ Keep h0 h [ua] ∧ Exa Z h ua "com/example/planwright/planwright/cache/LiteralType" ∧ Fld Z h ua "com/example/planwright/planwright/cache/LiteralType" "kind" "Lcom/example/planwright/planwright/cache/LiteralType$Kind;" (.ref uk) ∧ Fld Z h ua "com/example/planwright/planwright/cache/LiteralType" "size" "I" (.int us) ∧ Fld Z h ua "com/example/planwright/planwright/cache/LiteralType" "scale" "I" (.int uc)

theorem d2_0 : decode prog_3_method_1_code 0 = .ok (.aload_n 0, 1) := by decide +kernel
theorem d2_1 : decode prog_3_method_1_code 1 = .ok (.invokespecial 1, 3) := by decide +kernel
theorem d2_4 : decode prog_3_method_1_code 4 = .ok (.aload_n 0, 1) := by decide +kernel
theorem d2_5 : decode prog_3_method_1_code 5 = .ok (.aload_n 1, 1) := by decide +kernel
theorem d2_6 : decode prog_3_method_1_code 6 = .ok (.putfield 7, 3) := by decide +kernel
theorem d2_9 : decode prog_3_method_1_code 9 = .ok (.aload_n 0, 1) := by decide +kernel
theorem d2_10 : decode prog_3_method_1_code 10 = .ok (.iload_n 2, 1) := by decide +kernel
theorem d2_11 : decode prog_3_method_1_code 11 = .ok (.putfield 13, 3) := by decide +kernel
theorem d2_14 : decode prog_3_method_1_code 14 = .ok (.aload_n 0, 1) := by decide +kernel
theorem d2_15 : decode prog_3_method_1_code 15 = .ok (.iload_n 3, 1) := by decide +kernel
theorem d2_16 : decode prog_3_method_1_code 16 = .ok (.putfield 17, 3) := by decide +kernel
theorem d2_19 : decode prog_3_method_1_code 19 = .ok (.return_, 1) := by decide +kernel
theorem pd_2___V : parseMethodDescriptor "()V" = some ⟨[], none⟩ := by decide +kernel
theorem pn_rmLT : plainFor (⟨"com/example/planwright/planwright/cache/LiteralType", "<init>", "(Lcom/example/planwright/planwright/cache/LiteralType$Kind;II)V"⟩ : MethodName) = true := by first | exact plainFor_of_name (by first | (simp [plainName, overriddenIn]; done) | decide +kernel) | exact Jvm.Free.JP.mathPlain rfl (by decide +kernel) | decide +kernel
theorem ef_rmLT (m : MethodId) (x0 : Addr) (x1 : Addr) (x2 : Int32) (x3 : Int32) : entryFrame m #[(.ref x0), (.ref x1), (.int x2), (.int x3)] 4 = mkF m 0 #[.val (.ref x0), .val (.ref x1), .val (.int x2), .val (.int x3)] [] := by first | (simp [entryFrame, mkF, argsToLocals, Value.category]; done) | rfl
set_option maxRecDepth 65536 in
set_option maxHeartbeats 40000000 in
theorem rmLT (l : Launch) (Z : State) (a0 : Array Value) (hw : ∀ d ∈ tables_1, d.before a0 Z = true) (ws : List Jvm.Cond) (ua : Addr) (uk : Addr) (us uc : Int32) (h0 : Heap) (n0 : Nat) (Z0 : n0 ≤ h0.size) (O0 : Old Z n0 h0) (E_ua : Exa Z h0 ua "com/example/planwright/planwright/cache/LiteralType") (F_kind : Fld Z h0 ua "com/example/planwright/planwright/cache/LiteralType" "kind" "Lcom/example/planwright/planwright/cache/LiteralType$Kind;" .null) (F_size : Fld Z h0 ua "com/example/planwright/planwright/cache/LiteralType" "size" "I" (.int (0 : Int32))) (F_scale : Fld Z h0 ua "com/example/planwright/planwright/cache/LiteralType" "scale" "I" (.int (0 : Int32))) (gn_ua : n0 ≤ ua) :
    MetFree l (⟨"com/example/planwright/planwright/cache/LiteralType", "<init>", "(Lcom/example/planwright/planwright/cache/LiteralType$Kind;II)V"⟩ : MethodName) (head1 (Jvm.Cond.code (⟨"com/example/planwright/planwright/cache/LiteralType", "<init>", "(Lcom/example/planwright/planwright/cache/LiteralType$Kind;II)V"⟩ : MethodName) prog_3_method_1_code 4 none :: ws) ({ frames := 2, cells := 0, slots := 0, locals := 24 } : Room)) (fun a U => a = #[(.ref ua), (.ref uk), (.int us), (.int uc)] ∧ Z.Warmed39 U.vm ∧ U.heap = h0) (fun _ _ _ _ _ => True) (fun _ U o U' => ∃ v L, o = .returned v ∧ (own_QLT Z ua uk us uc h0 n0) v U'.heap L ∧ FrameEnd U o U' L 0 0) := by
  refine MetFree.of_bodySF pn_rmLT hisR ?_
  intro p e s m args below meth c s₁ Bd hml0 hP hK
  obtain ⟨rfl, hZ, hh⟩ := hP
  have hx := Bd.exec
  have hby := Bd.bytes
  have hml : c.maxLocals = 4 := hml0
  have hown : s.vm.findClass "com/example/planwright/planwright/cache/LiteralType" = some m.cls := findClass_of_methodNamed Bd.named
  have hnm := (name_of_methodNamed Bd.named Bd.method).1
  have hrt := Bd.returns
  have hlk := Bd.notSynchronized
  have X0 : Stand p l e ({ frames := 2, cells := 0, slots := 0, locals := 24 } : Room) s m #[(.ref ua), (.ref uk), (.int us), (.int uc)] below meth c s₁ [] 0 0 := Stand.of_body Bd
  have e0 : s₁.heap = h0 := by rw [← hh, Bd.state]; rfl
  have N0 := Fr.nil n0
  have K0 := Keep.refl h0 [ua]
  have lt_ua := own_lt E_ua.lt
  refine own_done (B := s₁.setTop (mkF m 0 #[.val (.ref ua), .val (.ref uk), .val (.int us), .val (.int uc)] [])) (fun t k => castTop (ef_rmLT m ua uk us uc) k) ?_
  refine own_by (B := s₁.setTop (mkF m 1 #[.val (.ref ua), .val (.ref uk), .val (.int us), .val (.int uc)] [(.ref ua)])) (fun _ k => XS.aloadN X0.here hx rfl (hb hby d2_0) rfl rfl  k) ?_
  obtain ⟨_, _, ⟨T1, L1, k1, n1⟩, -, X1, ⟨Lc1, hQ1, l1, y1, z1⟩, st1⟩ := X0.specialBack hx (y := (⟨"java/lang/Record", "<init>", "()V"⟩ : MethodName)) rfl hown (mvT hZ (hw _ (List.mem_of_getElem? (i := 14) rfl))) (mvT hZ (hw _ (List.mem_of_getElem? (i := 15) rfl))) (mvT hZ (hw _ (List.mem_of_getElem? (i := 18) rfl))) (by decide) (backOf (W := 0) (rmRec l Z a0 hw [] ua h0 n0 (own_old_le O0)) hZ (hw _ (List.mem_of_getElem? (i := 18) rfl)) (hw _ (List.mem_of_getElem? (i := 17) rfl)) (by decide) (by decide)) (g := (mkF m 1 #[.val (.ref ua), .val (.ref uk), .val (.int us), .val (.int uc)] [(.ref ua)])) rfl (by rw [hml]; rfl) (Steps.refl _) (a := ua) (argsL := []) (rest := []) (lenOf pd_2___V rfl) rfl (by show 2 * 0 + _ ≤ _; exact Nat.le_of_eq rfl) (hb hby d2_1) (fun _ _ => ⟨rfl, e0, (by decide : 0 + 0 ≤ _), (by decide : 0 + 0 ≤ _)⟩)
  dsimp only [Pt.U, Pt.locs, Pt.cells, Pt.slots] at X1 l1 y1 z1 st1 hQ1
  subst l1 y1 z1
  obtain ⟨rfl, N1, e1⟩ := hQ1
  refine own_by (B := T1.setTop (mkF m 4 #[.val (.ref ua), .val (.ref uk), .val (.int us), .val (.int uc)] [])) (fun _ k => st1.trans k) ?_
  have M1 := Fr.app N0 N1
  refine own_by (B := T1.setTop (mkF m 5 #[.val (.ref ua), .val (.ref uk), .val (.int us), .val (.int uc)] [(.ref ua)])) (fun _ k => XS.aloadN X1.here hx rfl (hb hby d2_4) rfl rfl  k) ?_
  refine own_by (B := T1.setTop (mkF m 6 #[.val (.ref ua), .val (.ref uk), .val (.int us), .val (.int uc)] [(.ref uk), (.ref ua)])) (fun _ k => XS.aloadN X1.here hx rfl (hb hby d2_5) rfl rfl  k) ?_
  obtain ⟨T2, h2, X2, e2, W2, st2⟩ := putF X1 hx hZ hown (host := "") (Or.inl (hw _ (List.mem_of_getElem? (i := 22) rfl))) Via.refl e1 F_kind E_ua (Or.inr ⟨(hw _ (List.mem_of_getElem? (i := 23) rfl)), rfl, hnm⟩) (hw _ (List.mem_of_getElem? (i := 2) rfl)) (ty := (.object "com/example/planwright/planwright/cache/LiteralType$Kind")) (by decide) rfl rfl (g := (mkF m 6 #[.val (.ref ua), .val (.ref uk), .val (.int us), .val (.int uc)] [(.ref uk), (.ref ua)])) rfl rfl (hb hby d2_6)
  have sz2 := W2.size
  have O2 := O0.wr W2 gn_ua
  have K2 := K0.wr W2 (Or.inl (List.mem_of_getElem? (i := 0) rfl))
  have N2 := Fr.snoc X2 M1 gn_ua
  have F2 := F_kind.same W2
  refine own_by (B := T2.setTop (mkF m 9 #[.val (.ref ua), .val (.ref uk), .val (.int us), .val (.int uc)] [])) st2 ?_
  refine own_by (B := T2.setTop (mkF m 10 #[.val (.ref ua), .val (.ref uk), .val (.int us), .val (.int uc)] [(.ref ua)])) (fun _ k => XS.aloadN X2.here hx rfl (hb hby d2_9) rfl rfl  k) ?_
  refine own_by (B := T2.setTop (mkF m 11 #[.val (.ref ua), .val (.ref uk), .val (.int us), .val (.int uc)] [(.int us), (.ref ua)])) (fun _ k => XS.iloadN X2.here hx rfl (hb hby d2_10) rfl  k) ?_
  have c4 := (E_ua.wr W2)
  have c5 := (F_size.other W2 (Or.inr (slot_ne (Or.inr (hw _ (List.mem_of_getElem? (i := 25) rfl))) (Or.inr (hw _ (List.mem_of_getElem? (i := 23) rfl))) (by decide) (t := .int) (t' := (.object "com/example/planwright/planwright/cache/LiteralType$Kind")) (by decide) (by decide))))
  obtain ⟨T3, h3, X3, e3, W3, st3⟩ := putF X2 hx hZ hown (host := "") (Or.inl (hw _ (List.mem_of_getElem? (i := 24) rfl))) Via.refl e2 c5 c4 (Or.inr ⟨(hw _ (List.mem_of_getElem? (i := 25) rfl)), rfl, hnm⟩) (hw _ (List.mem_of_getElem? (i := 2) rfl)) (ty := .int) (by decide) rfl rfl (g := (mkF m 11 #[.val (.ref ua), .val (.ref uk), .val (.int us), .val (.int uc)] [(.int us), (.ref ua)])) rfl rfl (hb hby d2_11)
  have sz3 := W3.size
  have O3 := O2.wr W3 gn_ua
  have K3 := K2.wr W3 (Or.inl (List.mem_of_getElem? (i := 0) rfl))
  have N3 := Fr.snoc X3 N2 gn_ua
  have F3 := c5.same W3
  refine own_by (B := T3.setTop (mkF m 14 #[.val (.ref ua), .val (.ref uk), .val (.int us), .val (.int uc)] [])) st3 ?_
  refine own_by (B := T3.setTop (mkF m 15 #[.val (.ref ua), .val (.ref uk), .val (.int us), .val (.int uc)] [(.ref ua)])) (fun _ k => XS.aloadN X3.here hx rfl (hb hby d2_14) rfl rfl  k) ?_
  refine own_by (B := T3.setTop (mkF m 16 #[.val (.ref ua), .val (.ref uk), .val (.int us), .val (.int uc)] [(.int uc), (.ref ua)])) (fun _ k => XS.iloadN X3.here hx rfl (hb hby d2_15) rfl  k) ?_
  have c7 := (c4.wr W3)
  have c8 := ((F_scale.other W2 (Or.inr (slot_ne (Or.inr (hw _ (List.mem_of_getElem? (i := 27) rfl))) (Or.inr (hw _ (List.mem_of_getElem? (i := 23) rfl))) (by decide) (t := .int) (t' := (.object "com/example/planwright/planwright/cache/LiteralType$Kind")) (by decide) (by decide)))).other W3 (Or.inr (slot_ne (Or.inr (hw _ (List.mem_of_getElem? (i := 27) rfl))) (Or.inr (hw _ (List.mem_of_getElem? (i := 25) rfl))) (by decide) (t := .int) (t' := .int) (by decide) (by decide))))
  obtain ⟨T6, h6, X6, e6, W6, st6⟩ := putF X3 hx hZ hown (host := "") (Or.inl (hw _ (List.mem_of_getElem? (i := 26) rfl))) Via.refl e3 c8 c7 (Or.inr ⟨(hw _ (List.mem_of_getElem? (i := 27) rfl)), rfl, hnm⟩) (hw _ (List.mem_of_getElem? (i := 2) rfl)) (ty := .int) (by decide) rfl rfl (g := (mkF m 16 #[.val (.ref ua), .val (.ref uk), .val (.int us), .val (.int uc)] [(.int uc), (.ref ua)])) rfl rfl (hb hby d2_16)
  have sz6 := W6.size
  have O6 := O3.wr W6 gn_ua
  have K6 := K3.wr W6 (Or.inl (List.mem_of_getElem? (i := 0) rfl))
  have N6 := Fr.snoc X6 N3 gn_ua
  have F6 := c8.same W6
  refine own_by (B := T6.setTop (mkF m 19 #[.val (.ref ua), .val (.ref uk), .val (.int us), .val (.int uc)] [])) st6 ?_
  have c9 := ((F2.other W3 (Or.inr (slot_ne (Or.inr (hw _ (List.mem_of_getElem? (i := 23) rfl))) (Or.inr (hw _ (List.mem_of_getElem? (i := 25) rfl))) (by decide) (t := (.object "com/example/planwright/planwright/cache/LiteralType$Kind")) (t' := .int) (by decide) (by decide)))).other W6 (Or.inr (slot_ne (Or.inr (hw _ (List.mem_of_getElem? (i := 23) rfl))) (Or.inr (hw _ (List.mem_of_getElem? (i := 27) rfl))) (by decide) (t := (.object "com/example/planwright/planwright/cache/LiteralType$Kind")) (t' := .int) (by decide) (by decide))))
  have c10 := (F3.other W6 (Or.inr (slot_ne (Or.inr (hw _ (List.mem_of_getElem? (i := 25) rfl))) (Or.inr (hw _ (List.mem_of_getElem? (i := 27) rfl))) (by decide) (t := .int) (t' := .int) (by decide) (by decide))))
  have c11 := (c7.wr W6)
  exact own_retV X6 hx hrt hlk (hb hby d2_19) (by decide) (by decide) (by show own_QLT Z ua uk us uc h0 n0 none T6.heap _; rw [e6]; exact ⟨rfl, N6, K6, c11, c9, c10, F6⟩)

def own_ord (uo : Int32) : Int32 := uo

theorem d6_0 : decode jdk_37_method_2_code 0 = .ok (.aload_n 0, 1) := by decide +kernel
theorem d6_1 : decode jdk_37_method_2_code 1 = .ok (.getfield 7, 3) := by decide +kernel
theorem d6_4 : decode jdk_37_method_2_code 4 = .ok (.ireturn, 1) := by decide +kernel
theorem pn_rmOrd : plainFor (⟨"java/lang/Enum", "ordinal", "()I"⟩ : MethodName) = true := by first | exact plainFor_of_name (by first | (simp [plainName, overriddenIn]; done) | decide +kernel) | exact Jvm.Free.JP.mathPlain rfl (by decide +kernel) | decide +kernel
theorem ef_rmOrd (m : MethodId) (x0 : Addr) : entryFrame m #[(.ref x0)] 1 = mkF m 0 #[.val (.ref x0)] [] := by first | (simp [entryFrame, mkF, argsToLocals, Value.category]; done) | rfl
set_option maxRecDepth 65536 in
set_option maxHeartbeats 40000000 in
theorem rmOrd (l : Launch) (Z : State) (a0 : Array Value) (hw : ∀ d ∈ tables_1, d.before a0 Z = true) (ws : List Jvm.Cond) (ua : Addr) (uo : Int32) (h0 : Heap) (n0 : Nat) (Z0 : n0 ≤ h0.size) (F_ordinal : Fld Z h0 ua "java/lang/Enum" "ordinal" "I" (.int uo)) :
    MetFree l (⟨"java/lang/Enum", "ordinal", "()I"⟩ : MethodName) (head1 (Jvm.Cond.code (⟨"java/lang/Enum", "ordinal", "()I"⟩ : MethodName) jdk_37_method_2_code 1 (some .int) :: ws) ({ frames := 0, cells := 0, slots := 0, locals := 0 } : Room)) (fun a U => a = #[(.ref ua)] ∧ Z.Warmed39 U.vm ∧ U.heap = h0) (fun _ _ _ _ _ => True) (fun _ U o U' => ∃ v L, o = .returned v ∧ (own_P (.int (own_ord uo)) h0 n0) v U'.heap L ∧ FrameEnd U o U' L 0 0) := by
  refine MetFree.of_bodySF pn_rmOrd hisR ?_
  intro p e s m args below meth c s₁ Bd hml0 hP hK
  obtain ⟨rfl, hZ, hh⟩ := hP
  have hx := Bd.exec
  have hby := Bd.bytes
  have hml : c.maxLocals = 1 := hml0
  have hown : s.vm.findClass "java/lang/Enum" = some m.cls := findClass_of_methodNamed Bd.named
  have hnm := (name_of_methodNamed Bd.named Bd.method).1
  have hrt := Bd.returns
  have hlk := Bd.notSynchronized
  have X0 : Stand p l e ({ frames := 0, cells := 0, slots := 0, locals := 0 } : Room) s m #[(.ref ua)] below meth c s₁ [] 0 0 := Stand.of_body Bd
  have e0 : s₁.heap = h0 := by rw [← hh, Bd.state]; rfl
  have N0 := Fr.nil n0
  refine own_done (B := s₁.setTop (mkF m 0 #[.val (.ref ua)] [])) (fun t k => castTop (ef_rmOrd m ua) k) ?_
  refine own_by (B := s₁.setTop (mkF m 1 #[.val (.ref ua)] [(.ref ua)])) (fun _ k => XS.aloadN X0.here hx rfl (hb hby d6_0) rfl rfl  k) ?_
  obtain ⟨T1, X1, e1, st1⟩ := getF X0 hx hZ hown (host := "") (Or.inl (hw _ (List.mem_of_getElem? (i := 42) rfl))) Via.refl e0 F_ordinal (g := (mkF m 1 #[.val (.ref ua)] [(.ref ua)])) rfl rfl (hb hby d6_1)
  refine own_by (B := T1.setTop (mkF m 4 #[.val (.ref ua)] [(.int uo)])) st1 ?_
  exact own_retI X1 hx hrt hlk (hb hby d6_4) (by decide) (by decide) ⟨rfl, N0, e1⟩

def own_wd (us : Int32) (uc : Int32) : Int32 := (us - uc)

theorem d7_0 : decode prog_3_method_5_code 0 = .ok (.aload_n 0, 1) := by decide +kernel
theorem d7_1 : decode prog_3_method_5_code 1 = .ok (.getfield 13, 3) := by decide +kernel
theorem d7_4 : decode prog_3_method_5_code 4 = .ok (.aload_n 0, 1) := by decide +kernel
theorem d7_5 : decode prog_3_method_5_code 5 = .ok (.getfield 17, 3) := by decide +kernel
theorem d7_8 : decode prog_3_method_5_code 8 = .ok (.isub, 1) := by decide +kernel
theorem d7_9 : decode prog_3_method_5_code 9 = .ok (.ireturn, 1) := by decide +kernel
theorem pn_rmWd : plainFor (⟨"com/example/planwright/planwright/cache/LiteralType", "wholeDigits", "()I"⟩ : MethodName) = true := by first | exact plainFor_of_name (by first | (simp [plainName, overriddenIn]; done) | decide +kernel) | exact Jvm.Free.JP.mathPlain rfl (by decide +kernel) | decide +kernel
theorem ef_rmWd (m : MethodId) (x0 : Addr) : entryFrame m #[(.ref x0)] 1 = mkF m 0 #[.val (.ref x0)] [] := by first | (simp [entryFrame, mkF, argsToLocals, Value.category]; done) | rfl
set_option maxRecDepth 65536 in
set_option maxHeartbeats 40000000 in
theorem rmWd (l : Launch) (Z : State) (a0 : Array Value) (hw : ∀ d ∈ tables_1, d.before a0 Z = true) (ws : List Jvm.Cond) (ua : Addr) (us uc : Int32) (h0 : Heap) (n0 : Nat) (Z0 : n0 ≤ h0.size) (F_size : Fld Z h0 ua "com/example/planwright/planwright/cache/LiteralType" "size" "I" (.int us)) (F_scale : Fld Z h0 ua "com/example/planwright/planwright/cache/LiteralType" "scale" "I" (.int uc)) :
    MetFree l (⟨"com/example/planwright/planwright/cache/LiteralType", "wholeDigits", "()I"⟩ : MethodName) (head1 (Jvm.Cond.code (⟨"com/example/planwright/planwright/cache/LiteralType", "wholeDigits", "()I"⟩ : MethodName) prog_3_method_5_code 1 (some .int) :: ws) ({ frames := 0, cells := 0, slots := 0, locals := 0 } : Room)) (fun a U => a = #[(.ref ua)] ∧ Z.Warmed39 U.vm ∧ U.heap = h0) (fun _ _ _ _ _ => True) (fun _ U o U' => ∃ v L, o = .returned v ∧ (own_P (.int (own_wd us uc)) h0 n0) v U'.heap L ∧ FrameEnd U o U' L 0 0) := by
  refine MetFree.of_bodySF pn_rmWd hisR ?_
  intro p e s m args below meth c s₁ Bd hml0 hP hK
  obtain ⟨rfl, hZ, hh⟩ := hP
  have hx := Bd.exec
  have hby := Bd.bytes
  have hml : c.maxLocals = 1 := hml0
  have hown : s.vm.findClass "com/example/planwright/planwright/cache/LiteralType" = some m.cls := findClass_of_methodNamed Bd.named
  have hnm := (name_of_methodNamed Bd.named Bd.method).1
  have hrt := Bd.returns
  have hlk := Bd.notSynchronized
  have X0 : Stand p l e ({ frames := 0, cells := 0, slots := 0, locals := 0 } : Room) s m #[(.ref ua)] below meth c s₁ [] 0 0 := Stand.of_body Bd
  have e0 : s₁.heap = h0 := by rw [← hh, Bd.state]; rfl
  have N0 := Fr.nil n0
  refine own_done (B := s₁.setTop (mkF m 0 #[.val (.ref ua)] [])) (fun t k => castTop (ef_rmWd m ua) k) ?_
  refine own_by (B := s₁.setTop (mkF m 1 #[.val (.ref ua)] [(.ref ua)])) (fun _ k => XS.aloadN X0.here hx rfl (hb hby d7_0) rfl rfl  k) ?_
  obtain ⟨T1, X1, e1, st1⟩ := getF X0 hx hZ hown (host := "") (Or.inl (hw _ (List.mem_of_getElem? (i := 24) rfl))) Via.refl e0 F_size (g := (mkF m 1 #[.val (.ref ua)] [(.ref ua)])) rfl rfl (hb hby d7_1)
  refine own_by (B := T1.setTop (mkF m 4 #[.val (.ref ua)] [(.int us)])) st1 ?_
  refine own_by (B := T1.setTop (mkF m 5 #[.val (.ref ua)] [(.ref ua), (.int us)])) (fun _ k => XS.aloadN X1.here hx rfl (hb hby d7_4) rfl rfl  k) ?_
  obtain ⟨T2, X2, e2, st2⟩ := getF X1 hx hZ hown (host := "") (Or.inl (hw _ (List.mem_of_getElem? (i := 26) rfl))) Via.refl e1 F_scale (g := (mkF m 5 #[.val (.ref ua)] [(.ref ua), (.int us)])) rfl rfl (hb hby d7_5)
  refine own_by (B := T2.setTop (mkF m 8 #[.val (.ref ua)] [(.int uc), (.int us)])) st2 ?_
  refine own_by (B := T2.setTop (mkF m 9 #[.val (.ref ua)] [(.int (us - uc))])) (fun _ k => XS.isub X2.here hx rfl (hb hby d7_8) rfl k) ?_
  exact own_retI X2 hx hrt hlk (hb hby d7_9) (by decide) (by decide) ⟨rfl, N0, e2⟩

def own_co  : Int32 := (0 : Int32)

theorem d9_0 : decode jdk_42_method_152_code 0 = .ok (.getstatic 38, 3) := by decide +kernel
theorem d9_3 : decode jdk_42_method_152_code 3 = .ok (.ifCond .eq 10, 3) := by decide +kernel
theorem d9_6 : decode jdk_42_method_152_code 6 = .ok (.aload_n 0, 1) := by decide +kernel
theorem d9_7 : decode jdk_42_method_152_code 7 = .ok (.getfield 15, 3) := by decide +kernel
theorem d9_10 : decode jdk_42_method_152_code 10 = .ok (.goto 4, 3) := by decide +kernel
theorem d9_14 : decode jdk_42_method_152_code 14 = .ok (.ireturn, 1) := by decide +kernel
theorem pn_rmCo : plainFor (⟨"java/lang/String", "coder", "()B"⟩ : MethodName) = true := by first | exact plainFor_of_name (by first | (simp [plainName, overriddenIn]; done) | decide +kernel) | exact Jvm.Free.JP.mathPlain rfl (by decide +kernel) | decide +kernel
theorem ef_rmCo (m : MethodId) (x0 : Addr) : entryFrame m #[(.ref x0)] 1 = mkF m 0 #[.val (.ref x0)] [] := by first | (simp [entryFrame, mkF, argsToLocals, Value.category]; done) | rfl
set_option maxRecDepth 65536 in
set_option maxHeartbeats 40000000 in
theorem rmCo (l : Launch) (Z : State) (a0 : Array Value) (hw : ∀ d ∈ tables_1, d.before a0 Z = true) (ws : List Jvm.Cond) (ua : Addr) (ucs : Int32) (h0 : Heap) (n0 : Nat) (Z0 : n0 ≤ h0.size) (S_CS : Sta Z h0 "java/lang/String" "COMPACT_STRINGS" "Z" (.int ucs)) (H_CS : ¬ ucs = (0 : Int32)) (F_coder : Fld Z h0 ua "java/lang/String" "coder" "B" (.int (0 : Int32))) :
    MetFree l (⟨"java/lang/String", "coder", "()B"⟩ : MethodName) (head1 (Jvm.Cond.code (⟨"java/lang/String", "coder", "()B"⟩ : MethodName) jdk_42_method_152_code 1 (some .byte) :: ws) ({ frames := 0, cells := 0, slots := 0, locals := 0 } : Room)) (fun a U => a = #[(.ref ua)] ∧ Z.Warmed39 U.vm ∧ U.heap = h0) (fun _ _ _ _ _ => True) (fun _ U o U' => ∃ v L, o = .returned v ∧ (own_P (.int (own_co )) h0 n0) v U'.heap L ∧ FrameEnd U o U' L 0 0) := by
  refine MetFree.of_bodySF pn_rmCo hisR ?_
  intro p e s m args below meth c s₁ Bd hml0 hP hK
  obtain ⟨rfl, hZ, hh⟩ := hP
  have hx := Bd.exec
  have hby := Bd.bytes
  have hml : c.maxLocals = 1 := hml0
  have hown : s.vm.findClass "java/lang/String" = some m.cls := findClass_of_methodNamed Bd.named
  have hnm := (name_of_methodNamed Bd.named Bd.method).1
  have hrt := Bd.returns
  have hlk := Bd.notSynchronized
  have X0 : Stand p l e ({ frames := 0, cells := 0, slots := 0, locals := 0 } : Room) s m #[(.ref ua)] below meth c s₁ [] 0 0 := Stand.of_body Bd
  have e0 : s₁.heap = h0 := by rw [← hh, Bd.state]; rfl
  have N0 := Fr.nil n0
  refine own_done (B := s₁.setTop (mkF m 0 #[.val (.ref ua)] [])) (fun t k => castTop (ef_rmCo m ua) k) ?_
  obtain ⟨T1, X1, e1, st1⟩ := getS2 X0 hx hZ hown (host := "") (Or.inl (hw _ (List.mem_of_getElem? (i := 79) rfl))) Via.refl e0 S_CS (g := (mkF m 0 #[.val (.ref ua)] [])) rfl (hb hby d9_0)
  refine own_by (B := T1.setTop (mkF m 3 #[.val (.ref ua)] [(.int ucs)])) st1 ?_
  refine own_by (B := T1.setTop (mkF m 6 #[.val (.ref ua)] [])) (fun _ k => XS.ifNo X1.here hx rfl (hb hby d9_3) rfl (XT.i0_eq_f H_CS) k) ?_
  refine own_by (B := T1.setTop (mkF m 7 #[.val (.ref ua)] [(.ref ua)])) (fun _ k => XS.aloadN X1.here hx rfl (hb hby d9_6) rfl rfl  k) ?_
  obtain ⟨T2, X2, e2, st2⟩ := getF X1 hx hZ hown (host := "") (Or.inl (hw _ (List.mem_of_getElem? (i := 80) rfl))) Via.refl e1 F_coder (g := (mkF m 7 #[.val (.ref ua)] [(.ref ua)])) rfl rfl (hb hby d9_7)
  refine own_by (B := T2.setTop (mkF m 10 #[.val (.ref ua)] [(.int (0 : Int32))])) st2 ?_
  refine own_by (B := T2.setTop (mkF m 14 #[.val (.ref ua)] [(.int (0 : Int32))])) (fun _ k => XS.goto X2.here hx rfl (pc0 := 10) (pc' := 14) rfl (hb hby d9_10) (by decide) (by decide) k) ?_
  exact own_retW X2 hx hrt hlk rfl (Or.inl ⟨rfl, by simp, _, rfl⟩) (hb hby d9_14) (by decide) (by decide) ⟨rfl, N0, e2⟩

theorem own_shr0 (z : Int32) : z >>> ((0 : Int32) &&& 31) = z := by
  have h := c_ishr z (0 : Int32) 0 (by decide)
  rw [← Int32.toInt_inj, h]; simp

theorem d8_0 : decode jdk_42_method_54_code 0 = .ok (.aload_n 0, 1) := by decide +kernel
theorem d8_1 : decode jdk_42_method_54_code 1 = .ok (.getfield 9, 3) := by decide +kernel
theorem d8_4 : decode jdk_42_method_54_code 4 = .ok (.arraylength, 1) := by decide +kernel
theorem d8_5 : decode jdk_42_method_54_code 5 = .ok (.aload_n 0, 1) := by decide +kernel
theorem d8_6 : decode jdk_42_method_54_code 6 = .ok (.invokevirtual 335, 3) := by decide +kernel
theorem d8_9 : decode jdk_42_method_54_code 9 = .ok (.ishr, 1) := by decide +kernel
theorem d8_10 : decode jdk_42_method_54_code 10 = .ok (.ireturn, 1) := by decide +kernel
theorem pd_8___B : parseMethodDescriptor "()B" = some ⟨[], some .byte⟩ := by decide +kernel
theorem pn_rmLe : plainFor (⟨"java/lang/String", "length", "()I"⟩ : MethodName) = true := by first | exact plainFor_of_name (by first | (simp [plainName, overriddenIn]; done) | decide +kernel) | exact Jvm.Free.JP.mathPlain rfl (by decide +kernel) | decide +kernel
theorem ef_rmLe (m : MethodId) (x0 : Addr) : entryFrame m #[(.ref x0)] 1 = mkF m 0 #[.val (.ref x0)] [] := by first | (simp [entryFrame, mkF, argsToLocals, Value.category]; done) | rfl
set_option maxRecDepth 65536 in
set_option maxHeartbeats 40000000 in
theorem rmLe (l : Launch) (Z : State) (a0 : Array Value) (hw : ∀ d ∈ tables_1, d.before a0 Z = true) (ws : List Jvm.Cond) (ua ub : Addr) (kb : ClassId) (uz ucs : Int32) (vs : List Value) (h0 : Heap) (n0 : Nat) (Z0 : n0 ≤ h0.size) (S_CS : Sta Z h0 "java/lang/String" "COMPACT_STRINGS" "Z" (.int ucs)) (H_CS : ¬ ucs = (0 : Int32)) (E_ua : Exa Z h0 ua "java/lang/String") (F_coder : Fld Z h0 ua "java/lang/String" "coder" "B" (.int (0 : Int32))) (F_value : Fld Z h0 ua "java/lang/String" "value" "[B" (.ref ub)) (V_b : Arv Z h0 ub kb .byte uz vs (.int 0)) :
    MetFree l (⟨"java/lang/String", "length", "()I"⟩ : MethodName) (head1 (Jvm.Cond.code (⟨"java/lang/String", "length", "()I"⟩ : MethodName) jdk_42_method_54_code 1 (some .int) :: ws) ({ frames := 1, cells := 0, slots := 0, locals := 13 } : Room)) (fun a U => a = #[(.ref ua)] ∧ Z.Warmed39 U.vm ∧ U.heap = h0) (fun _ _ _ _ _ => True) (fun _ U o U' => ∃ v L, o = .returned v ∧ (own_P (.int uz) h0 n0) v U'.heap L ∧ FrameEnd U o U' L 0 0) := by
  refine MetFree.of_bodySF pn_rmLe hisR ?_
  intro p e s m args below meth c s₁ Bd hml0 hP hK
  obtain ⟨rfl, hZ, hh⟩ := hP
  have hx := Bd.exec
  have hby := Bd.bytes
  have hml : c.maxLocals = 1 := hml0
  have hown : s.vm.findClass "java/lang/String" = some m.cls := findClass_of_methodNamed Bd.named
  have hnm := (name_of_methodNamed Bd.named Bd.method).1
  have hrt := Bd.returns
  have hlk := Bd.notSynchronized
  have X0 : Stand p l e ({ frames := 1, cells := 0, slots := 0, locals := 13 } : Room) s m #[(.ref ua)] below meth c s₁ [] 0 0 := Stand.of_body Bd
  have e0 : s₁.heap = h0 := by rw [← hh, Bd.state]; rfl
  have N0 := Fr.nil n0
  refine own_done (B := s₁.setTop (mkF m 0 #[.val (.ref ua)] [])) (fun t k => castTop (ef_rmLe m ua) k) ?_
  refine own_by (B := s₁.setTop (mkF m 1 #[.val (.ref ua)] [(.ref ua)])) (fun _ k => XS.aloadN X0.here hx rfl (hb hby d8_0) rfl rfl  k) ?_
  obtain ⟨T1, X1, e1, st1⟩ := getF X0 hx hZ hown (host := "") (Or.inl (hw _ (List.mem_of_getElem? (i := 73) rfl))) Via.refl e0 F_value (g := (mkF m 1 #[.val (.ref ua)] [(.ref ua)])) rfl rfl (hb hby d8_1)
  refine own_by (B := T1.setTop (mkF m 4 #[.val (.ref ua)] [(.ref ub)])) st1 ?_
  obtain ⟨cl2, Ar2, qq2, Sz2, Nn2, Hh2, Gg2⟩ := id (V_b)
  refine own_by (B := T1.setTop (mkF m 5 #[.val (.ref ua)] [(.int uz)])) (fun t k => X1.arraylength hx (by rw [e1]; exact Ar2.1) (State.isArrayOf_alike hZ.alike Ar2.2.1) (g := (mkF m 4 #[.val (.ref ua)] [(.ref ub)])) rfl rfl (hb hby d8_4) t (by rw [len_of Sz2 Nn2]; exact k)) ?_
  refine own_by (B := T1.setTop (mkF m 6 #[.val (.ref ua)] [(.ref ua), (.int uz)])) (fun _ k => XS.aloadN X1.here hx rfl (hb hby d8_5) rfl rfl  k) ?_
  obtain ⟨cq3, kq3, qa3, qb3, qc3⟩ := isOf hZ e1 E_ua
  obtain ⟨_, _, ⟨T3, L3, k3, n3⟩, -, X3, ⟨Lc3, hQ3, l3, y3, z3⟩, st3⟩ := X1.virtualBack hx (y := (⟨"java/lang/String", "coder", "()B"⟩ : MethodName)) (z := (⟨"java/lang/String", "coder", "()B"⟩ : MethodName)) hown (mvT hZ (hw _ (List.mem_of_getElem? (i := 74) rfl))) (mvT hZ (hw _ (List.mem_of_getElem? (i := 75) rfl))) (notFace_of_selects (args := #[]) (mvT hZ (hw _ (List.mem_of_getElem? (i := 77) rfl)))) (mvT hZ (hw _ (List.mem_of_getElem? (i := 77) rfl))) (mvT hZ (hw _ (List.mem_of_getElem? (i := 76) rfl))) (by decide) (backOf (W := 1) (rmCo l Z a0 hw [] ua ucs h0 n0 Z0 S_CS H_CS F_coder) hZ (hw _ (List.mem_of_getElem? (i := 78) rfl)) (hw _ (List.mem_of_getElem? (i := 61) rfl)) (by decide) (by decide)) qa3 qc3 (g := (mkF m 6 #[.val (.ref ua)] [(.ref ua), (.int uz)])) rfl (by rw [hml]; rfl) (Steps.refl _) (argsL := []) (rest := [(.int uz)]) (lenOf pd_8___B rfl) rfl (by show 2 * 0 + _ ≤ _; exact Nat.le_of_eq rfl) (hb hby d8_6) (fun _ _ => ⟨rfl, e1, (by decide : 0 + 0 ≤ _), (by decide : 0 + 0 ≤ _)⟩)
  dsimp only [Pt.U, Pt.locs, Pt.cells, Pt.slots] at X3 l3 y3 z3 st3 hQ3
  subst l3 y3 z3
  obtain ⟨rfl, N3, e3⟩ := hQ3
  refine own_by (B := T3.setTop (mkF m 9 #[.val (.ref ua)] [(.int own_co), (.int uz)])) (fun _ k => st3.trans k) ?_
  have M3 := Fr.app N0 N3
  rw [show own_co = (0 : Int32) from rfl]
  refine own_by (B := T3.setTop (mkF m 10 #[.val (.ref ua)] [(.int (uz >>> ((0 : Int32) &&& 31)))])) (fun _ k => XT.ishr X3.here hx rfl (hb hby d8_9) rfl k) ?_
  exact own_retI X3 hx hrt hlk (hb hby d8_10) (by decide) (by decide) ⟨by rw [own_shr0], M3, e3⟩

def own_QF (r : Int32) (h0 : Heap) (n0 : Nat) (v : Option Value) (h : Heap) (L : List Loc) : Prop := v = some (.int r) ∧ Fr n0 L ∧ Keep h0 h []
theorem own_mem61 : ("com/example/planwright/planwright/cache/LiteralType", 61) ∈ own_EL := by decide
theorem own_mem70 : ("com/example/planwright/planwright/cache/LiteralType", 70) ∈ own_EL := by decide

def own_fitINTEGER (uk : Addr) (us : Int32) (uc : Int32) (vs : Int32) (vc : Int32) (a_INTEGER : Addr) (a_BIGINT : Addr) (a_DECIMAL : Addr) (a_DOUBLE : Addr) (a_VARCHAR : Addr) : Int32 := if uk = a_INTEGER then (1 : Int32) else if uk = a_BIGINT then (1 : Int32) else if uk = a_DOUBLE then (1 : Int32) else if uk = a_DECIMAL then (if (own_wd vs vc) < (10 : Int32) then (0 : Int32) else (1 : Int32)) else (0 : Int32)

theorem d5_0 : decode prog_3_method_3_code 0 = .ok (.aload_n 0, 1) := by decide +kernel

theorem d5_1 : decode prog_3_method_3_code 1 = .ok (.getfield 7, 3) := by decide +kernel

theorem d5_4 : decode prog_3_method_3_code 4 = .ok (.invokevirtual 75, 3) := by decide +kernel

theorem d5_7 : decode prog_3_method_3_code 7 = .ok (.tableswitch 33 0 4 #[43, 103, 153, 203, 221], 33) := by decide +kernel

theorem d5_50 : decode prog_3_method_3_code 50 = .ok (.aload_n 1, 1) := by decide +kernel

theorem d5_51 : decode prog_3_method_3_code 51 = .ok (.getfield 7, 3) := by decide +kernel

theorem d5_54 : decode prog_3_method_3_code 54 = .ok (.getstatic 67, 3) := by decide +kernel

theorem d5_57 : decode prog_3_method_3_code 57 = .ok (.if_acmp .eq 45, 3) := by decide +kernel

theorem d5_60 : decode prog_3_method_3_code 60 = .ok (.aload_n 1, 1) := by decide +kernel

theorem d5_61 : decode prog_3_method_3_code 61 = .ok (.getfield 7, 3) := by decide +kernel

theorem d5_64 : decode prog_3_method_3_code 64 = .ok (.getstatic 72, 3) := by decide +kernel

theorem d5_67 : decode prog_3_method_3_code 67 = .ok (.if_acmp .eq 35, 3) := by decide +kernel

theorem d5_70 : decode prog_3_method_3_code 70 = .ok (.aload_n 1, 1) := by decide +kernel

theorem d5_71 : decode prog_3_method_3_code 71 = .ok (.getfield 7, 3) := by decide +kernel

theorem d5_74 : decode prog_3_method_3_code 74 = .ok (.getstatic 44, 3) := by decide +kernel

theorem d5_77 : decode prog_3_method_3_code 77 = .ok (.if_acmp .eq 25, 3) := by decide +kernel

theorem d5_80 : decode prog_3_method_3_code 80 = .ok (.aload_n 1, 1) := by decide +kernel

theorem d5_81 : decode prog_3_method_3_code 81 = .ok (.getfield 7, 3) := by decide +kernel

theorem d5_84 : decode prog_3_method_3_code 84 = .ok (.getstatic 50, 3) := by decide +kernel

theorem d5_87 : decode prog_3_method_3_code 87 = .ok (.if_acmp .ne 19, 3) := by decide +kernel

theorem d5_90 : decode prog_3_method_3_code 90 = .ok (.aload_n 1, 1) := by decide +kernel

theorem d5_91 : decode prog_3_method_3_code 91 = .ok (.invokevirtual 83, 3) := by decide +kernel

theorem d5_94 : decode prog_3_method_3_code 94 = .ok (.ldc 61, 2) := by decide +kernel

theorem d5_96 : decode prog_3_method_3_code 96 = .ok (.invokevirtual 47, 3) := by decide +kernel

theorem d5_99 : decode prog_3_method_3_code 99 = .ok (.if_icmp .lt 7, 3) := by decide +kernel

theorem d5_102 : decode prog_3_method_3_code 102 = .ok (.iconst 1, 1) := by decide +kernel

theorem d5_103 : decode prog_3_method_3_code 103 = .ok (.goto 151, 3) := by decide +kernel

theorem d5_106 : decode prog_3_method_3_code 106 = .ok (.iconst 0, 1) := by decide +kernel

theorem d5_107 : decode prog_3_method_3_code 107 = .ok (.goto 147, 3) := by decide +kernel

theorem d5_254 : decode prog_3_method_3_code 254 = .ok (.ireturn, 1) := by decide +kernel

theorem pd_5___I : parseMethodDescriptor "()I" = some ⟨[], some .int⟩ := by decide +kernel
theorem pn_rmFitINTEGER : plainFor (⟨"com/example/planwright/planwright/cache/LiteralType", "fits", "(Lcom/example/planwright/planwright/cache/LiteralType;)Z"⟩ : MethodName) = true := by first | exact plainFor_of_name (by first | (simp [plainName, overriddenIn]; done) | decide +kernel) | exact Jvm.Free.JP.mathPlain rfl (by decide +kernel) | decide +kernel
theorem ef_rmFitINTEGER (m : MethodId) (x0 : Addr) (x1 : Addr) : entryFrame m #[(.ref x0), (.ref x1)] 2 = mkF m 0 #[.val (.ref x0), .val (.ref x1)] [] := by first | (simp [entryFrame, mkF, argsToLocals, Value.category]; done) | rfl
set_option maxRecDepth 65536 in
set_option maxHeartbeats 40000000 in
theorem rmFitINTEGER (l : Launch) (Z : State) (a0 : Array Value) (hw : ∀ d ∈ tables_1, d.before a0 Z = true) (ws : List Jvm.Cond) (a_INTEGER a_BIGINT a_VARCHAR a_DECIMAL a_DOUBLE : Addr) (ucs : Int32) (ua ub uk : Addr) (us uc vs vc : Int32) (h0 : Heap) (n0 : Nat) (Z0 : n0 ≤ h0.size) (O0 : Old Z n0 h0) (HW : own_W Z Z.heap a_INTEGER a_BIGINT a_VARCHAR a_DECIMAL a_DOUBLE ucs) (E_ua : Exa Z h0 ua "com/example/planwright/planwright/cache/LiteralType") (F_ua_kind : Fld Z h0 ua "com/example/planwright/planwright/cache/LiteralType" "kind" "Lcom/example/planwright/planwright/cache/LiteralType$Kind;" (.ref a_INTEGER)) (F_ua_size : Fld Z h0 ua "com/example/planwright/planwright/cache/LiteralType" "size" "I" (.int us)) (F_ua_scale : Fld Z h0 ua "com/example/planwright/planwright/cache/LiteralType" "scale" "I" (.int uc)) (E_ub : Exa Z h0 ub "com/example/planwright/planwright/cache/LiteralType") (F_ub_kind : Fld Z h0 ub "com/example/planwright/planwright/cache/LiteralType" "kind" "Lcom/example/planwright/planwright/cache/LiteralType$Kind;" (.ref uk)) (F_ub_size : Fld Z h0 ub "com/example/planwright/planwright/cache/LiteralType" "size" "I" (.int vs)) (F_ub_scale : Fld Z h0 ub "com/example/planwright/planwright/cache/LiteralType" "scale" "I" (.int vc)) :
    MetFree l (⟨"com/example/planwright/planwright/cache/LiteralType", "fits", "(Lcom/example/planwright/planwright/cache/LiteralType;)Z"⟩ : MethodName) (head1 (Jvm.Cond.code (⟨"com/example/planwright/planwright/cache/LiteralType", "fits", "(Lcom/example/planwright/planwright/cache/LiteralType;)Z"⟩ : MethodName) prog_3_method_3_code 2 (some .boolean) :: ws) ({ frames := 2, cells := 2, slots := 44, locals := 26 } : Room)) (fun a U => a = #[(.ref ua), (.ref ub)] ∧ Z.Warmed39 U.vm ∧ U.heap = h0 ∧ CHv Z own_EL U.vm h0) (fun _ _ _ _ _ => True) (fun _ U o U' => ∃ v L, o = .returned v ∧ (own_QF (own_fitINTEGER uk us uc vs vc a_INTEGER a_BIGINT a_DECIMAL a_DOUBLE a_VARCHAR) h0 n0) v U'.heap L ∧ CHr Z own_EL U.vm U.heap U'.vm U'.heap ∧ ReturnedEndW U o U' L 2 44) := by
  refine MetFree.of_bodySF pn_rmFitINTEGER hisR ?_
  intro p e s m args below meth c s₁ Bd hml0 hP hK
  obtain ⟨rfl, hZ, hh, CH0⟩ := hP
  have hx := Bd.exec
  have hby := Bd.bytes
  have hml : c.maxLocals = 2 := hml0
  have hown : s.vm.findClass "com/example/planwright/planwright/cache/LiteralType" = some m.cls := findClass_of_methodNamed Bd.named
  have hnm := (name_of_methodNamed Bd.named Bd.method).1
  have hrt := Bd.returns
  have hlk := Bd.notSynchronized
  have X0 : Stand p l e ({ frames := 2, cells := 2, slots := 44, locals := 26 } : Room) s m #[(.ref ua), (.ref ub)] below meth c s₁ [] 0 0 := Stand.of_body Bd
  have e0 : s₁.heap = h0 := by rw [← hh, Bd.state]; rfl
  have N0 := Fr.nil n0
  have K0 := Keep.refl h0 []
  have hs0 : s.heap = h0 := hh
  have HW' := HW
  obtain ⟨S_INTEGER, E_INTEGER, S_BIGINT, E_BIGINT, S_VARCHAR, E_VARCHAR, S_DECIMAL, E_DECIMAL, S_DOUBLE, E_DOUBLE, F_INTEGER_ordinal, F_BIGINT_ordinal, F_VARCHAR_ordinal, F_DECIMAL_ordinal, F_DOUBLE_ordinal, S_CS, H_CS⟩ := HW'
  have own_wS : ∀ a ∈ Bundle.stringAtoms, a.before a0 Z = true := by
    intro d hd
    simp only [Bundle.stringAtoms, List.mem_cons, List.not_mem_nil, or_false] at hd
    rcases hd with rfl | rfl | rfl | rfl | rfl | rfl | rfl
    · exact (hw _ (List.mem_of_getElem? (i := 61) rfl))
    · exact (hw _ (List.mem_of_getElem? (i := 62) rfl))
    · exact (hw _ (List.mem_of_getElem? (i := 63) rfl))
    · exact (hw _ (List.mem_of_getElem? (i := 64) rfl))
    · exact (hw _ (List.mem_of_getElem? (i := 65) rfl))
    · exact (hw _ (List.mem_of_getElem? (i := 66) rfl))
    · exact (hw _ (List.mem_of_getElem? (i := 67) rfl))
  have own_hEL : EW Z a0 own_EL := EW.cons (hw _ (List.mem_of_getElem? (i := 60) rfl)) (by decide) (EW.cons (hw _ (List.mem_of_getElem? (i := 82) rfl)) (by decide) EW.nil)
  refine own_doneH (B := s₁.setTop (mkF m 0 #[.val (.ref ua), .val (.ref ub)] [])) (fun t k => castTop (ef_rmFitINTEGER m ua ub) k) ?_
  refine own_by (B := s₁.setTop (mkF m 1 #[.val (.ref ua), .val (.ref ub)] [(.ref ua)])) (fun _ k => XS.aloadN X0.here hx rfl (hb hby d5_0) rfl rfl  k) ?_
  obtain ⟨T1, X1, e1, st1⟩ := getF X0 hx hZ hown (host := "") (Or.inl (hw _ (List.mem_of_getElem? (i := 22) rfl))) Via.refl e0 F_ua_kind (g := (mkF m 1 #[.val (.ref ua), .val (.ref ub)] [(.ref ua)])) rfl rfl (hb hby d5_1)
  refine own_by (B := T1.setTop (mkF m 4 #[.val (.ref ua), .val (.ref ub)] [(.ref a_INTEGER)])) st1 ?_
  obtain ⟨cq2, kq2, qa2, qb2, qc2⟩ := isOf hZ e1 (E_INTEGER.ext O0.2)
  obtain ⟨_, _, ⟨T2, L2, k2, n2⟩, -, X2, ⟨Lc2, hQ2, l2, y2, z2⟩, st2⟩ := X1.virtualBackUp hx (owner := "java/lang/Enum") (x := (⟨"com/example/planwright/planwright/cache/LiteralType$Kind", "ordinal", "()I"⟩ : MethodName)) (y := (⟨"java/lang/Enum", "ordinal", "()I"⟩ : MethodName)) hown (mvT hZ (hw _ (List.mem_of_getElem? (i := 35) rfl))) (mvT hZ (hw _ (List.mem_of_getElem? (i := 36) rfl))) (mvT hZ (hw _ (List.mem_of_getElem? (i := 37) rfl))) (by decide) (mvT hZ (hw _ (List.mem_of_getElem? (i := 39) rfl))) (mvT hZ (hw _ (List.mem_of_getElem? (i := 38) rfl))) (backOf (W := 0) (rmOrd l Z a0 hw [] a_INTEGER (0 : Int32) h0 n0 (own_old_le O0) (F_INTEGER_ordinal.ext O0.2)) hZ (hw _ (List.mem_of_getElem? (i := 41) rfl)) (hw _ (List.mem_of_getElem? (i := 40) rfl)) (by decide) (by decide)) qa2 qc2 (g := (mkF m 4 #[.val (.ref ua), .val (.ref ub)] [(.ref a_INTEGER)])) rfl (by rw [hml]; rfl) (Steps.refl _) (argsL := []) (rest := []) (lenOf pd_5___I rfl) rfl (by show 2 * 0 + _ ≤ _; exact Nat.le_of_eq rfl) (hb hby d5_4) (fun _ _ => ⟨rfl, e1, (by decide : 0 + 0 ≤ _), (by decide : 0 + 0 ≤ _)⟩)
  dsimp only [Pt.U, Pt.locs, Pt.cells, Pt.slots] at X2 l2 y2 z2 st2 hQ2
  subst l2 y2 z2
  obtain ⟨rfl, N2, e2⟩ := hQ2
  refine own_by (B := T2.setTop (mkF m 7 #[.val (.ref ua), .val (.ref ub)] [(.int (own_ord (0 : Int32)))])) (fun _ k => st2.trans k) ?_
  have M2 := Fr.app N0 N2
  rw [show (own_ord (0 : Int32)) = (0 : Int32) from rfl]
  refine own_by (B := T2.setTop (mkF m 50 #[.val (.ref ua), .val (.ref ub)] [])) (fun _ k => XS.tswIn X2.here hx rfl (pc0 := 7) (pc' := 50) rfl (hb hby d5_7) rfl (by decide) (o := 43) rfl (by decide) (by decide) k) ?_
  refine own_by (B := T2.setTop (mkF m 51 #[.val (.ref ua), .val (.ref ub)] [(.ref ub)])) (fun _ k => XS.aloadN X2.here hx rfl (hb hby d5_50) rfl rfl  k) ?_
  obtain ⟨T3, X3, e3, st3⟩ := getF X2 hx hZ hown (host := "") (Or.inl (hw _ (List.mem_of_getElem? (i := 22) rfl))) Via.refl e2 F_ub_kind (g := (mkF m 51 #[.val (.ref ua), .val (.ref ub)] [(.ref ub)])) rfl rfl (hb hby d5_51)
  refine own_by (B := T3.setTop (mkF m 54 #[.val (.ref ua), .val (.ref ub)] [(.ref uk)])) st3 ?_
  obtain ⟨T4, X4, e4, st4⟩ := getS2 X3 hx hZ hown (host := "") (Or.inl (hw _ (List.mem_of_getElem? (i := 44) rfl))) Via.refl e3 (S_INTEGER.ext O0.2) (g := (mkF m 54 #[.val (.ref ua), .val (.ref ub)] [(.ref uk)])) rfl (hb hby d5_54)
  refine own_by (B := T4.setTop (mkF m 57 #[.val (.ref ua), .val (.ref ub)] [(.ref a_INTEGER), (.ref uk)])) st4 ?_
  by_cases hc5 : uk = a_INTEGER
  · refine own_by (B := T4.setTop (mkF m 102 #[.val (.ref ua), .val (.ref ub)] [])) (fun _ k => XT.acmpYes X4.here hx rfl (pc0 := 57) (pc' := 102) rfl (hb hby d5_57) rfl rfl rfl (XT.aa_eq_t (congrArg Value.ref hc5)) (by decide) (by decide) k) ?_
    refine own_by (B := T4.setTop (mkF m 103 #[.val (.ref ua), .val (.ref ub)] [(.int (1 : Int32))])) (fun _ k => XS.iconst X4.here hx rfl (hb hby d5_102) k) ?_
    refine own_by (B := T4.setTop (mkF m 254 #[.val (.ref ua), .val (.ref ub)] [(.int (1 : Int32))])) (fun _ k => XS.goto X4.here hx rfl (pc0 := 103) (pc' := 254) rfl (hb hby d5_103) (by decide) (by decide) k) ?_
    exact own_retZN X4 hx hrt hlk rfl (hb hby d5_254) (by decide) (by decide) (by rw [e4, hs0]; exact (CHv.at (s := s) (vm0 := s.vm) X4 hZ own_hEL CH0)) ⟨(by unfold own_fitINTEGER; rw [if_pos hc5]), M2, (by rw [e4]; exact Keep.refl _ _)⟩
  · refine own_by (B := T4.setTop (mkF m 60 #[.val (.ref ua), .val (.ref ub)] [])) (fun _ k => XT.acmpNo X4.here hx rfl (hb hby d5_57) rfl rfl rfl (XT.aa_eq_f (fun q => hc5 (Value.ref.inj q))) k) ?_
    refine own_by (B := T4.setTop (mkF m 61 #[.val (.ref ua), .val (.ref ub)] [(.ref ub)])) (fun _ k => XS.aloadN X4.here hx rfl (hb hby d5_60) rfl rfl  k) ?_
    obtain ⟨T6, X6, e6, st6⟩ := getF X4 hx hZ hown (host := "") (Or.inl (hw _ (List.mem_of_getElem? (i := 22) rfl))) Via.refl e4 F_ub_kind (g := (mkF m 61 #[.val (.ref ua), .val (.ref ub)] [(.ref ub)])) rfl rfl (hb hby d5_61)
    refine own_by (B := T6.setTop (mkF m 64 #[.val (.ref ua), .val (.ref ub)] [(.ref uk)])) st6 ?_
    obtain ⟨T7, X7, e7, st7⟩ := getS2 X6 hx hZ hown (host := "") (Or.inl (hw _ (List.mem_of_getElem? (i := 45) rfl))) Via.refl e6 (S_BIGINT.ext O0.2) (g := (mkF m 64 #[.val (.ref ua), .val (.ref ub)] [(.ref uk)])) rfl (hb hby d5_64)
    refine own_by (B := T7.setTop (mkF m 67 #[.val (.ref ua), .val (.ref ub)] [(.ref a_BIGINT), (.ref uk)])) st7 ?_
    by_cases hc8 : uk = a_BIGINT
    · refine own_by (B := T7.setTop (mkF m 102 #[.val (.ref ua), .val (.ref ub)] [])) (fun _ k => XT.acmpYes X7.here hx rfl (pc0 := 67) (pc' := 102) rfl (hb hby d5_67) rfl rfl rfl (XT.aa_eq_t (congrArg Value.ref hc8)) (by decide) (by decide) k) ?_
      refine own_by (B := T7.setTop (mkF m 103 #[.val (.ref ua), .val (.ref ub)] [(.int (1 : Int32))])) (fun _ k => XS.iconst X7.here hx rfl (hb hby d5_102) k) ?_
      refine own_by (B := T7.setTop (mkF m 254 #[.val (.ref ua), .val (.ref ub)] [(.int (1 : Int32))])) (fun _ k => XS.goto X7.here hx rfl (pc0 := 103) (pc' := 254) rfl (hb hby d5_103) (by decide) (by decide) k) ?_
      exact own_retZN X7 hx hrt hlk rfl (hb hby d5_254) (by decide) (by decide) (by rw [e7, hs0]; exact (CHv.at (s := s) (vm0 := s.vm) X7 hZ own_hEL CH0)) ⟨(by unfold own_fitINTEGER; rw [if_neg hc5, if_pos hc8]), M2, (by rw [e7]; exact Keep.refl _ _)⟩
    · refine own_by (B := T7.setTop (mkF m 70 #[.val (.ref ua), .val (.ref ub)] [])) (fun _ k => XT.acmpNo X7.here hx rfl (hb hby d5_67) rfl rfl rfl (XT.aa_eq_f (fun q => hc8 (Value.ref.inj q))) k) ?_
      refine own_by (B := T7.setTop (mkF m 71 #[.val (.ref ua), .val (.ref ub)] [(.ref ub)])) (fun _ k => XS.aloadN X7.here hx rfl (hb hby d5_70) rfl rfl  k) ?_
      obtain ⟨T9, X9, e9, st9⟩ := getF X7 hx hZ hown (host := "") (Or.inl (hw _ (List.mem_of_getElem? (i := 22) rfl))) Via.refl e7 F_ub_kind (g := (mkF m 71 #[.val (.ref ua), .val (.ref ub)] [(.ref ub)])) rfl rfl (hb hby d5_71)
      refine own_by (B := T9.setTop (mkF m 74 #[.val (.ref ua), .val (.ref ub)] [(.ref uk)])) st9 ?_
      obtain ⟨T10, X10, e10, st10⟩ := getS2 X9 hx hZ hown (host := "") (Or.inl (hw _ (List.mem_of_getElem? (i := 53) rfl))) Via.refl e9 (S_DOUBLE.ext O0.2) (g := (mkF m 74 #[.val (.ref ua), .val (.ref ub)] [(.ref uk)])) rfl (hb hby d5_74)
      refine own_by (B := T10.setTop (mkF m 77 #[.val (.ref ua), .val (.ref ub)] [(.ref a_DOUBLE), (.ref uk)])) st10 ?_
      by_cases hc11 : uk = a_DOUBLE
      · refine own_by (B := T10.setTop (mkF m 102 #[.val (.ref ua), .val (.ref ub)] [])) (fun _ k => XT.acmpYes X10.here hx rfl (pc0 := 77) (pc' := 102) rfl (hb hby d5_77) rfl rfl rfl (XT.aa_eq_t (congrArg Value.ref hc11)) (by decide) (by decide) k) ?_
        refine own_by (B := T10.setTop (mkF m 103 #[.val (.ref ua), .val (.ref ub)] [(.int (1 : Int32))])) (fun _ k => XS.iconst X10.here hx rfl (hb hby d5_102) k) ?_
        refine own_by (B := T10.setTop (mkF m 254 #[.val (.ref ua), .val (.ref ub)] [(.int (1 : Int32))])) (fun _ k => XS.goto X10.here hx rfl (pc0 := 103) (pc' := 254) rfl (hb hby d5_103) (by decide) (by decide) k) ?_
        exact own_retZN X10 hx hrt hlk rfl (hb hby d5_254) (by decide) (by decide) (by rw [e10, hs0]; exact (CHv.at (s := s) (vm0 := s.vm) X10 hZ own_hEL CH0)) ⟨(by unfold own_fitINTEGER; rw [if_neg hc5, if_neg hc8, if_pos hc11]), M2, (by rw [e10]; exact Keep.refl _ _)⟩
      · refine own_by (B := T10.setTop (mkF m 80 #[.val (.ref ua), .val (.ref ub)] [])) (fun _ k => XT.acmpNo X10.here hx rfl (hb hby d5_77) rfl rfl rfl (XT.aa_eq_f (fun q => hc11 (Value.ref.inj q))) k) ?_
        refine own_by (B := T10.setTop (mkF m 81 #[.val (.ref ua), .val (.ref ub)] [(.ref ub)])) (fun _ k => XS.aloadN X10.here hx rfl (hb hby d5_80) rfl rfl  k) ?_
        obtain ⟨T12, X12, e12, st12⟩ := getF X10 hx hZ hown (host := "") (Or.inl (hw _ (List.mem_of_getElem? (i := 22) rfl))) Via.refl e10 F_ub_kind (g := (mkF m 81 #[.val (.ref ua), .val (.ref ub)] [(.ref ub)])) rfl rfl (hb hby d5_81)
        refine own_by (B := T12.setTop (mkF m 84 #[.val (.ref ua), .val (.ref ub)] [(.ref uk)])) st12 ?_
        obtain ⟨T13, X13, e13, st13⟩ := getS2 X12 hx hZ hown (host := "") (Or.inl (hw _ (List.mem_of_getElem? (i := 55) rfl))) Via.refl e12 (S_DECIMAL.ext O0.2) (g := (mkF m 84 #[.val (.ref ua), .val (.ref ub)] [(.ref uk)])) rfl (hb hby d5_84)
        refine own_by (B := T13.setTop (mkF m 87 #[.val (.ref ua), .val (.ref ub)] [(.ref a_DECIMAL), (.ref uk)])) st13 ?_
        by_cases hc14 : uk = a_DECIMAL
        · refine own_by (B := T13.setTop (mkF m 90 #[.val (.ref ua), .val (.ref ub)] [])) (fun _ k => XT.acmpNo X13.here hx rfl (hb hby d5_87) rfl rfl rfl (XT.aa_ne_f (congrArg Value.ref hc14)) k) ?_
          refine own_by (B := T13.setTop (mkF m 91 #[.val (.ref ua), .val (.ref ub)] [(.ref ub)])) (fun _ k => XS.aloadN X13.here hx rfl (hb hby d5_90) rfl rfl  k) ?_
          obtain ⟨cq15, qa15, qc15⟩ := Exa.cell E_ub
          obtain ⟨_, _, ⟨T15, L15, k15, n15⟩, -, X15, ⟨Lc15, hQ15, l15, y15, z15⟩, st15⟩ := X13.privateBack hx (y := (⟨"com/example/planwright/planwright/cache/LiteralType", "wholeDigits", "()I"⟩ : MethodName)) hown (mvT hZ (hw _ (List.mem_of_getElem? (i := 56) rfl))) (mvT hZ (hw _ (List.mem_of_getElem? (i := 57) rfl))) (mvT hZ (own_selpriv (y := (⟨"com/example/planwright/planwright/cache/LiteralType", "wholeDigits", "()I"⟩ : MethodName)) (hw _ (List.mem_of_getElem? (i := 2) rfl)) (hw _ (List.mem_of_getElem? (i := 58) rfl)) (hw _ (List.mem_of_getElem? (i := 57) rfl)) (by decide))) (Cond.privateMethod_at (mvP hZ (hw _ (List.mem_of_getElem? (i := 58) rfl)) (args := #[]))) (mvT hZ (hw _ (List.mem_of_getElem? (i := 59) rfl))) (by decide) (backOf (W := 0) (rmWd l Z a0 hw [] ub vs vc h0 n0 (own_old_le O0) F_ub_size F_ub_scale) hZ (hw _ (List.mem_of_getElem? (i := 59) rfl)) (hw _ (List.mem_of_getElem? (i := 3) rfl)) (by decide) (by decide)) (g := (mkF m 91 #[.val (.ref ua), .val (.ref ub)] [(.ref ub)])) rfl (by rw [hml]; rfl) (Steps.refl _) (a := ub) (by rw [e13]; exact qa15) qc15 (argsL := []) (rest := []) (lenOf pd_5___I rfl) rfl (by show 2 * 0 + _ ≤ _; exact Nat.le_of_eq rfl) (hb hby d5_91) (fun _ _ => ⟨rfl, e13, (by decide : 0 + 0 ≤ _), (by decide : 0 + 0 ≤ _)⟩)
          dsimp only [Pt.U, Pt.locs, Pt.cells, Pt.slots] at X15 l15 y15 z15 st15 hQ15
          subst l15 y15 z15
          obtain ⟨rfl, N15, e15⟩ := hQ15
          refine own_by (B := T15.setTop (mkF m 94 #[.val (.ref ua), .val (.ref ub)] [(.int (own_wd vs vc))])) (fun _ k => st15.trans k) ?_
          have M15 := Fr.app M2 N15
          obtain ⟨al16, T16, h16, ks16, bl16, kl16, X16, e16, E16, hS16, hk16, hZ, hown, El16, Fc16, Fv16, Vl16, -, -, CR16, -, -, st16⟩ := ldcCH (s := s) (vm0 := s.vm) X15 hx hZ hown (text := "2147483647") (hw _ (List.mem_of_getElem? (i := 60) rfl)) own_wS e15 (k0 := 0) ((State.WarmedH.refl s).since 0) (Nat.zero_le _) own_hEL (own_mem61) (EL := own_EL) CH0 (vs := [(.int (50 : Int32)), (.int (49 : Int32)), (.int (52 : Int32)), (.int (55 : Int32)), (.int (52 : Int32)), (.int (56 : Int32)), (.int (51 : Int32)), (.int (54 : Int32)), (.int (52 : Int32)), (.int (55 : Int32))]) (z := (10 : Int32)) ⟨by decide, by decide +kernel⟩ (by decide) rfl (g := (mkF m 94 #[.val (.ref ua), .val (.ref ub)] [(.int (own_wd vs vc))])) rfl (hb hby d5_94) (n := 40) (by decide) (by decide) (by decide) (by decide)
          have hcr16 : CHr Z own_EL s.vm s.heap T16.vm h16 := by rw [hs0]; exact CR16
          have sz16 := E16.1
          have O16 := O0.ext E16
          have K16 := K0.ext E16
          refine own_by (B := T16.setTop (mkF m 96 #[.val (.ref ua), .val (.ref ub)] [(.ref al16), (.int (own_wd vs vc))])) st16 ?_
          obtain ⟨cq17, kq17, qa17, qb17, qc17⟩ := isOf hZ e16 El16
          obtain ⟨_, _, ⟨T17, L17, k17, n17⟩, -, X17, ⟨Lc17, hQ17, l17, y17, z17⟩, st17⟩ := X16.virtualBack hx (y := (⟨"java/lang/String", "length", "()I"⟩ : MethodName)) (z := (⟨"java/lang/String", "length", "()I"⟩ : MethodName)) hown (mvT hZ (hw _ (List.mem_of_getElem? (i := 68) rfl))) (mvT hZ (hw _ (List.mem_of_getElem? (i := 69) rfl))) (notFace_of_selects (args := #[]) (mvT hZ (hw _ (List.mem_of_getElem? (i := 71) rfl)))) (mvT hZ (hw _ (List.mem_of_getElem? (i := 71) rfl))) (mvT hZ (hw _ (List.mem_of_getElem? (i := 70) rfl))) (by decide) (backOf (W := 1) (rmLe l Z a0 hw [] al16 bl16 kl16 (10 : Int32) ucs _ h16 n0 (own_old_le O16) (S_CS.ext O16.2) H_CS El16 Fc16 Fv16 Vl16) hZ (hw _ (List.mem_of_getElem? (i := 72) rfl)) (hw _ (List.mem_of_getElem? (i := 61) rfl)) (by decide) (by decide)) qa17 qc17 (g := (mkF m 96 #[.val (.ref ua), .val (.ref ub)] [(.ref al16), (.int (own_wd vs vc))])) rfl (by rw [hml]; rfl) (Steps.refl _) (argsL := []) (rest := [(.int (own_wd vs vc))]) (lenOf pd_5___I rfl) rfl (by show 2 * 0 + _ ≤ _; exact Nat.le_of_eq rfl) (hb hby d5_96) (fun _ _ => ⟨rfl, e16, (by decide : 2 + 0 ≤ _), (by decide : 44 + 0 ≤ _)⟩)
          dsimp only [Pt.U, Pt.locs, Pt.cells, Pt.slots] at X17 l17 y17 z17 st17 hQ17
          subst l17 y17 z17
          obtain ⟨rfl, N17, e17⟩ := hQ17
          refine own_by (B := T17.setTop (mkF m 99 #[.val (.ref ua), .val (.ref ub)] [(.int (10 : Int32)), (.int (own_wd vs vc))])) (fun _ k => st17.trans k) ?_
          have M17 := Fr.app M15 N17
          by_cases hc18 : (own_wd vs vc) < (10 : Int32)
          · refine own_by (B := T17.setTop (mkF m 106 #[.val (.ref ua), .val (.ref ub)] [])) (fun _ k => XS.icmpYes X17.here hx rfl (pc0 := 99) (pc' := 106) rfl (hb hby d5_99) rfl (XT.ii_lt_t hc18) (by decide) (by decide) k) ?_
            refine own_by (B := T17.setTop (mkF m 107 #[.val (.ref ua), .val (.ref ub)] [(.int (0 : Int32))])) (fun _ k => XS.iconst X17.here hx rfl (hb hby d5_106) k) ?_
            refine own_by (B := T17.setTop (mkF m 254 #[.val (.ref ua), .val (.ref ub)] [(.int (0 : Int32))])) (fun _ k => XS.goto X17.here hx rfl (pc0 := 107) (pc' := 254) rfl (hb hby d5_107) (by decide) (by decide) k) ?_
            exact own_retZH (s := s) X17 hx hS16 (by rw [e17]; exact hk16) hrt hlk rfl (hb hby d5_254) (by decide) (by decide) (by rw [e17]; exact hcr16.trans (CHv.at (s := s) X17 hZ own_hEL hcr16.1)) ⟨(by unfold own_fitINTEGER; rw [if_neg hc5, if_neg hc8, if_neg hc11, if_pos hc14, if_pos hc18]), M17, (by rw [e17]; exact K16)⟩
          · refine own_by (B := T17.setTop (mkF m 102 #[.val (.ref ua), .val (.ref ub)] [])) (fun _ k => XS.icmpNo X17.here hx rfl (hb hby d5_99) rfl (XT.ii_lt_f hc18) k) ?_
            refine own_by (B := T17.setTop (mkF m 103 #[.val (.ref ua), .val (.ref ub)] [(.int (1 : Int32))])) (fun _ k => XS.iconst X17.here hx rfl (hb hby d5_102) k) ?_
            refine own_by (B := T17.setTop (mkF m 254 #[.val (.ref ua), .val (.ref ub)] [(.int (1 : Int32))])) (fun _ k => XS.goto X17.here hx rfl (pc0 := 103) (pc' := 254) rfl (hb hby d5_103) (by decide) (by decide) k) ?_
            exact own_retZH (s := s) X17 hx hS16 (by rw [e17]; exact hk16) hrt hlk rfl (hb hby d5_254) (by decide) (by decide) (by rw [e17]; exact hcr16.trans (CHv.at (s := s) X17 hZ own_hEL hcr16.1)) ⟨(by unfold own_fitINTEGER; rw [if_neg hc5, if_neg hc8, if_neg hc11, if_pos hc14, if_neg hc18]), M17, (by rw [e17]; exact K16)⟩
        · refine own_by (B := T13.setTop (mkF m 106 #[.val (.ref ua), .val (.ref ub)] [])) (fun _ k => XT.acmpYes X13.here hx rfl (pc0 := 87) (pc' := 106) rfl (hb hby d5_87) rfl rfl rfl (XT.aa_ne_t (fun q => hc14 (Value.ref.inj q))) (by decide) (by decide) k) ?_
          refine own_by (B := T13.setTop (mkF m 107 #[.val (.ref ua), .val (.ref ub)] [(.int (0 : Int32))])) (fun _ k => XS.iconst X13.here hx rfl (hb hby d5_106) k) ?_
          refine own_by (B := T13.setTop (mkF m 254 #[.val (.ref ua), .val (.ref ub)] [(.int (0 : Int32))])) (fun _ k => XS.goto X13.here hx rfl (pc0 := 107) (pc' := 254) rfl (hb hby d5_107) (by decide) (by decide) k) ?_
          exact own_retZN X13 hx hrt hlk rfl (hb hby d5_254) (by decide) (by decide) (by rw [e13, hs0]; exact (CHv.at (s := s) (vm0 := s.vm) X13 hZ own_hEL CH0)) ⟨(by unfold own_fitINTEGER; rw [if_neg hc5, if_neg hc8, if_neg hc11, if_neg hc14]), M2, (by rw [e13]; exact Keep.refl _ _)⟩

def own_fitBIGINT (uk : Addr) (us : Int32) (uc : Int32) (vs : Int32) (vc : Int32) (a_INTEGER : Addr) (a_BIGINT : Addr) (a_DECIMAL : Addr) (a_DOUBLE : Addr) (a_VARCHAR : Addr) : Int32 := if uk = a_BIGINT then (1 : Int32) else if uk = a_DOUBLE then (1 : Int32) else if uk = a_DECIMAL then (if (own_wd vs vc) < (19 : Int32) then (0 : Int32) else (1 : Int32)) else (0 : Int32)

theorem d5_110 : decode prog_3_method_3_code 110 = .ok (.aload_n 1, 1) := by decide +kernel

theorem d5_111 : decode prog_3_method_3_code 111 = .ok (.getfield 7, 3) := by decide +kernel

theorem d5_114 : decode prog_3_method_3_code 114 = .ok (.getstatic 72, 3) := by decide +kernel

theorem d5_117 : decode prog_3_method_3_code 117 = .ok (.if_acmp .eq 35, 3) := by decide +kernel

theorem d5_120 : decode prog_3_method_3_code 120 = .ok (.aload_n 1, 1) := by decide +kernel

theorem d5_121 : decode prog_3_method_3_code 121 = .ok (.getfield 7, 3) := by decide +kernel

theorem d5_124 : decode prog_3_method_3_code 124 = .ok (.getstatic 44, 3) := by decide +kernel

theorem d5_127 : decode prog_3_method_3_code 127 = .ok (.if_acmp .eq 25, 3) := by decide +kernel

theorem d5_130 : decode prog_3_method_3_code 130 = .ok (.aload_n 1, 1) := by decide +kernel

theorem d5_131 : decode prog_3_method_3_code 131 = .ok (.getfield 7, 3) := by decide +kernel

theorem d5_134 : decode prog_3_method_3_code 134 = .ok (.getstatic 50, 3) := by decide +kernel

theorem d5_137 : decode prog_3_method_3_code 137 = .ok (.if_acmp .ne 19, 3) := by decide +kernel

theorem d5_140 : decode prog_3_method_3_code 140 = .ok (.aload_n 1, 1) := by decide +kernel

theorem d5_141 : decode prog_3_method_3_code 141 = .ok (.invokevirtual 83, 3) := by decide +kernel

theorem d5_144 : decode prog_3_method_3_code 144 = .ok (.ldc 70, 2) := by decide +kernel

theorem d5_146 : decode prog_3_method_3_code 146 = .ok (.invokevirtual 47, 3) := by decide +kernel

theorem d5_149 : decode prog_3_method_3_code 149 = .ok (.if_icmp .lt 7, 3) := by decide +kernel

theorem d5_152 : decode prog_3_method_3_code 152 = .ok (.iconst 1, 1) := by decide +kernel

theorem d5_153 : decode prog_3_method_3_code 153 = .ok (.goto 101, 3) := by decide +kernel

theorem d5_156 : decode prog_3_method_3_code 156 = .ok (.iconst 0, 1) := by decide +kernel

theorem d5_157 : decode prog_3_method_3_code 157 = .ok (.goto 97, 3) := by decide +kernel

theorem pn_rmFitBIGINT : plainFor (⟨"com/example/planwright/planwright/cache/LiteralType", "fits", "(Lcom/example/planwright/planwright/cache/LiteralType;)Z"⟩ : MethodName) = true := by first | exact plainFor_of_name (by first | (simp [plainName, overriddenIn]; done) | decide +kernel) | exact Jvm.Free.JP.mathPlain rfl (by decide +kernel) | decide +kernel
theorem ef_rmFitBIGINT (m : MethodId) (x0 : Addr) (x1 : Addr) : entryFrame m #[(.ref x0), (.ref x1)] 2 = mkF m 0 #[.val (.ref x0), .val (.ref x1)] [] := by first | (simp [entryFrame, mkF, argsToLocals, Value.category]; done) | rfl
set_option maxRecDepth 65536 in
set_option maxHeartbeats 40000000 in
theorem rmFitBIGINT (l : Launch) (Z : State) (a0 : Array Value) (hw : ∀ d ∈ tables_1, d.before a0 Z = true) (ws : List Jvm.Cond) (a_INTEGER a_BIGINT a_VARCHAR a_DECIMAL a_DOUBLE : Addr) (ucs : Int32) (ua ub uk : Addr) (us uc vs vc : Int32) (h0 : Heap) (n0 : Nat) (Z0 : n0 ≤ h0.size) (O0 : Old Z n0 h0) (HW : own_W Z Z.heap a_INTEGER a_BIGINT a_VARCHAR a_DECIMAL a_DOUBLE ucs) (E_ua : Exa Z h0 ua "com/example/planwright/planwright/cache/LiteralType") (F_ua_kind : Fld Z h0 ua "com/example/planwright/planwright/cache/LiteralType" "kind" "Lcom/example/planwright/planwright/cache/LiteralType$Kind;" (.ref a_BIGINT)) (F_ua_size : Fld Z h0 ua "com/example/planwright/planwright/cache/LiteralType" "size" "I" (.int us)) (F_ua_scale : Fld Z h0 ua "com/example/planwright/planwright/cache/LiteralType" "scale" "I" (.int uc)) (E_ub : Exa Z h0 ub "com/example/planwright/planwright/cache/LiteralType") (F_ub_kind : Fld Z h0 ub "com/example/planwright/planwright/cache/LiteralType" "kind" "Lcom/example/planwright/planwright/cache/LiteralType$Kind;" (.ref uk)) (F_ub_size : Fld Z h0 ub "com/example/planwright/planwright/cache/LiteralType" "size" "I" (.int vs)) (F_ub_scale : Fld Z h0 ub "com/example/planwright/planwright/cache/LiteralType" "scale" "I" (.int vc)) :
    MetFree l (⟨"com/example/planwright/planwright/cache/LiteralType", "fits", "(Lcom/example/planwright/planwright/cache/LiteralType;)Z"⟩ : MethodName) (head1 (Jvm.Cond.code (⟨"com/example/planwright/planwright/cache/LiteralType", "fits", "(Lcom/example/planwright/planwright/cache/LiteralType;)Z"⟩ : MethodName) prog_3_method_3_code 2 (some .boolean) :: ws) ({ frames := 2, cells := 2, slots := 80, locals := 26 } : Room)) (fun a U => a = #[(.ref ua), (.ref ub)] ∧ Z.Warmed39 U.vm ∧ U.heap = h0 ∧ CHv Z own_EL U.vm h0) (fun _ _ _ _ _ => True) (fun _ U o U' => ∃ v L, o = .returned v ∧ (own_QF (own_fitBIGINT uk us uc vs vc a_INTEGER a_BIGINT a_DECIMAL a_DOUBLE a_VARCHAR) h0 n0) v U'.heap L ∧ CHr Z own_EL U.vm U.heap U'.vm U'.heap ∧ ReturnedEndW U o U' L 2 80) := by
  refine MetFree.of_bodySF pn_rmFitBIGINT hisR ?_
  intro p e s m args below meth c s₁ Bd hml0 hP hK
  obtain ⟨rfl, hZ, hh, CH0⟩ := hP
  have hx := Bd.exec
  have hby := Bd.bytes
  have hml : c.maxLocals = 2 := hml0
  have hown : s.vm.findClass "com/example/planwright/planwright/cache/LiteralType" = some m.cls := findClass_of_methodNamed Bd.named
  have hnm := (name_of_methodNamed Bd.named Bd.method).1
  have hrt := Bd.returns
  have hlk := Bd.notSynchronized
  have X0 : Stand p l e ({ frames := 2, cells := 2, slots := 80, locals := 26 } : Room) s m #[(.ref ua), (.ref ub)] below meth c s₁ [] 0 0 := Stand.of_body Bd
  have e0 : s₁.heap = h0 := by rw [← hh, Bd.state]; rfl
  have N0 := Fr.nil n0
  have K0 := Keep.refl h0 []
  have hs0 : s.heap = h0 := hh
  have HW' := HW
  obtain ⟨S_INTEGER, E_INTEGER, S_BIGINT, E_BIGINT, S_VARCHAR, E_VARCHAR, S_DECIMAL, E_DECIMAL, S_DOUBLE, E_DOUBLE, F_INTEGER_ordinal, F_BIGINT_ordinal, F_VARCHAR_ordinal, F_DECIMAL_ordinal, F_DOUBLE_ordinal, S_CS, H_CS⟩ := HW'
  have own_wS : ∀ a ∈ Bundle.stringAtoms, a.before a0 Z = true := by
    intro d hd
    simp only [Bundle.stringAtoms, List.mem_cons, List.not_mem_nil, or_false] at hd
    rcases hd with rfl | rfl | rfl | rfl | rfl | rfl | rfl
    · exact (hw _ (List.mem_of_getElem? (i := 61) rfl))
    · exact (hw _ (List.mem_of_getElem? (i := 62) rfl))
    · exact (hw _ (List.mem_of_getElem? (i := 63) rfl))
    · exact (hw _ (List.mem_of_getElem? (i := 64) rfl))
    · exact (hw _ (List.mem_of_getElem? (i := 65) rfl))
    · exact (hw _ (List.mem_of_getElem? (i := 66) rfl))
    · exact (hw _ (List.mem_of_getElem? (i := 67) rfl))
  have own_hEL : EW Z a0 own_EL := EW.cons (hw _ (List.mem_of_getElem? (i := 60) rfl)) (by decide) (EW.cons (hw _ (List.mem_of_getElem? (i := 82) rfl)) (by decide) EW.nil)
  refine own_doneH (B := s₁.setTop (mkF m 0 #[.val (.ref ua), .val (.ref ub)] [])) (fun t k => castTop (ef_rmFitBIGINT m ua ub) k) ?_
  refine own_by (B := s₁.setTop (mkF m 1 #[.val (.ref ua), .val (.ref ub)] [(.ref ua)])) (fun _ k => XS.aloadN X0.here hx rfl (hb hby d5_0) rfl rfl  k) ?_
  obtain ⟨T1, X1, e1, st1⟩ := getF X0 hx hZ hown (host := "") (Or.inl (hw _ (List.mem_of_getElem? (i := 22) rfl))) Via.refl e0 F_ua_kind (g := (mkF m 1 #[.val (.ref ua), .val (.ref ub)] [(.ref ua)])) rfl rfl (hb hby d5_1)
  refine own_by (B := T1.setTop (mkF m 4 #[.val (.ref ua), .val (.ref ub)] [(.ref a_BIGINT)])) st1 ?_
  obtain ⟨cq2, kq2, qa2, qb2, qc2⟩ := isOf hZ e1 (E_BIGINT.ext O0.2)
  obtain ⟨_, _, ⟨T2, L2, k2, n2⟩, -, X2, ⟨Lc2, hQ2, l2, y2, z2⟩, st2⟩ := X1.virtualBackUp hx (owner := "java/lang/Enum") (x := (⟨"com/example/planwright/planwright/cache/LiteralType$Kind", "ordinal", "()I"⟩ : MethodName)) (y := (⟨"java/lang/Enum", "ordinal", "()I"⟩ : MethodName)) hown (mvT hZ (hw _ (List.mem_of_getElem? (i := 35) rfl))) (mvT hZ (hw _ (List.mem_of_getElem? (i := 36) rfl))) (mvT hZ (hw _ (List.mem_of_getElem? (i := 37) rfl))) (by decide) (mvT hZ (hw _ (List.mem_of_getElem? (i := 39) rfl))) (mvT hZ (hw _ (List.mem_of_getElem? (i := 38) rfl))) (backOf (W := 0) (rmOrd l Z a0 hw [] a_BIGINT (1 : Int32) h0 n0 (own_old_le O0) (F_BIGINT_ordinal.ext O0.2)) hZ (hw _ (List.mem_of_getElem? (i := 41) rfl)) (hw _ (List.mem_of_getElem? (i := 40) rfl)) (by decide) (by decide)) qa2 qc2 (g := (mkF m 4 #[.val (.ref ua), .val (.ref ub)] [(.ref a_BIGINT)])) rfl (by rw [hml]; rfl) (Steps.refl _) (argsL := []) (rest := []) (lenOf pd_5___I rfl) rfl (by show 2 * 0 + _ ≤ _; exact Nat.le_of_eq rfl) (hb hby d5_4) (fun _ _ => ⟨rfl, e1, (by decide : 0 + 0 ≤ _), (by decide : 0 + 0 ≤ _)⟩)
  dsimp only [Pt.U, Pt.locs, Pt.cells, Pt.slots] at X2 l2 y2 z2 st2 hQ2
  subst l2 y2 z2
  obtain ⟨rfl, N2, e2⟩ := hQ2
  refine own_by (B := T2.setTop (mkF m 7 #[.val (.ref ua), .val (.ref ub)] [(.int (own_ord (1 : Int32)))])) (fun _ k => st2.trans k) ?_
  have M2 := Fr.app N0 N2
  rw [show (own_ord (1 : Int32)) = (1 : Int32) from rfl]
  refine own_by (B := T2.setTop (mkF m 110 #[.val (.ref ua), .val (.ref ub)] [])) (fun _ k => XS.tswIn X2.here hx rfl (pc0 := 7) (pc' := 110) rfl (hb hby d5_7) rfl (by decide) (o := 103) rfl (by decide) (by decide) k) ?_
  refine own_by (B := T2.setTop (mkF m 111 #[.val (.ref ua), .val (.ref ub)] [(.ref ub)])) (fun _ k => XS.aloadN X2.here hx rfl (hb hby d5_110) rfl rfl  k) ?_
  obtain ⟨T3, X3, e3, st3⟩ := getF X2 hx hZ hown (host := "") (Or.inl (hw _ (List.mem_of_getElem? (i := 22) rfl))) Via.refl e2 F_ub_kind (g := (mkF m 111 #[.val (.ref ua), .val (.ref ub)] [(.ref ub)])) rfl rfl (hb hby d5_111)
  refine own_by (B := T3.setTop (mkF m 114 #[.val (.ref ua), .val (.ref ub)] [(.ref uk)])) st3 ?_
  obtain ⟨T4, X4, e4, st4⟩ := getS2 X3 hx hZ hown (host := "") (Or.inl (hw _ (List.mem_of_getElem? (i := 45) rfl))) Via.refl e3 (S_BIGINT.ext O0.2) (g := (mkF m 114 #[.val (.ref ua), .val (.ref ub)] [(.ref uk)])) rfl (hb hby d5_114)
  refine own_by (B := T4.setTop (mkF m 117 #[.val (.ref ua), .val (.ref ub)] [(.ref a_BIGINT), (.ref uk)])) st4 ?_
  by_cases hc5 : uk = a_BIGINT
  · refine own_by (B := T4.setTop (mkF m 152 #[.val (.ref ua), .val (.ref ub)] [])) (fun _ k => XT.acmpYes X4.here hx rfl (pc0 := 117) (pc' := 152) rfl (hb hby d5_117) rfl rfl rfl (XT.aa_eq_t (congrArg Value.ref hc5)) (by decide) (by decide) k) ?_
    refine own_by (B := T4.setTop (mkF m 153 #[.val (.ref ua), .val (.ref ub)] [(.int (1 : Int32))])) (fun _ k => XS.iconst X4.here hx rfl (hb hby d5_152) k) ?_
    refine own_by (B := T4.setTop (mkF m 254 #[.val (.ref ua), .val (.ref ub)] [(.int (1 : Int32))])) (fun _ k => XS.goto X4.here hx rfl (pc0 := 153) (pc' := 254) rfl (hb hby d5_153) (by decide) (by decide) k) ?_
    exact own_retZN X4 hx hrt hlk rfl (hb hby d5_254) (by decide) (by decide) (by rw [e4, hs0]; exact (CHv.at (s := s) (vm0 := s.vm) X4 hZ own_hEL CH0)) ⟨(by unfold own_fitBIGINT; rw [if_pos hc5]), M2, (by rw [e4]; exact Keep.refl _ _)⟩
  · refine own_by (B := T4.setTop (mkF m 120 #[.val (.ref ua), .val (.ref ub)] [])) (fun _ k => XT.acmpNo X4.here hx rfl (hb hby d5_117) rfl rfl rfl (XT.aa_eq_f (fun q => hc5 (Value.ref.inj q))) k) ?_
    refine own_by (B := T4.setTop (mkF m 121 #[.val (.ref ua), .val (.ref ub)] [(.ref ub)])) (fun _ k => XS.aloadN X4.here hx rfl (hb hby d5_120) rfl rfl  k) ?_
    obtain ⟨T6, X6, e6, st6⟩ := getF X4 hx hZ hown (host := "") (Or.inl (hw _ (List.mem_of_getElem? (i := 22) rfl))) Via.refl e4 F_ub_kind (g := (mkF m 121 #[.val (.ref ua), .val (.ref ub)] [(.ref ub)])) rfl rfl (hb hby d5_121)
    refine own_by (B := T6.setTop (mkF m 124 #[.val (.ref ua), .val (.ref ub)] [(.ref uk)])) st6 ?_
    obtain ⟨T7, X7, e7, st7⟩ := getS2 X6 hx hZ hown (host := "") (Or.inl (hw _ (List.mem_of_getElem? (i := 53) rfl))) Via.refl e6 (S_DOUBLE.ext O0.2) (g := (mkF m 124 #[.val (.ref ua), .val (.ref ub)] [(.ref uk)])) rfl (hb hby d5_124)
    refine own_by (B := T7.setTop (mkF m 127 #[.val (.ref ua), .val (.ref ub)] [(.ref a_DOUBLE), (.ref uk)])) st7 ?_
    by_cases hc8 : uk = a_DOUBLE
    · refine own_by (B := T7.setTop (mkF m 152 #[.val (.ref ua), .val (.ref ub)] [])) (fun _ k => XT.acmpYes X7.here hx rfl (pc0 := 127) (pc' := 152) rfl (hb hby d5_127) rfl rfl rfl (XT.aa_eq_t (congrArg Value.ref hc8)) (by decide) (by decide) k) ?_
      refine own_by (B := T7.setTop (mkF m 153 #[.val (.ref ua), .val (.ref ub)] [(.int (1 : Int32))])) (fun _ k => XS.iconst X7.here hx rfl (hb hby d5_152) k) ?_
      refine own_by (B := T7.setTop (mkF m 254 #[.val (.ref ua), .val (.ref ub)] [(.int (1 : Int32))])) (fun _ k => XS.goto X7.here hx rfl (pc0 := 153) (pc' := 254) rfl (hb hby d5_153) (by decide) (by decide) k) ?_
      exact own_retZN X7 hx hrt hlk rfl (hb hby d5_254) (by decide) (by decide) (by rw [e7, hs0]; exact (CHv.at (s := s) (vm0 := s.vm) X7 hZ own_hEL CH0)) ⟨(by unfold own_fitBIGINT; rw [if_neg hc5, if_pos hc8]), M2, (by rw [e7]; exact Keep.refl _ _)⟩
    · refine own_by (B := T7.setTop (mkF m 130 #[.val (.ref ua), .val (.ref ub)] [])) (fun _ k => XT.acmpNo X7.here hx rfl (hb hby d5_127) rfl rfl rfl (XT.aa_eq_f (fun q => hc8 (Value.ref.inj q))) k) ?_
      refine own_by (B := T7.setTop (mkF m 131 #[.val (.ref ua), .val (.ref ub)] [(.ref ub)])) (fun _ k => XS.aloadN X7.here hx rfl (hb hby d5_130) rfl rfl  k) ?_
      obtain ⟨T9, X9, e9, st9⟩ := getF X7 hx hZ hown (host := "") (Or.inl (hw _ (List.mem_of_getElem? (i := 22) rfl))) Via.refl e7 F_ub_kind (g := (mkF m 131 #[.val (.ref ua), .val (.ref ub)] [(.ref ub)])) rfl rfl (hb hby d5_131)
      refine own_by (B := T9.setTop (mkF m 134 #[.val (.ref ua), .val (.ref ub)] [(.ref uk)])) st9 ?_
      obtain ⟨T10, X10, e10, st10⟩ := getS2 X9 hx hZ hown (host := "") (Or.inl (hw _ (List.mem_of_getElem? (i := 55) rfl))) Via.refl e9 (S_DECIMAL.ext O0.2) (g := (mkF m 134 #[.val (.ref ua), .val (.ref ub)] [(.ref uk)])) rfl (hb hby d5_134)
      refine own_by (B := T10.setTop (mkF m 137 #[.val (.ref ua), .val (.ref ub)] [(.ref a_DECIMAL), (.ref uk)])) st10 ?_
      by_cases hc11 : uk = a_DECIMAL
      · refine own_by (B := T10.setTop (mkF m 140 #[.val (.ref ua), .val (.ref ub)] [])) (fun _ k => XT.acmpNo X10.here hx rfl (hb hby d5_137) rfl rfl rfl (XT.aa_ne_f (congrArg Value.ref hc11)) k) ?_
        refine own_by (B := T10.setTop (mkF m 141 #[.val (.ref ua), .val (.ref ub)] [(.ref ub)])) (fun _ k => XS.aloadN X10.here hx rfl (hb hby d5_140) rfl rfl  k) ?_
        obtain ⟨cq12, qa12, qc12⟩ := Exa.cell E_ub
        obtain ⟨_, _, ⟨T12, L12, k12, n12⟩, -, X12, ⟨Lc12, hQ12, l12, y12, z12⟩, st12⟩ := X10.privateBack hx (y := (⟨"com/example/planwright/planwright/cache/LiteralType", "wholeDigits", "()I"⟩ : MethodName)) hown (mvT hZ (hw _ (List.mem_of_getElem? (i := 56) rfl))) (mvT hZ (hw _ (List.mem_of_getElem? (i := 57) rfl))) (mvT hZ (own_selpriv (y := (⟨"com/example/planwright/planwright/cache/LiteralType", "wholeDigits", "()I"⟩ : MethodName)) (hw _ (List.mem_of_getElem? (i := 2) rfl)) (hw _ (List.mem_of_getElem? (i := 58) rfl)) (hw _ (List.mem_of_getElem? (i := 57) rfl)) (by decide))) (Cond.privateMethod_at (mvP hZ (hw _ (List.mem_of_getElem? (i := 58) rfl)) (args := #[]))) (mvT hZ (hw _ (List.mem_of_getElem? (i := 59) rfl))) (by decide) (backOf (W := 0) (rmWd l Z a0 hw [] ub vs vc h0 n0 (own_old_le O0) F_ub_size F_ub_scale) hZ (hw _ (List.mem_of_getElem? (i := 59) rfl)) (hw _ (List.mem_of_getElem? (i := 3) rfl)) (by decide) (by decide)) (g := (mkF m 141 #[.val (.ref ua), .val (.ref ub)] [(.ref ub)])) rfl (by rw [hml]; rfl) (Steps.refl _) (a := ub) (by rw [e10]; exact qa12) qc12 (argsL := []) (rest := []) (lenOf pd_5___I rfl) rfl (by show 2 * 0 + _ ≤ _; exact Nat.le_of_eq rfl) (hb hby d5_141) (fun _ _ => ⟨rfl, e10, (by decide : 0 + 0 ≤ _), (by decide : 0 + 0 ≤ _)⟩)
        dsimp only [Pt.U, Pt.locs, Pt.cells, Pt.slots] at X12 l12 y12 z12 st12 hQ12
        subst l12 y12 z12
        obtain ⟨rfl, N12, e12⟩ := hQ12
        refine own_by (B := T12.setTop (mkF m 144 #[.val (.ref ua), .val (.ref ub)] [(.int (own_wd vs vc))])) (fun _ k => st12.trans k) ?_
        have M12 := Fr.app M2 N12
        obtain ⟨al13, T13, h13, ks13, bl13, kl13, X13, e13, E13, hS13, hk13, hZ, hown, El13, Fc13, Fv13, Vl13, -, -, CR13, -, -, st13⟩ := ldcCH (s := s) (vm0 := s.vm) X12 hx hZ hown (text := "9223372036854775807") (hw _ (List.mem_of_getElem? (i := 82) rfl)) own_wS e12 (k0 := 0) ((State.WarmedH.refl s).since 0) (Nat.zero_le _) own_hEL (own_mem70) (EL := own_EL) CH0 (vs := [(.int (57 : Int32)), (.int (50 : Int32)), (.int (50 : Int32)), (.int (51 : Int32)), (.int (51 : Int32)), (.int (55 : Int32)), (.int (50 : Int32)), (.int (48 : Int32)), (.int (51 : Int32)), (.int (54 : Int32)), (.int (56 : Int32)), (.int (53 : Int32)), (.int (52 : Int32)), (.int (55 : Int32)), (.int (55 : Int32)), (.int (53 : Int32)), (.int (56 : Int32)), (.int (48 : Int32)), (.int (55 : Int32))]) (z := (19 : Int32)) ⟨by decide, by decide +kernel⟩ (by decide) rfl (g := (mkF m 144 #[.val (.ref ua), .val (.ref ub)] [(.int (own_wd vs vc))])) rfl (hb hby d5_144) (n := 76) (by decide) (by decide) (by decide) (by decide)
        have hcr13 : CHr Z own_EL s.vm s.heap T13.vm h13 := by rw [hs0]; exact CR13
        have sz13 := E13.1
        have O13 := O0.ext E13
        have K13 := K0.ext E13
        refine own_by (B := T13.setTop (mkF m 146 #[.val (.ref ua), .val (.ref ub)] [(.ref al13), (.int (own_wd vs vc))])) st13 ?_
        obtain ⟨cq14, kq14, qa14, qb14, qc14⟩ := isOf hZ e13 El13
        obtain ⟨_, _, ⟨T14, L14, k14, n14⟩, -, X14, ⟨Lc14, hQ14, l14, y14, z14⟩, st14⟩ := X13.virtualBack hx (y := (⟨"java/lang/String", "length", "()I"⟩ : MethodName)) (z := (⟨"java/lang/String", "length", "()I"⟩ : MethodName)) hown (mvT hZ (hw _ (List.mem_of_getElem? (i := 68) rfl))) (mvT hZ (hw _ (List.mem_of_getElem? (i := 69) rfl))) (notFace_of_selects (args := #[]) (mvT hZ (hw _ (List.mem_of_getElem? (i := 71) rfl)))) (mvT hZ (hw _ (List.mem_of_getElem? (i := 71) rfl))) (mvT hZ (hw _ (List.mem_of_getElem? (i := 70) rfl))) (by decide) (backOf (W := 1) (rmLe l Z a0 hw [] al13 bl13 kl13 (19 : Int32) ucs _ h13 n0 (own_old_le O13) (S_CS.ext O13.2) H_CS El13 Fc13 Fv13 Vl13) hZ (hw _ (List.mem_of_getElem? (i := 72) rfl)) (hw _ (List.mem_of_getElem? (i := 61) rfl)) (by decide) (by decide)) qa14 qc14 (g := (mkF m 146 #[.val (.ref ua), .val (.ref ub)] [(.ref al13), (.int (own_wd vs vc))])) rfl (by rw [hml]; rfl) (Steps.refl _) (argsL := []) (rest := [(.int (own_wd vs vc))]) (lenOf pd_5___I rfl) rfl (by show 2 * 0 + _ ≤ _; exact Nat.le_of_eq rfl) (hb hby d5_146) (fun _ _ => ⟨rfl, e13, (by decide : 2 + 0 ≤ _), (by decide : 80 + 0 ≤ _)⟩)
        dsimp only [Pt.U, Pt.locs, Pt.cells, Pt.slots] at X14 l14 y14 z14 st14 hQ14
        subst l14 y14 z14
        obtain ⟨rfl, N14, e14⟩ := hQ14
        refine own_by (B := T14.setTop (mkF m 149 #[.val (.ref ua), .val (.ref ub)] [(.int (19 : Int32)), (.int (own_wd vs vc))])) (fun _ k => st14.trans k) ?_
        have M14 := Fr.app M12 N14
        by_cases hc15 : (own_wd vs vc) < (19 : Int32)
        · refine own_by (B := T14.setTop (mkF m 156 #[.val (.ref ua), .val (.ref ub)] [])) (fun _ k => XS.icmpYes X14.here hx rfl (pc0 := 149) (pc' := 156) rfl (hb hby d5_149) rfl (XT.ii_lt_t hc15) (by decide) (by decide) k) ?_
          refine own_by (B := T14.setTop (mkF m 157 #[.val (.ref ua), .val (.ref ub)] [(.int (0 : Int32))])) (fun _ k => XS.iconst X14.here hx rfl (hb hby d5_156) k) ?_
          refine own_by (B := T14.setTop (mkF m 254 #[.val (.ref ua), .val (.ref ub)] [(.int (0 : Int32))])) (fun _ k => XS.goto X14.here hx rfl (pc0 := 157) (pc' := 254) rfl (hb hby d5_157) (by decide) (by decide) k) ?_
          exact own_retZH (s := s) X14 hx hS13 (by rw [e14]; exact hk13) hrt hlk rfl (hb hby d5_254) (by decide) (by decide) (by rw [e14]; exact hcr13.trans (CHv.at (s := s) X14 hZ own_hEL hcr13.1)) ⟨(by unfold own_fitBIGINT; rw [if_neg hc5, if_neg hc8, if_pos hc11, if_pos hc15]), M14, (by rw [e14]; exact K13)⟩
        · refine own_by (B := T14.setTop (mkF m 152 #[.val (.ref ua), .val (.ref ub)] [])) (fun _ k => XS.icmpNo X14.here hx rfl (hb hby d5_149) rfl (XT.ii_lt_f hc15) k) ?_
          refine own_by (B := T14.setTop (mkF m 153 #[.val (.ref ua), .val (.ref ub)] [(.int (1 : Int32))])) (fun _ k => XS.iconst X14.here hx rfl (hb hby d5_152) k) ?_
          refine own_by (B := T14.setTop (mkF m 254 #[.val (.ref ua), .val (.ref ub)] [(.int (1 : Int32))])) (fun _ k => XS.goto X14.here hx rfl (pc0 := 153) (pc' := 254) rfl (hb hby d5_153) (by decide) (by decide) k) ?_
          exact own_retZH (s := s) X14 hx hS13 (by rw [e14]; exact hk13) hrt hlk rfl (hb hby d5_254) (by decide) (by decide) (by rw [e14]; exact hcr13.trans (CHv.at (s := s) X14 hZ own_hEL hcr13.1)) ⟨(by unfold own_fitBIGINT; rw [if_neg hc5, if_neg hc8, if_pos hc11, if_neg hc15]), M14, (by rw [e14]; exact K13)⟩
      · refine own_by (B := T10.setTop (mkF m 156 #[.val (.ref ua), .val (.ref ub)] [])) (fun _ k => XT.acmpYes X10.here hx rfl (pc0 := 137) (pc' := 156) rfl (hb hby d5_137) rfl rfl rfl (XT.aa_ne_t (fun q => hc11 (Value.ref.inj q))) (by decide) (by decide) k) ?_
        refine own_by (B := T10.setTop (mkF m 157 #[.val (.ref ua), .val (.ref ub)] [(.int (0 : Int32))])) (fun _ k => XS.iconst X10.here hx rfl (hb hby d5_156) k) ?_
        refine own_by (B := T10.setTop (mkF m 254 #[.val (.ref ua), .val (.ref ub)] [(.int (0 : Int32))])) (fun _ k => XS.goto X10.here hx rfl (pc0 := 157) (pc' := 254) rfl (hb hby d5_157) (by decide) (by decide) k) ?_
        exact own_retZN X10 hx hrt hlk rfl (hb hby d5_254) (by decide) (by decide) (by rw [e10, hs0]; exact (CHv.at (s := s) (vm0 := s.vm) X10 hZ own_hEL CH0)) ⟨(by unfold own_fitBIGINT; rw [if_neg hc5, if_neg hc8, if_neg hc11]), M2, (by rw [e10]; exact Keep.refl _ _)⟩

def own_fitDECIMAL (uk : Addr) (us : Int32) (uc : Int32) (vs : Int32) (vc : Int32) (a_INTEGER : Addr) (a_BIGINT : Addr) (a_DECIMAL : Addr) (a_DOUBLE : Addr) (a_VARCHAR : Addr) : Int32 := if uk = a_DOUBLE then (1 : Int32) else if uk = a_DECIMAL then (if vc < uc then (0 : Int32) else if (own_wd vs vc) < (own_wd us uc) then (0 : Int32) else (1 : Int32)) else (0 : Int32)

theorem d5_160 : decode prog_3_method_3_code 160 = .ok (.aload_n 1, 1) := by decide +kernel

theorem d5_161 : decode prog_3_method_3_code 161 = .ok (.getfield 7, 3) := by decide +kernel

theorem d5_164 : decode prog_3_method_3_code 164 = .ok (.getstatic 44, 3) := by decide +kernel

theorem d5_167 : decode prog_3_method_3_code 167 = .ok (.if_acmp .eq 35, 3) := by decide +kernel

theorem d5_170 : decode prog_3_method_3_code 170 = .ok (.aload_n 1, 1) := by decide +kernel

theorem d5_171 : decode prog_3_method_3_code 171 = .ok (.getfield 7, 3) := by decide +kernel

theorem d5_174 : decode prog_3_method_3_code 174 = .ok (.getstatic 50, 3) := by decide +kernel

theorem d5_177 : decode prog_3_method_3_code 177 = .ok (.if_acmp .ne 29, 3) := by decide +kernel

theorem d5_180 : decode prog_3_method_3_code 180 = .ok (.aload_n 0, 1) := by decide +kernel

theorem d5_181 : decode prog_3_method_3_code 181 = .ok (.getfield 17, 3) := by decide +kernel

theorem d5_184 : decode prog_3_method_3_code 184 = .ok (.aload_n 1, 1) := by decide +kernel

theorem d5_185 : decode prog_3_method_3_code 185 = .ok (.getfield 17, 3) := by decide +kernel

theorem d5_188 : decode prog_3_method_3_code 188 = .ok (.if_icmp .gt 18, 3) := by decide +kernel

theorem d5_191 : decode prog_3_method_3_code 191 = .ok (.aload_n 0, 1) := by decide +kernel

theorem d5_192 : decode prog_3_method_3_code 192 = .ok (.invokevirtual 83, 3) := by decide +kernel

theorem d5_195 : decode prog_3_method_3_code 195 = .ok (.aload_n 1, 1) := by decide +kernel

theorem d5_196 : decode prog_3_method_3_code 196 = .ok (.invokevirtual 83, 3) := by decide +kernel

theorem d5_199 : decode prog_3_method_3_code 199 = .ok (.if_icmp .gt 7, 3) := by decide +kernel

theorem d5_202 : decode prog_3_method_3_code 202 = .ok (.iconst 1, 1) := by decide +kernel

theorem d5_203 : decode prog_3_method_3_code 203 = .ok (.goto 51, 3) := by decide +kernel

theorem d5_206 : decode prog_3_method_3_code 206 = .ok (.iconst 0, 1) := by decide +kernel

theorem d5_207 : decode prog_3_method_3_code 207 = .ok (.goto 47, 3) := by decide +kernel

theorem pn_rmFitDECIMAL : plainFor (⟨"com/example/planwright/planwright/cache/LiteralType", "fits", "(Lcom/example/planwright/planwright/cache/LiteralType;)Z"⟩ : MethodName) = true := by first | exact plainFor_of_name (by first | (simp [plainName, overriddenIn]; done) | decide +kernel) | exact Jvm.Free.JP.mathPlain rfl (by decide +kernel) | decide +kernel
theorem ef_rmFitDECIMAL (m : MethodId) (x0 : Addr) (x1 : Addr) : entryFrame m #[(.ref x0), (.ref x1)] 2 = mkF m 0 #[.val (.ref x0), .val (.ref x1)] [] := by first | (simp [entryFrame, mkF, argsToLocals, Value.category]; done) | rfl
set_option maxRecDepth 65536 in
set_option maxHeartbeats 40000000 in
theorem rmFitDECIMAL (l : Launch) (Z : State) (a0 : Array Value) (hw : ∀ d ∈ tables_1, d.before a0 Z = true) (ws : List Jvm.Cond) (a_INTEGER a_BIGINT a_VARCHAR a_DECIMAL a_DOUBLE : Addr) (ucs : Int32) (ua ub uk : Addr) (us uc vs vc : Int32) (h0 : Heap) (n0 : Nat) (Z0 : n0 ≤ h0.size) (O0 : Old Z n0 h0) (HW : own_W Z Z.heap a_INTEGER a_BIGINT a_VARCHAR a_DECIMAL a_DOUBLE ucs) (E_ua : Exa Z h0 ua "com/example/planwright/planwright/cache/LiteralType") (F_ua_kind : Fld Z h0 ua "com/example/planwright/planwright/cache/LiteralType" "kind" "Lcom/example/planwright/planwright/cache/LiteralType$Kind;" (.ref a_DECIMAL)) (F_ua_size : Fld Z h0 ua "com/example/planwright/planwright/cache/LiteralType" "size" "I" (.int us)) (F_ua_scale : Fld Z h0 ua "com/example/planwright/planwright/cache/LiteralType" "scale" "I" (.int uc)) (E_ub : Exa Z h0 ub "com/example/planwright/planwright/cache/LiteralType") (F_ub_kind : Fld Z h0 ub "com/example/planwright/planwright/cache/LiteralType" "kind" "Lcom/example/planwright/planwright/cache/LiteralType$Kind;" (.ref uk)) (F_ub_size : Fld Z h0 ub "com/example/planwright/planwright/cache/LiteralType" "size" "I" (.int vs)) (F_ub_scale : Fld Z h0 ub "com/example/planwright/planwright/cache/LiteralType" "scale" "I" (.int vc)) :
    MetFree l (⟨"com/example/planwright/planwright/cache/LiteralType", "fits", "(Lcom/example/planwright/planwright/cache/LiteralType;)Z"⟩ : MethodName) (head1 (Jvm.Cond.code (⟨"com/example/planwright/planwright/cache/LiteralType", "fits", "(Lcom/example/planwright/planwright/cache/LiteralType;)Z"⟩ : MethodName) prog_3_method_3_code 2 (some .boolean) :: ws) ({ frames := 1, cells := 0, slots := 0, locals := 13 } : Room)) (fun a U => a = #[(.ref ua), (.ref ub)] ∧ Z.Warmed39 U.vm ∧ U.heap = h0 ∧ CHv Z own_EL U.vm h0) (fun _ _ _ _ _ => True) (fun _ U o U' => ∃ v L, o = .returned v ∧ (own_QF (own_fitDECIMAL uk us uc vs vc a_INTEGER a_BIGINT a_DECIMAL a_DOUBLE a_VARCHAR) h0 n0) v U'.heap L ∧ CHr Z own_EL U.vm U.heap U'.vm U'.heap ∧ ReturnedEndW U o U' L 0 0) := by
  refine MetFree.of_bodySF pn_rmFitDECIMAL hisR ?_
  intro p e s m args below meth c s₁ Bd hml0 hP hK
  obtain ⟨rfl, hZ, hh, CH0⟩ := hP
  have hx := Bd.exec
  have hby := Bd.bytes
  have hml : c.maxLocals = 2 := hml0
  have hown : s.vm.findClass "com/example/planwright/planwright/cache/LiteralType" = some m.cls := findClass_of_methodNamed Bd.named
  have hnm := (name_of_methodNamed Bd.named Bd.method).1
  have hrt := Bd.returns
  have hlk := Bd.notSynchronized
  have X0 : Stand p l e ({ frames := 1, cells := 0, slots := 0, locals := 13 } : Room) s m #[(.ref ua), (.ref ub)] below meth c s₁ [] 0 0 := Stand.of_body Bd
  have e0 : s₁.heap = h0 := by rw [← hh, Bd.state]; rfl
  have N0 := Fr.nil n0
  have K0 := Keep.refl h0 []
  have hs0 : s.heap = h0 := hh
  have HW' := HW
  obtain ⟨S_INTEGER, E_INTEGER, S_BIGINT, E_BIGINT, S_VARCHAR, E_VARCHAR, S_DECIMAL, E_DECIMAL, S_DOUBLE, E_DOUBLE, F_INTEGER_ordinal, F_BIGINT_ordinal, F_VARCHAR_ordinal, F_DECIMAL_ordinal, F_DOUBLE_ordinal, S_CS, H_CS⟩ := HW'
  have own_wS : ∀ a ∈ Bundle.stringAtoms, a.before a0 Z = true := by
    intro d hd
    simp only [Bundle.stringAtoms, List.mem_cons, List.not_mem_nil, or_false] at hd
    rcases hd with rfl | rfl | rfl | rfl | rfl | rfl | rfl
    · exact (hw _ (List.mem_of_getElem? (i := 61) rfl))
    · exact (hw _ (List.mem_of_getElem? (i := 62) rfl))
    · exact (hw _ (List.mem_of_getElem? (i := 63) rfl))
    · exact (hw _ (List.mem_of_getElem? (i := 64) rfl))
    · exact (hw _ (List.mem_of_getElem? (i := 65) rfl))
    · exact (hw _ (List.mem_of_getElem? (i := 66) rfl))
    · exact (hw _ (List.mem_of_getElem? (i := 67) rfl))
  have own_hEL : EW Z a0 own_EL := EW.cons (hw _ (List.mem_of_getElem? (i := 60) rfl)) (by decide) (EW.cons (hw _ (List.mem_of_getElem? (i := 82) rfl)) (by decide) EW.nil)
  refine own_doneH (B := s₁.setTop (mkF m 0 #[.val (.ref ua), .val (.ref ub)] [])) (fun t k => castTop (ef_rmFitDECIMAL m ua ub) k) ?_
  refine own_by (B := s₁.setTop (mkF m 1 #[.val (.ref ua), .val (.ref ub)] [(.ref ua)])) (fun _ k => XS.aloadN X0.here hx rfl (hb hby d5_0) rfl rfl  k) ?_
  obtain ⟨T1, X1, e1, st1⟩ := getF X0 hx hZ hown (host := "") (Or.inl (hw _ (List.mem_of_getElem? (i := 22) rfl))) Via.refl e0 F_ua_kind (g := (mkF m 1 #[.val (.ref ua), .val (.ref ub)] [(.ref ua)])) rfl rfl (hb hby d5_1)
  refine own_by (B := T1.setTop (mkF m 4 #[.val (.ref ua), .val (.ref ub)] [(.ref a_DECIMAL)])) st1 ?_
  obtain ⟨cq2, kq2, qa2, qb2, qc2⟩ := isOf hZ e1 (E_DECIMAL.ext O0.2)
  obtain ⟨_, _, ⟨T2, L2, k2, n2⟩, -, X2, ⟨Lc2, hQ2, l2, y2, z2⟩, st2⟩ := X1.virtualBackUp hx (owner := "java/lang/Enum") (x := (⟨"com/example/planwright/planwright/cache/LiteralType$Kind", "ordinal", "()I"⟩ : MethodName)) (y := (⟨"java/lang/Enum", "ordinal", "()I"⟩ : MethodName)) hown (mvT hZ (hw _ (List.mem_of_getElem? (i := 35) rfl))) (mvT hZ (hw _ (List.mem_of_getElem? (i := 36) rfl))) (mvT hZ (hw _ (List.mem_of_getElem? (i := 37) rfl))) (by decide) (mvT hZ (hw _ (List.mem_of_getElem? (i := 39) rfl))) (mvT hZ (hw _ (List.mem_of_getElem? (i := 38) rfl))) (backOf (W := 0) (rmOrd l Z a0 hw [] a_DECIMAL (2 : Int32) h0 n0 (own_old_le O0) (F_DECIMAL_ordinal.ext O0.2)) hZ (hw _ (List.mem_of_getElem? (i := 41) rfl)) (hw _ (List.mem_of_getElem? (i := 40) rfl)) (by decide) (by decide)) qa2 qc2 (g := (mkF m 4 #[.val (.ref ua), .val (.ref ub)] [(.ref a_DECIMAL)])) rfl (by rw [hml]; rfl) (Steps.refl _) (argsL := []) (rest := []) (lenOf pd_5___I rfl) rfl (by show 2 * 0 + _ ≤ _; exact Nat.le_of_eq rfl) (hb hby d5_4) (fun _ _ => ⟨rfl, e1, (by decide : 0 + 0 ≤ _), (by decide : 0 + 0 ≤ _)⟩)
  dsimp only [Pt.U, Pt.locs, Pt.cells, Pt.slots] at X2 l2 y2 z2 st2 hQ2
  subst l2 y2 z2
  obtain ⟨rfl, N2, e2⟩ := hQ2
  refine own_by (B := T2.setTop (mkF m 7 #[.val (.ref ua), .val (.ref ub)] [(.int (own_ord (2 : Int32)))])) (fun _ k => st2.trans k) ?_
  have M2 := Fr.app N0 N2
  rw [show (own_ord (2 : Int32)) = (2 : Int32) from rfl]
  refine own_by (B := T2.setTop (mkF m 160 #[.val (.ref ua), .val (.ref ub)] [])) (fun _ k => XS.tswIn X2.here hx rfl (pc0 := 7) (pc' := 160) rfl (hb hby d5_7) rfl (by decide) (o := 153) rfl (by decide) (by decide) k) ?_
  refine own_by (B := T2.setTop (mkF m 161 #[.val (.ref ua), .val (.ref ub)] [(.ref ub)])) (fun _ k => XS.aloadN X2.here hx rfl (hb hby d5_160) rfl rfl  k) ?_
  obtain ⟨T3, X3, e3, st3⟩ := getF X2 hx hZ hown (host := "") (Or.inl (hw _ (List.mem_of_getElem? (i := 22) rfl))) Via.refl e2 F_ub_kind (g := (mkF m 161 #[.val (.ref ua), .val (.ref ub)] [(.ref ub)])) rfl rfl (hb hby d5_161)
  refine own_by (B := T3.setTop (mkF m 164 #[.val (.ref ua), .val (.ref ub)] [(.ref uk)])) st3 ?_
  obtain ⟨T4, X4, e4, st4⟩ := getS2 X3 hx hZ hown (host := "") (Or.inl (hw _ (List.mem_of_getElem? (i := 53) rfl))) Via.refl e3 (S_DOUBLE.ext O0.2) (g := (mkF m 164 #[.val (.ref ua), .val (.ref ub)] [(.ref uk)])) rfl (hb hby d5_164)
  refine own_by (B := T4.setTop (mkF m 167 #[.val (.ref ua), .val (.ref ub)] [(.ref a_DOUBLE), (.ref uk)])) st4 ?_
  by_cases hc5 : uk = a_DOUBLE
  · refine own_by (B := T4.setTop (mkF m 202 #[.val (.ref ua), .val (.ref ub)] [])) (fun _ k => XT.acmpYes X4.here hx rfl (pc0 := 167) (pc' := 202) rfl (hb hby d5_167) rfl rfl rfl (XT.aa_eq_t (congrArg Value.ref hc5)) (by decide) (by decide) k) ?_
    refine own_by (B := T4.setTop (mkF m 203 #[.val (.ref ua), .val (.ref ub)] [(.int (1 : Int32))])) (fun _ k => XS.iconst X4.here hx rfl (hb hby d5_202) k) ?_
    refine own_by (B := T4.setTop (mkF m 254 #[.val (.ref ua), .val (.ref ub)] [(.int (1 : Int32))])) (fun _ k => XS.goto X4.here hx rfl (pc0 := 203) (pc' := 254) rfl (hb hby d5_203) (by decide) (by decide) k) ?_
    exact own_retZN X4 hx hrt hlk rfl (hb hby d5_254) (by decide) (by decide) (by rw [e4, hs0]; exact (CHv.at (s := s) (vm0 := s.vm) X4 hZ own_hEL CH0)) ⟨(by unfold own_fitDECIMAL; rw [if_pos hc5]), M2, (by rw [e4]; exact Keep.refl _ _)⟩
  · refine own_by (B := T4.setTop (mkF m 170 #[.val (.ref ua), .val (.ref ub)] [])) (fun _ k => XT.acmpNo X4.here hx rfl (hb hby d5_167) rfl rfl rfl (XT.aa_eq_f (fun q => hc5 (Value.ref.inj q))) k) ?_
    refine own_by (B := T4.setTop (mkF m 171 #[.val (.ref ua), .val (.ref ub)] [(.ref ub)])) (fun _ k => XS.aloadN X4.here hx rfl (hb hby d5_170) rfl rfl  k) ?_
    obtain ⟨T6, X6, e6, st6⟩ := getF X4 hx hZ hown (host := "") (Or.inl (hw _ (List.mem_of_getElem? (i := 22) rfl))) Via.refl e4 F_ub_kind (g := (mkF m 171 #[.val (.ref ua), .val (.ref ub)] [(.ref ub)])) rfl rfl (hb hby d5_171)
    refine own_by (B := T6.setTop (mkF m 174 #[.val (.ref ua), .val (.ref ub)] [(.ref uk)])) st6 ?_
    obtain ⟨T7, X7, e7, st7⟩ := getS2 X6 hx hZ hown (host := "") (Or.inl (hw _ (List.mem_of_getElem? (i := 55) rfl))) Via.refl e6 (S_DECIMAL.ext O0.2) (g := (mkF m 174 #[.val (.ref ua), .val (.ref ub)] [(.ref uk)])) rfl (hb hby d5_174)
    refine own_by (B := T7.setTop (mkF m 177 #[.val (.ref ua), .val (.ref ub)] [(.ref a_DECIMAL), (.ref uk)])) st7 ?_
    by_cases hc8 : uk = a_DECIMAL
    · refine own_by (B := T7.setTop (mkF m 180 #[.val (.ref ua), .val (.ref ub)] [])) (fun _ k => XT.acmpNo X7.here hx rfl (hb hby d5_177) rfl rfl rfl (XT.aa_ne_f (congrArg Value.ref hc8)) k) ?_
      refine own_by (B := T7.setTop (mkF m 181 #[.val (.ref ua), .val (.ref ub)] [(.ref ua)])) (fun _ k => XS.aloadN X7.here hx rfl (hb hby d5_180) rfl rfl  k) ?_
      obtain ⟨T9, X9, e9, st9⟩ := getF X7 hx hZ hown (host := "") (Or.inl (hw _ (List.mem_of_getElem? (i := 26) rfl))) Via.refl e7 F_ua_scale (g := (mkF m 181 #[.val (.ref ua), .val (.ref ub)] [(.ref ua)])) rfl rfl (hb hby d5_181)
      refine own_by (B := T9.setTop (mkF m 184 #[.val (.ref ua), .val (.ref ub)] [(.int uc)])) st9 ?_
      refine own_by (B := T9.setTop (mkF m 185 #[.val (.ref ua), .val (.ref ub)] [(.ref ub), (.int uc)])) (fun _ k => XS.aloadN X9.here hx rfl (hb hby d5_184) rfl rfl  k) ?_
      obtain ⟨T10, X10, e10, st10⟩ := getF X9 hx hZ hown (host := "") (Or.inl (hw _ (List.mem_of_getElem? (i := 26) rfl))) Via.refl e9 F_ub_scale (g := (mkF m 185 #[.val (.ref ua), .val (.ref ub)] [(.ref ub), (.int uc)])) rfl rfl (hb hby d5_185)
      refine own_by (B := T10.setTop (mkF m 188 #[.val (.ref ua), .val (.ref ub)] [(.int vc), (.int uc)])) st10 ?_
      by_cases hc11 : vc < uc
      · refine own_by (B := T10.setTop (mkF m 206 #[.val (.ref ua), .val (.ref ub)] [])) (fun _ k => XS.icmpYes X10.here hx rfl (pc0 := 188) (pc' := 206) rfl (hb hby d5_188) rfl (XT.ii_gt_t hc11) (by decide) (by decide) k) ?_
        refine own_by (B := T10.setTop (mkF m 207 #[.val (.ref ua), .val (.ref ub)] [(.int (0 : Int32))])) (fun _ k => XS.iconst X10.here hx rfl (hb hby d5_206) k) ?_
        refine own_by (B := T10.setTop (mkF m 254 #[.val (.ref ua), .val (.ref ub)] [(.int (0 : Int32))])) (fun _ k => XS.goto X10.here hx rfl (pc0 := 207) (pc' := 254) rfl (hb hby d5_207) (by decide) (by decide) k) ?_
        exact own_retZN X10 hx hrt hlk rfl (hb hby d5_254) (by decide) (by decide) (by rw [e10, hs0]; exact (CHv.at (s := s) (vm0 := s.vm) X10 hZ own_hEL CH0)) ⟨(by unfold own_fitDECIMAL; rw [if_neg hc5, if_pos hc8, if_pos hc11]), M2, (by rw [e10]; exact Keep.refl _ _)⟩
      · refine own_by (B := T10.setTop (mkF m 191 #[.val (.ref ua), .val (.ref ub)] [])) (fun _ k => XS.icmpNo X10.here hx rfl (hb hby d5_188) rfl (XT.ii_gt_f hc11) k) ?_
        refine own_by (B := T10.setTop (mkF m 192 #[.val (.ref ua), .val (.ref ub)] [(.ref ua)])) (fun _ k => XS.aloadN X10.here hx rfl (hb hby d5_191) rfl rfl  k) ?_
        obtain ⟨cq12, qa12, qc12⟩ := Exa.cell E_ua
        obtain ⟨_, _, ⟨T12, L12, k12, n12⟩, -, X12, ⟨Lc12, hQ12, l12, y12, z12⟩, st12⟩ := X10.privateBack hx (y := (⟨"com/example/planwright/planwright/cache/LiteralType", "wholeDigits", "()I"⟩ : MethodName)) hown (mvT hZ (hw _ (List.mem_of_getElem? (i := 56) rfl))) (mvT hZ (hw _ (List.mem_of_getElem? (i := 57) rfl))) (mvT hZ (own_selpriv (y := (⟨"com/example/planwright/planwright/cache/LiteralType", "wholeDigits", "()I"⟩ : MethodName)) (hw _ (List.mem_of_getElem? (i := 2) rfl)) (hw _ (List.mem_of_getElem? (i := 58) rfl)) (hw _ (List.mem_of_getElem? (i := 57) rfl)) (by decide))) (Cond.privateMethod_at (mvP hZ (hw _ (List.mem_of_getElem? (i := 58) rfl)) (args := #[]))) (mvT hZ (hw _ (List.mem_of_getElem? (i := 59) rfl))) (by decide) (backOf (W := 0) (rmWd l Z a0 hw [] ua us uc h0 n0 (own_old_le O0) F_ua_size F_ua_scale) hZ (hw _ (List.mem_of_getElem? (i := 59) rfl)) (hw _ (List.mem_of_getElem? (i := 3) rfl)) (by decide) (by decide)) (g := (mkF m 192 #[.val (.ref ua), .val (.ref ub)] [(.ref ua)])) rfl (by rw [hml]; rfl) (Steps.refl _) (a := ua) (by rw [e10]; exact qa12) qc12 (argsL := []) (rest := []) (lenOf pd_5___I rfl) rfl (by show 2 * 0 + _ ≤ _; exact Nat.le_of_eq rfl) (hb hby d5_192) (fun _ _ => ⟨rfl, e10, (by decide : 0 + 0 ≤ _), (by decide : 0 + 0 ≤ _)⟩)
        dsimp only [Pt.U, Pt.locs, Pt.cells, Pt.slots] at X12 l12 y12 z12 st12 hQ12
        subst l12 y12 z12
        obtain ⟨rfl, N12, e12⟩ := hQ12
        refine own_by (B := T12.setTop (mkF m 195 #[.val (.ref ua), .val (.ref ub)] [(.int (own_wd us uc))])) (fun _ k => st12.trans k) ?_
        have M12 := Fr.app M2 N12
        refine own_by (B := T12.setTop (mkF m 196 #[.val (.ref ua), .val (.ref ub)] [(.ref ub), (.int (own_wd us uc))])) (fun _ k => XS.aloadN X12.here hx rfl (hb hby d5_195) rfl rfl  k) ?_
        obtain ⟨cq13, qa13, qc13⟩ := Exa.cell E_ub
        obtain ⟨_, _, ⟨T13, L13, k13, n13⟩, -, X13, ⟨Lc13, hQ13, l13, y13, z13⟩, st13⟩ := X12.privateBack hx (y := (⟨"com/example/planwright/planwright/cache/LiteralType", "wholeDigits", "()I"⟩ : MethodName)) hown (mvT hZ (hw _ (List.mem_of_getElem? (i := 56) rfl))) (mvT hZ (hw _ (List.mem_of_getElem? (i := 57) rfl))) (mvT hZ (own_selpriv (y := (⟨"com/example/planwright/planwright/cache/LiteralType", "wholeDigits", "()I"⟩ : MethodName)) (hw _ (List.mem_of_getElem? (i := 2) rfl)) (hw _ (List.mem_of_getElem? (i := 58) rfl)) (hw _ (List.mem_of_getElem? (i := 57) rfl)) (by decide))) (Cond.privateMethod_at (mvP hZ (hw _ (List.mem_of_getElem? (i := 58) rfl)) (args := #[]))) (mvT hZ (hw _ (List.mem_of_getElem? (i := 59) rfl))) (by decide) (backOf (W := 1) (rmWd l Z a0 hw [] ub vs vc h0 n0 (own_old_le O0) F_ub_size F_ub_scale) hZ (hw _ (List.mem_of_getElem? (i := 59) rfl)) (hw _ (List.mem_of_getElem? (i := 3) rfl)) (by decide) (by decide)) (g := (mkF m 196 #[.val (.ref ua), .val (.ref ub)] [(.ref ub), (.int (own_wd us uc))])) rfl (by rw [hml]; rfl) (Steps.refl _) (a := ub) (by rw [e12]; exact qa13) qc13 (argsL := []) (rest := [(.int (own_wd us uc))]) (lenOf pd_5___I rfl) rfl (by show 2 * 0 + _ ≤ _; exact Nat.le_of_eq rfl) (hb hby d5_196) (fun _ _ => ⟨rfl, e12, (by decide : 0 + 0 ≤ _), (by decide : 0 + 0 ≤ _)⟩)
        dsimp only [Pt.U, Pt.locs, Pt.cells, Pt.slots] at X13 l13 y13 z13 st13 hQ13
        subst l13 y13 z13
        obtain ⟨rfl, N13, e13⟩ := hQ13
        refine own_by (B := T13.setTop (mkF m 199 #[.val (.ref ua), .val (.ref ub)] [(.int (own_wd vs vc)), (.int (own_wd us uc))])) (fun _ k => st13.trans k) ?_
        have M13 := Fr.app M12 N13
        by_cases hc14 : (own_wd vs vc) < (own_wd us uc)
        · refine own_by (B := T13.setTop (mkF m 206 #[.val (.ref ua), .val (.ref ub)] [])) (fun _ k => XS.icmpYes X13.here hx rfl (pc0 := 199) (pc' := 206) rfl (hb hby d5_199) rfl (XT.ii_gt_t hc14) (by decide) (by decide) k) ?_
          refine own_by (B := T13.setTop (mkF m 207 #[.val (.ref ua), .val (.ref ub)] [(.int (0 : Int32))])) (fun _ k => XS.iconst X13.here hx rfl (hb hby d5_206) k) ?_
          refine own_by (B := T13.setTop (mkF m 254 #[.val (.ref ua), .val (.ref ub)] [(.int (0 : Int32))])) (fun _ k => XS.goto X13.here hx rfl (pc0 := 207) (pc' := 254) rfl (hb hby d5_207) (by decide) (by decide) k) ?_
          exact own_retZN X13 hx hrt hlk rfl (hb hby d5_254) (by decide) (by decide) (by rw [e13, hs0]; exact (CHv.at (s := s) (vm0 := s.vm) X13 hZ own_hEL CH0)) ⟨(by unfold own_fitDECIMAL; rw [if_neg hc5, if_pos hc8, if_neg hc11, if_pos hc14]), M13, (by rw [e13]; exact Keep.refl _ _)⟩
        · refine own_by (B := T13.setTop (mkF m 202 #[.val (.ref ua), .val (.ref ub)] [])) (fun _ k => XS.icmpNo X13.here hx rfl (hb hby d5_199) rfl (XT.ii_gt_f hc14) k) ?_
          refine own_by (B := T13.setTop (mkF m 203 #[.val (.ref ua), .val (.ref ub)] [(.int (1 : Int32))])) (fun _ k => XS.iconst X13.here hx rfl (hb hby d5_202) k) ?_
          refine own_by (B := T13.setTop (mkF m 254 #[.val (.ref ua), .val (.ref ub)] [(.int (1 : Int32))])) (fun _ k => XS.goto X13.here hx rfl (pc0 := 203) (pc' := 254) rfl (hb hby d5_203) (by decide) (by decide) k) ?_
          exact own_retZN X13 hx hrt hlk rfl (hb hby d5_254) (by decide) (by decide) (by rw [e13, hs0]; exact (CHv.at (s := s) (vm0 := s.vm) X13 hZ own_hEL CH0)) ⟨(by unfold own_fitDECIMAL; rw [if_neg hc5, if_pos hc8, if_neg hc11, if_neg hc14]), M13, (by rw [e13]; exact Keep.refl _ _)⟩
    · refine own_by (B := T7.setTop (mkF m 206 #[.val (.ref ua), .val (.ref ub)] [])) (fun _ k => XT.acmpYes X7.here hx rfl (pc0 := 177) (pc' := 206) rfl (hb hby d5_177) rfl rfl rfl (XT.aa_ne_t (fun q => hc8 (Value.ref.inj q))) (by decide) (by decide) k) ?_
      refine own_by (B := T7.setTop (mkF m 207 #[.val (.ref ua), .val (.ref ub)] [(.int (0 : Int32))])) (fun _ k => XS.iconst X7.here hx rfl (hb hby d5_206) k) ?_
      refine own_by (B := T7.setTop (mkF m 254 #[.val (.ref ua), .val (.ref ub)] [(.int (0 : Int32))])) (fun _ k => XS.goto X7.here hx rfl (pc0 := 207) (pc' := 254) rfl (hb hby d5_207) (by decide) (by decide) k) ?_
      exact own_retZN X7 hx hrt hlk rfl (hb hby d5_254) (by decide) (by decide) (by rw [e7, hs0]; exact (CHv.at (s := s) (vm0 := s.vm) X7 hZ own_hEL CH0)) ⟨(by unfold own_fitDECIMAL; rw [if_neg hc5, if_neg hc8]), M2, (by rw [e7]; exact Keep.refl _ _)⟩

def own_fitDOUBLE (uk : Addr) (us : Int32) (uc : Int32) (vs : Int32) (vc : Int32) (a_INTEGER : Addr) (a_BIGINT : Addr) (a_DECIMAL : Addr) (a_DOUBLE : Addr) (a_VARCHAR : Addr) : Int32 := if uk = a_DOUBLE then (1 : Int32) else (0 : Int32)

theorem d5_210 : decode prog_3_method_3_code 210 = .ok (.aload_n 1, 1) := by decide +kernel

theorem d5_211 : decode prog_3_method_3_code 211 = .ok (.getfield 7, 3) := by decide +kernel

theorem d5_214 : decode prog_3_method_3_code 214 = .ok (.getstatic 44, 3) := by decide +kernel

theorem d5_217 : decode prog_3_method_3_code 217 = .ok (.if_acmp .ne 7, 3) := by decide +kernel

theorem d5_220 : decode prog_3_method_3_code 220 = .ok (.iconst 1, 1) := by decide +kernel

theorem d5_221 : decode prog_3_method_3_code 221 = .ok (.goto 33, 3) := by decide +kernel

theorem d5_224 : decode prog_3_method_3_code 224 = .ok (.iconst 0, 1) := by decide +kernel

theorem d5_225 : decode prog_3_method_3_code 225 = .ok (.goto 29, 3) := by decide +kernel

theorem pn_rmFitDOUBLE : plainFor (⟨"com/example/planwright/planwright/cache/LiteralType", "fits", "(Lcom/example/planwright/planwright/cache/LiteralType;)Z"⟩ : MethodName) = true := by first | exact plainFor_of_name (by first | (simp [plainName, overriddenIn]; done) | decide +kernel) | exact Jvm.Free.JP.mathPlain rfl (by decide +kernel) | decide +kernel
theorem ef_rmFitDOUBLE (m : MethodId) (x0 : Addr) (x1 : Addr) : entryFrame m #[(.ref x0), (.ref x1)] 2 = mkF m 0 #[.val (.ref x0), .val (.ref x1)] [] := by first | (simp [entryFrame, mkF, argsToLocals, Value.category]; done) | rfl
set_option maxRecDepth 65536 in
set_option maxHeartbeats 40000000 in
theorem rmFitDOUBLE (l : Launch) (Z : State) (a0 : Array Value) (hw : ∀ d ∈ tables_1, d.before a0 Z = true) (ws : List Jvm.Cond) (a_INTEGER a_BIGINT a_VARCHAR a_DECIMAL a_DOUBLE : Addr) (ucs : Int32) (ua ub uk : Addr) (us uc vs vc : Int32) (h0 : Heap) (n0 : Nat) (Z0 : n0 ≤ h0.size) (O0 : Old Z n0 h0) (HW : own_W Z Z.heap a_INTEGER a_BIGINT a_VARCHAR a_DECIMAL a_DOUBLE ucs) (E_ua : Exa Z h0 ua "com/example/planwright/planwright/cache/LiteralType") (F_ua_kind : Fld Z h0 ua "com/example/planwright/planwright/cache/LiteralType" "kind" "Lcom/example/planwright/planwright/cache/LiteralType$Kind;" (.ref a_DOUBLE)) (F_ua_size : Fld Z h0 ua "com/example/planwright/planwright/cache/LiteralType" "size" "I" (.int us)) (F_ua_scale : Fld Z h0 ua "com/example/planwright/planwright/cache/LiteralType" "scale" "I" (.int uc)) (E_ub : Exa Z h0 ub "com/example/planwright/planwright/cache/LiteralType") (F_ub_kind : Fld Z h0 ub "com/example/planwright/planwright/cache/LiteralType" "kind" "Lcom/example/planwright/planwright/cache/LiteralType$Kind;" (.ref uk)) (F_ub_size : Fld Z h0 ub "com/example/planwright/planwright/cache/LiteralType" "size" "I" (.int vs)) (F_ub_scale : Fld Z h0 ub "com/example/planwright/planwright/cache/LiteralType" "scale" "I" (.int vc)) :
    MetFree l (⟨"com/example/planwright/planwright/cache/LiteralType", "fits", "(Lcom/example/planwright/planwright/cache/LiteralType;)Z"⟩ : MethodName) (head1 (Jvm.Cond.code (⟨"com/example/planwright/planwright/cache/LiteralType", "fits", "(Lcom/example/planwright/planwright/cache/LiteralType;)Z"⟩ : MethodName) prog_3_method_3_code 2 (some .boolean) :: ws) ({ frames := 1, cells := 0, slots := 0, locals := 12 } : Room)) (fun a U => a = #[(.ref ua), (.ref ub)] ∧ Z.Warmed39 U.vm ∧ U.heap = h0 ∧ CHv Z own_EL U.vm h0) (fun _ _ _ _ _ => True) (fun _ U o U' => ∃ v L, o = .returned v ∧ (own_QF (own_fitDOUBLE uk us uc vs vc a_INTEGER a_BIGINT a_DECIMAL a_DOUBLE a_VARCHAR) h0 n0) v U'.heap L ∧ CHr Z own_EL U.vm U.heap U'.vm U'.heap ∧ ReturnedEndW U o U' L 0 0) := by
  refine MetFree.of_bodySF pn_rmFitDOUBLE hisR ?_
  intro p e s m args below meth c s₁ Bd hml0 hP hK
  obtain ⟨rfl, hZ, hh, CH0⟩ := hP
  have hx := Bd.exec
  have hby := Bd.bytes
  have hml : c.maxLocals = 2 := hml0
  have hown : s.vm.findClass "com/example/planwright/planwright/cache/LiteralType" = some m.cls := findClass_of_methodNamed Bd.named
  have hnm := (name_of_methodNamed Bd.named Bd.method).1
  have hrt := Bd.returns
  have hlk := Bd.notSynchronized
  have X0 : Stand p l e ({ frames := 1, cells := 0, slots := 0, locals := 12 } : Room) s m #[(.ref ua), (.ref ub)] below meth c s₁ [] 0 0 := Stand.of_body Bd
  have e0 : s₁.heap = h0 := by rw [← hh, Bd.state]; rfl
  have N0 := Fr.nil n0
  have K0 := Keep.refl h0 []
  have hs0 : s.heap = h0 := hh
  have HW' := HW
  obtain ⟨S_INTEGER, E_INTEGER, S_BIGINT, E_BIGINT, S_VARCHAR, E_VARCHAR, S_DECIMAL, E_DECIMAL, S_DOUBLE, E_DOUBLE, F_INTEGER_ordinal, F_BIGINT_ordinal, F_VARCHAR_ordinal, F_DECIMAL_ordinal, F_DOUBLE_ordinal, S_CS, H_CS⟩ := HW'
  have own_wS : ∀ a ∈ Bundle.stringAtoms, a.before a0 Z = true := by
    intro d hd
    simp only [Bundle.stringAtoms, List.mem_cons, List.not_mem_nil, or_false] at hd
    rcases hd with rfl | rfl | rfl | rfl | rfl | rfl | rfl
    · exact (hw _ (List.mem_of_getElem? (i := 61) rfl))
    · exact (hw _ (List.mem_of_getElem? (i := 62) rfl))
    · exact (hw _ (List.mem_of_getElem? (i := 63) rfl))
    · exact (hw _ (List.mem_of_getElem? (i := 64) rfl))
    · exact (hw _ (List.mem_of_getElem? (i := 65) rfl))
    · exact (hw _ (List.mem_of_getElem? (i := 66) rfl))
    · exact (hw _ (List.mem_of_getElem? (i := 67) rfl))
  have own_hEL : EW Z a0 own_EL := EW.cons (hw _ (List.mem_of_getElem? (i := 60) rfl)) (by decide) (EW.cons (hw _ (List.mem_of_getElem? (i := 82) rfl)) (by decide) EW.nil)
  refine own_doneH (B := s₁.setTop (mkF m 0 #[.val (.ref ua), .val (.ref ub)] [])) (fun t k => castTop (ef_rmFitDOUBLE m ua ub) k) ?_
  refine own_by (B := s₁.setTop (mkF m 1 #[.val (.ref ua), .val (.ref ub)] [(.ref ua)])) (fun _ k => XS.aloadN X0.here hx rfl (hb hby d5_0) rfl rfl  k) ?_
  obtain ⟨T1, X1, e1, st1⟩ := getF X0 hx hZ hown (host := "") (Or.inl (hw _ (List.mem_of_getElem? (i := 22) rfl))) Via.refl e0 F_ua_kind (g := (mkF m 1 #[.val (.ref ua), .val (.ref ub)] [(.ref ua)])) rfl rfl (hb hby d5_1)
  refine own_by (B := T1.setTop (mkF m 4 #[.val (.ref ua), .val (.ref ub)] [(.ref a_DOUBLE)])) st1 ?_
  obtain ⟨cq2, kq2, qa2, qb2, qc2⟩ := isOf hZ e1 (E_DOUBLE.ext O0.2)
  obtain ⟨_, _, ⟨T2, L2, k2, n2⟩, -, X2, ⟨Lc2, hQ2, l2, y2, z2⟩, st2⟩ := X1.virtualBackUp hx (owner := "java/lang/Enum") (x := (⟨"com/example/planwright/planwright/cache/LiteralType$Kind", "ordinal", "()I"⟩ : MethodName)) (y := (⟨"java/lang/Enum", "ordinal", "()I"⟩ : MethodName)) hown (mvT hZ (hw _ (List.mem_of_getElem? (i := 35) rfl))) (mvT hZ (hw _ (List.mem_of_getElem? (i := 36) rfl))) (mvT hZ (hw _ (List.mem_of_getElem? (i := 37) rfl))) (by decide) (mvT hZ (hw _ (List.mem_of_getElem? (i := 39) rfl))) (mvT hZ (hw _ (List.mem_of_getElem? (i := 38) rfl))) (backOf (W := 0) (rmOrd l Z a0 hw [] a_DOUBLE (3 : Int32) h0 n0 (own_old_le O0) (F_DOUBLE_ordinal.ext O0.2)) hZ (hw _ (List.mem_of_getElem? (i := 41) rfl)) (hw _ (List.mem_of_getElem? (i := 40) rfl)) (by decide) (by decide)) qa2 qc2 (g := (mkF m 4 #[.val (.ref ua), .val (.ref ub)] [(.ref a_DOUBLE)])) rfl (by rw [hml]; rfl) (Steps.refl _) (argsL := []) (rest := []) (lenOf pd_5___I rfl) rfl (by show 2 * 0 + _ ≤ _; exact Nat.le_of_eq rfl) (hb hby d5_4) (fun _ _ => ⟨rfl, e1, (by decide : 0 + 0 ≤ _), (by decide : 0 + 0 ≤ _)⟩)
  dsimp only [Pt.U, Pt.locs, Pt.cells, Pt.slots] at X2 l2 y2 z2 st2 hQ2
  subst l2 y2 z2
  obtain ⟨rfl, N2, e2⟩ := hQ2
  refine own_by (B := T2.setTop (mkF m 7 #[.val (.ref ua), .val (.ref ub)] [(.int (own_ord (3 : Int32)))])) (fun _ k => st2.trans k) ?_
  have M2 := Fr.app N0 N2
  rw [show (own_ord (3 : Int32)) = (3 : Int32) from rfl]
  refine own_by (B := T2.setTop (mkF m 210 #[.val (.ref ua), .val (.ref ub)] [])) (fun _ k => XS.tswIn X2.here hx rfl (pc0 := 7) (pc' := 210) rfl (hb hby d5_7) rfl (by decide) (o := 203) rfl (by decide) (by decide) k) ?_
  refine own_by (B := T2.setTop (mkF m 211 #[.val (.ref ua), .val (.ref ub)] [(.ref ub)])) (fun _ k => XS.aloadN X2.here hx rfl (hb hby d5_210) rfl rfl  k) ?_
  obtain ⟨T3, X3, e3, st3⟩ := getF X2 hx hZ hown (host := "") (Or.inl (hw _ (List.mem_of_getElem? (i := 22) rfl))) Via.refl e2 F_ub_kind (g := (mkF m 211 #[.val (.ref ua), .val (.ref ub)] [(.ref ub)])) rfl rfl (hb hby d5_211)
  refine own_by (B := T3.setTop (mkF m 214 #[.val (.ref ua), .val (.ref ub)] [(.ref uk)])) st3 ?_
  obtain ⟨T4, X4, e4, st4⟩ := getS2 X3 hx hZ hown (host := "") (Or.inl (hw _ (List.mem_of_getElem? (i := 53) rfl))) Via.refl e3 (S_DOUBLE.ext O0.2) (g := (mkF m 214 #[.val (.ref ua), .val (.ref ub)] [(.ref uk)])) rfl (hb hby d5_214)
  refine own_by (B := T4.setTop (mkF m 217 #[.val (.ref ua), .val (.ref ub)] [(.ref a_DOUBLE), (.ref uk)])) st4 ?_
  by_cases hc5 : uk = a_DOUBLE
  · refine own_by (B := T4.setTop (mkF m 220 #[.val (.ref ua), .val (.ref ub)] [])) (fun _ k => XT.acmpNo X4.here hx rfl (hb hby d5_217) rfl rfl rfl (XT.aa_ne_f (congrArg Value.ref hc5)) k) ?_
    refine own_by (B := T4.setTop (mkF m 221 #[.val (.ref ua), .val (.ref ub)] [(.int (1 : Int32))])) (fun _ k => XS.iconst X4.here hx rfl (hb hby d5_220) k) ?_
    refine own_by (B := T4.setTop (mkF m 254 #[.val (.ref ua), .val (.ref ub)] [(.int (1 : Int32))])) (fun _ k => XS.goto X4.here hx rfl (pc0 := 221) (pc' := 254) rfl (hb hby d5_221) (by decide) (by decide) k) ?_
    exact own_retZN X4 hx hrt hlk rfl (hb hby d5_254) (by decide) (by decide) (by rw [e4, hs0]; exact (CHv.at (s := s) (vm0 := s.vm) X4 hZ own_hEL CH0)) ⟨(by unfold own_fitDOUBLE; rw [if_pos hc5]), M2, (by rw [e4]; exact Keep.refl _ _)⟩
  · refine own_by (B := T4.setTop (mkF m 224 #[.val (.ref ua), .val (.ref ub)] [])) (fun _ k => XT.acmpYes X4.here hx rfl (pc0 := 217) (pc' := 224) rfl (hb hby d5_217) rfl rfl rfl (XT.aa_ne_t (fun q => hc5 (Value.ref.inj q))) (by decide) (by decide) k) ?_
    refine own_by (B := T4.setTop (mkF m 225 #[.val (.ref ua), .val (.ref ub)] [(.int (0 : Int32))])) (fun _ k => XS.iconst X4.here hx rfl (hb hby d5_224) k) ?_
    refine own_by (B := T4.setTop (mkF m 254 #[.val (.ref ua), .val (.ref ub)] [(.int (0 : Int32))])) (fun _ k => XS.goto X4.here hx rfl (pc0 := 225) (pc' := 254) rfl (hb hby d5_225) (by decide) (by decide) k) ?_
    exact own_retZN X4 hx hrt hlk rfl (hb hby d5_254) (by decide) (by decide) (by rw [e4, hs0]; exact (CHv.at (s := s) (vm0 := s.vm) X4 hZ own_hEL CH0)) ⟨(by unfold own_fitDOUBLE; rw [if_neg hc5]), M2, (by rw [e4]; exact Keep.refl _ _)⟩

def own_fitVARCHAR (uk : Addr) (us : Int32) (uc : Int32) (vs : Int32) (vc : Int32) (a_INTEGER : Addr) (a_BIGINT : Addr) (a_DECIMAL : Addr) (a_DOUBLE : Addr) (a_VARCHAR : Addr) : Int32 := if uk = a_VARCHAR then (if vs < us then (0 : Int32) else (1 : Int32)) else (0 : Int32)

theorem d5_228 : decode prog_3_method_3_code 228 = .ok (.aload_n 1, 1) := by decide +kernel

theorem d5_229 : decode prog_3_method_3_code 229 = .ok (.getfield 7, 3) := by decide +kernel

theorem d5_232 : decode prog_3_method_3_code 232 = .ok (.getstatic 32, 3) := by decide +kernel

theorem d5_235 : decode prog_3_method_3_code 235 = .ok (.if_acmp .ne 18, 3) := by decide +kernel

theorem d5_238 : decode prog_3_method_3_code 238 = .ok (.aload_n 0, 1) := by decide +kernel

theorem d5_239 : decode prog_3_method_3_code 239 = .ok (.getfield 13, 3) := by decide +kernel

theorem d5_242 : decode prog_3_method_3_code 242 = .ok (.aload_n 1, 1) := by decide +kernel

theorem d5_243 : decode prog_3_method_3_code 243 = .ok (.getfield 13, 3) := by decide +kernel

theorem d5_246 : decode prog_3_method_3_code 246 = .ok (.if_icmp .gt 7, 3) := by decide +kernel

theorem d5_249 : decode prog_3_method_3_code 249 = .ok (.iconst 1, 1) := by decide +kernel

theorem d5_250 : decode prog_3_method_3_code 250 = .ok (.goto 4, 3) := by decide +kernel

theorem d5_253 : decode prog_3_method_3_code 253 = .ok (.iconst 0, 1) := by decide +kernel

theorem pn_rmFitVARCHAR : plainFor (⟨"com/example/planwright/planwright/cache/LiteralType", "fits", "(Lcom/example/planwright/planwright/cache/LiteralType;)Z"⟩ : MethodName) = true := by first | exact plainFor_of_name (by first | (simp [plainName, overriddenIn]; done) | decide +kernel) | exact Jvm.Free.JP.mathPlain rfl (by decide +kernel) | decide +kernel
theorem ef_rmFitVARCHAR (m : MethodId) (x0 : Addr) (x1 : Addr) : entryFrame m #[(.ref x0), (.ref x1)] 2 = mkF m 0 #[.val (.ref x0), .val (.ref x1)] [] := by first | (simp [entryFrame, mkF, argsToLocals, Value.category]; done) | rfl
set_option maxRecDepth 65536 in
set_option maxHeartbeats 40000000 in
theorem rmFitVARCHAR (l : Launch) (Z : State) (a0 : Array Value) (hw : ∀ d ∈ tables_1, d.before a0 Z = true) (ws : List Jvm.Cond) (a_INTEGER a_BIGINT a_VARCHAR a_DECIMAL a_DOUBLE : Addr) (ucs : Int32) (ua ub uk : Addr) (us uc vs vc : Int32) (h0 : Heap) (n0 : Nat) (Z0 : n0 ≤ h0.size) (O0 : Old Z n0 h0) (HW : own_W Z Z.heap a_INTEGER a_BIGINT a_VARCHAR a_DECIMAL a_DOUBLE ucs) (E_ua : Exa Z h0 ua "com/example/planwright/planwright/cache/LiteralType") (F_ua_kind : Fld Z h0 ua "com/example/planwright/planwright/cache/LiteralType" "kind" "Lcom/example/planwright/planwright/cache/LiteralType$Kind;" (.ref a_VARCHAR)) (F_ua_size : Fld Z h0 ua "com/example/planwright/planwright/cache/LiteralType" "size" "I" (.int us)) (F_ua_scale : Fld Z h0 ua "com/example/planwright/planwright/cache/LiteralType" "scale" "I" (.int uc)) (E_ub : Exa Z h0 ub "com/example/planwright/planwright/cache/LiteralType") (F_ub_kind : Fld Z h0 ub "com/example/planwright/planwright/cache/LiteralType" "kind" "Lcom/example/planwright/planwright/cache/LiteralType$Kind;" (.ref uk)) (F_ub_size : Fld Z h0 ub "com/example/planwright/planwright/cache/LiteralType" "size" "I" (.int vs)) (F_ub_scale : Fld Z h0 ub "com/example/planwright/planwright/cache/LiteralType" "scale" "I" (.int vc)) :
    MetFree l (⟨"com/example/planwright/planwright/cache/LiteralType", "fits", "(Lcom/example/planwright/planwright/cache/LiteralType;)Z"⟩ : MethodName) (head1 (Jvm.Cond.code (⟨"com/example/planwright/planwright/cache/LiteralType", "fits", "(Lcom/example/planwright/planwright/cache/LiteralType;)Z"⟩ : MethodName) prog_3_method_3_code 2 (some .boolean) :: ws) ({ frames := 1, cells := 0, slots := 0, locals := 12 } : Room)) (fun a U => a = #[(.ref ua), (.ref ub)] ∧ Z.Warmed39 U.vm ∧ U.heap = h0 ∧ CHv Z own_EL U.vm h0) (fun _ _ _ _ _ => True) (fun _ U o U' => ∃ v L, o = .returned v ∧ (own_QF (own_fitVARCHAR uk us uc vs vc a_INTEGER a_BIGINT a_DECIMAL a_DOUBLE a_VARCHAR) h0 n0) v U'.heap L ∧ CHr Z own_EL U.vm U.heap U'.vm U'.heap ∧ ReturnedEndW U o U' L 0 0) := by
  refine MetFree.of_bodySF pn_rmFitVARCHAR hisR ?_
  intro p e s m args below meth c s₁ Bd hml0 hP hK
  obtain ⟨rfl, hZ, hh, CH0⟩ := hP
  have hx := Bd.exec
  have hby := Bd.bytes
  have hml : c.maxLocals = 2 := hml0
  have hown : s.vm.findClass "com/example/planwright/planwright/cache/LiteralType" = some m.cls := findClass_of_methodNamed Bd.named
  have hnm := (name_of_methodNamed Bd.named Bd.method).1
  have hrt := Bd.returns
  have hlk := Bd.notSynchronized
  have X0 : Stand p l e ({ frames := 1, cells := 0, slots := 0, locals := 12 } : Room) s m #[(.ref ua), (.ref ub)] below meth c s₁ [] 0 0 := Stand.of_body Bd
  have e0 : s₁.heap = h0 := by rw [← hh, Bd.state]; rfl
  have N0 := Fr.nil n0
  have K0 := Keep.refl h0 []
  have hs0 : s.heap = h0 := hh
  have HW' := HW
  obtain ⟨S_INTEGER, E_INTEGER, S_BIGINT, E_BIGINT, S_VARCHAR, E_VARCHAR, S_DECIMAL, E_DECIMAL, S_DOUBLE, E_DOUBLE, F_INTEGER_ordinal, F_BIGINT_ordinal, F_VARCHAR_ordinal, F_DECIMAL_ordinal, F_DOUBLE_ordinal, S_CS, H_CS⟩ := HW'
  have own_wS : ∀ a ∈ Bundle.stringAtoms, a.before a0 Z = true := by
    intro d hd
    simp only [Bundle.stringAtoms, List.mem_cons, List.not_mem_nil, or_false] at hd
    rcases hd with rfl | rfl | rfl | rfl | rfl | rfl | rfl
    · exact (hw _ (List.mem_of_getElem? (i := 61) rfl))
    · exact (hw _ (List.mem_of_getElem? (i := 62) rfl))
    · exact (hw _ (List.mem_of_getElem? (i := 63) rfl))
    · exact (hw _ (List.mem_of_getElem? (i := 64) rfl))
    · exact (hw _ (List.mem_of_getElem? (i := 65) rfl))
    · exact (hw _ (List.mem_of_getElem? (i := 66) rfl))
    · exact (hw _ (List.mem_of_getElem? (i := 67) rfl))
  have own_hEL : EW Z a0 own_EL := EW.cons (hw _ (List.mem_of_getElem? (i := 60) rfl)) (by decide) (EW.cons (hw _ (List.mem_of_getElem? (i := 82) rfl)) (by decide) EW.nil)
  refine own_doneH (B := s₁.setTop (mkF m 0 #[.val (.ref ua), .val (.ref ub)] [])) (fun t k => castTop (ef_rmFitVARCHAR m ua ub) k) ?_
  refine own_by (B := s₁.setTop (mkF m 1 #[.val (.ref ua), .val (.ref ub)] [(.ref ua)])) (fun _ k => XS.aloadN X0.here hx rfl (hb hby d5_0) rfl rfl  k) ?_
  obtain ⟨T1, X1, e1, st1⟩ := getF X0 hx hZ hown (host := "") (Or.inl (hw _ (List.mem_of_getElem? (i := 22) rfl))) Via.refl e0 F_ua_kind (g := (mkF m 1 #[.val (.ref ua), .val (.ref ub)] [(.ref ua)])) rfl rfl (hb hby d5_1)
  refine own_by (B := T1.setTop (mkF m 4 #[.val (.ref ua), .val (.ref ub)] [(.ref a_VARCHAR)])) st1 ?_
  obtain ⟨cq2, kq2, qa2, qb2, qc2⟩ := isOf hZ e1 (E_VARCHAR.ext O0.2)
  obtain ⟨_, _, ⟨T2, L2, k2, n2⟩, -, X2, ⟨Lc2, hQ2, l2, y2, z2⟩, st2⟩ := X1.virtualBackUp hx (owner := "java/lang/Enum") (x := (⟨"com/example/planwright/planwright/cache/LiteralType$Kind", "ordinal", "()I"⟩ : MethodName)) (y := (⟨"java/lang/Enum", "ordinal", "()I"⟩ : MethodName)) hown (mvT hZ (hw _ (List.mem_of_getElem? (i := 35) rfl))) (mvT hZ (hw _ (List.mem_of_getElem? (i := 36) rfl))) (mvT hZ (hw _ (List.mem_of_getElem? (i := 37) rfl))) (by decide) (mvT hZ (hw _ (List.mem_of_getElem? (i := 39) rfl))) (mvT hZ (hw _ (List.mem_of_getElem? (i := 38) rfl))) (backOf (W := 0) (rmOrd l Z a0 hw [] a_VARCHAR (4 : Int32) h0 n0 (own_old_le O0) (F_VARCHAR_ordinal.ext O0.2)) hZ (hw _ (List.mem_of_getElem? (i := 41) rfl)) (hw _ (List.mem_of_getElem? (i := 40) rfl)) (by decide) (by decide)) qa2 qc2 (g := (mkF m 4 #[.val (.ref ua), .val (.ref ub)] [(.ref a_VARCHAR)])) rfl (by rw [hml]; rfl) (Steps.refl _) (argsL := []) (rest := []) (lenOf pd_5___I rfl) rfl (by show 2 * 0 + _ ≤ _; exact Nat.le_of_eq rfl) (hb hby d5_4) (fun _ _ => ⟨rfl, e1, (by decide : 0 + 0 ≤ _), (by decide : 0 + 0 ≤ _)⟩)
  dsimp only [Pt.U, Pt.locs, Pt.cells, Pt.slots] at X2 l2 y2 z2 st2 hQ2
  subst l2 y2 z2
  obtain ⟨rfl, N2, e2⟩ := hQ2
  refine own_by (B := T2.setTop (mkF m 7 #[.val (.ref ua), .val (.ref ub)] [(.int (own_ord (4 : Int32)))])) (fun _ k => st2.trans k) ?_
  have M2 := Fr.app N0 N2
  rw [show (own_ord (4 : Int32)) = (4 : Int32) from rfl]
  refine own_by (B := T2.setTop (mkF m 228 #[.val (.ref ua), .val (.ref ub)] [])) (fun _ k => XS.tswIn X2.here hx rfl (pc0 := 7) (pc' := 228) rfl (hb hby d5_7) rfl (by decide) (o := 221) rfl (by decide) (by decide) k) ?_
  refine own_by (B := T2.setTop (mkF m 229 #[.val (.ref ua), .val (.ref ub)] [(.ref ub)])) (fun _ k => XS.aloadN X2.here hx rfl (hb hby d5_228) rfl rfl  k) ?_
  obtain ⟨T3, X3, e3, st3⟩ := getF X2 hx hZ hown (host := "") (Or.inl (hw _ (List.mem_of_getElem? (i := 22) rfl))) Via.refl e2 F_ub_kind (g := (mkF m 229 #[.val (.ref ua), .val (.ref ub)] [(.ref ub)])) rfl rfl (hb hby d5_229)
  refine own_by (B := T3.setTop (mkF m 232 #[.val (.ref ua), .val (.ref ub)] [(.ref uk)])) st3 ?_
  obtain ⟨T4, X4, e4, st4⟩ := getS2 X3 hx hZ hown (host := "") (Or.inl (hw _ (List.mem_of_getElem? (i := 50) rfl))) Via.refl e3 (S_VARCHAR.ext O0.2) (g := (mkF m 232 #[.val (.ref ua), .val (.ref ub)] [(.ref uk)])) rfl (hb hby d5_232)
  refine own_by (B := T4.setTop (mkF m 235 #[.val (.ref ua), .val (.ref ub)] [(.ref a_VARCHAR), (.ref uk)])) st4 ?_
  by_cases hc5 : uk = a_VARCHAR
  · refine own_by (B := T4.setTop (mkF m 238 #[.val (.ref ua), .val (.ref ub)] [])) (fun _ k => XT.acmpNo X4.here hx rfl (hb hby d5_235) rfl rfl rfl (XT.aa_ne_f (congrArg Value.ref hc5)) k) ?_
    refine own_by (B := T4.setTop (mkF m 239 #[.val (.ref ua), .val (.ref ub)] [(.ref ua)])) (fun _ k => XS.aloadN X4.here hx rfl (hb hby d5_238) rfl rfl  k) ?_
    obtain ⟨T6, X6, e6, st6⟩ := getF X4 hx hZ hown (host := "") (Or.inl (hw _ (List.mem_of_getElem? (i := 24) rfl))) Via.refl e4 F_ua_size (g := (mkF m 239 #[.val (.ref ua), .val (.ref ub)] [(.ref ua)])) rfl rfl (hb hby d5_239)
    refine own_by (B := T6.setTop (mkF m 242 #[.val (.ref ua), .val (.ref ub)] [(.int us)])) st6 ?_
    refine own_by (B := T6.setTop (mkF m 243 #[.val (.ref ua), .val (.ref ub)] [(.ref ub), (.int us)])) (fun _ k => XS.aloadN X6.here hx rfl (hb hby d5_242) rfl rfl  k) ?_
    obtain ⟨T7, X7, e7, st7⟩ := getF X6 hx hZ hown (host := "") (Or.inl (hw _ (List.mem_of_getElem? (i := 24) rfl))) Via.refl e6 F_ub_size (g := (mkF m 243 #[.val (.ref ua), .val (.ref ub)] [(.ref ub), (.int us)])) rfl rfl (hb hby d5_243)
    refine own_by (B := T7.setTop (mkF m 246 #[.val (.ref ua), .val (.ref ub)] [(.int vs), (.int us)])) st7 ?_
    by_cases hc8 : vs < us
    · refine own_by (B := T7.setTop (mkF m 253 #[.val (.ref ua), .val (.ref ub)] [])) (fun _ k => XS.icmpYes X7.here hx rfl (pc0 := 246) (pc' := 253) rfl (hb hby d5_246) rfl (XT.ii_gt_t hc8) (by decide) (by decide) k) ?_
      refine own_by (B := T7.setTop (mkF m 254 #[.val (.ref ua), .val (.ref ub)] [(.int (0 : Int32))])) (fun _ k => XS.iconst X7.here hx rfl (hb hby d5_253) k) ?_
      exact own_retZN X7 hx hrt hlk rfl (hb hby d5_254) (by decide) (by decide) (by rw [e7, hs0]; exact (CHv.at (s := s) (vm0 := s.vm) X7 hZ own_hEL CH0)) ⟨(by unfold own_fitVARCHAR; rw [if_pos hc5, if_pos hc8]), M2, (by rw [e7]; exact Keep.refl _ _)⟩
    · refine own_by (B := T7.setTop (mkF m 249 #[.val (.ref ua), .val (.ref ub)] [])) (fun _ k => XS.icmpNo X7.here hx rfl (hb hby d5_246) rfl (XT.ii_gt_f hc8) k) ?_
      refine own_by (B := T7.setTop (mkF m 250 #[.val (.ref ua), .val (.ref ub)] [(.int (1 : Int32))])) (fun _ k => XS.iconst X7.here hx rfl (hb hby d5_249) k) ?_
      refine own_by (B := T7.setTop (mkF m 254 #[.val (.ref ua), .val (.ref ub)] [(.int (1 : Int32))])) (fun _ k => XS.goto X7.here hx rfl (pc0 := 250) (pc' := 254) rfl (hb hby d5_250) (by decide) (by decide) k) ?_
      exact own_retZN X7 hx hrt hlk rfl (hb hby d5_254) (by decide) (by decide) (by rw [e7, hs0]; exact (CHv.at (s := s) (vm0 := s.vm) X7 hZ own_hEL CH0)) ⟨(by unfold own_fitVARCHAR; rw [if_pos hc5, if_neg hc8]), M2, (by rw [e7]; exact Keep.refl _ _)⟩
  · refine own_by (B := T4.setTop (mkF m 253 #[.val (.ref ua), .val (.ref ub)] [])) (fun _ k => XT.acmpYes X4.here hx rfl (pc0 := 235) (pc' := 253) rfl (hb hby d5_235) rfl rfl rfl (XT.aa_ne_t (fun q => hc5 (Value.ref.inj q))) (by decide) (by decide) k) ?_
    refine own_by (B := T4.setTop (mkF m 254 #[.val (.ref ua), .val (.ref ub)] [(.int (0 : Int32))])) (fun _ k => XS.iconst X4.here hx rfl (hb hby d5_253) k) ?_
    exact own_retZN X4 hx hrt hlk rfl (hb hby d5_254) (by decide) (by decide) (by rw [e4, hs0]; exact (CHv.at (s := s) (vm0 := s.vm) X4 hZ own_hEL CH0)) ⟨(by unfold own_fitVARCHAR; rw [if_neg hc5]), M2, (by rw [e4]; exact Keep.refl _ _)⟩

def own_D (a_INTEGER a_BIGINT a_DECIMAL a_DOUBLE a_VARCHAR : Addr) : Prop := a_INTEGER ≠ a_BIGINT ∧ a_INTEGER ≠ a_DECIMAL ∧ a_INTEGER ≠ a_DOUBLE ∧ a_INTEGER ≠ a_VARCHAR ∧ a_BIGINT ≠ a_DECIMAL ∧ a_BIGINT ≠ a_DOUBLE ∧ a_BIGINT ≠ a_VARCHAR ∧ a_DECIMAL ≠ a_DOUBLE ∧ a_DECIMAL ≠ a_VARCHAR ∧ a_DOUBLE ≠ a_VARCHAR

theorem own_sub32 {x y : Int32} (hx : 0 ≤ x.toInt) (hy : 0 ≤ y.toInt) : (own_wd x y).toInt = x.toInt - y.toInt := by
  have := rng32 x; have := rng32 y
  unfold own_wd; exact XT.sub32 ⟨by omega, by omega⟩
theorem own_sub64 {x y : Int32} (hx : 0 ≤ x.toInt) (hy : 0 ≤ y.toInt) : (Int32.toInt64 x - Int32.toInt64 y).toInt = x.toInt - y.toInt := by
  have := rng32 x; have := rng32 y
  rw [XT.sub64 ⟨by rw [c_i2l, c_i2l]; omega, by rw [c_i2l, c_i2l]; omega⟩, c_i2l, c_i2l]

theorem own_lawINTEGER {a_INTEGER a_BIGINT a_DECIMAL a_DOUBLE a_VARCHAR : Addr} {ub_ us_ uc_ vs_ vc_ ex : Int32} (hb0 : 0 ≤ ub_.toInt) (hb1 : ub_.toInt < 5) (hp1 : 0 ≤ us_.toInt) (hp2 : 0 ≤ uc_.toInt) (hp3 : 0 ≤ vs_.toInt) (hp4 : 0 ≤ vc_.toInt) (hD : own_D a_INTEGER a_BIGINT a_DECIMAL a_DOUBLE a_VARCHAR) (he : ex = if ub_ = (0 : Int32) then (1 : Int32) else if ub_ = (1 : Int32) then (1 : Int32) else if ub_ = (3 : Int32) then (1 : Int32) else if ub_ = (2 : Int32) then (if ((Int32.toInt64 vs_) - (Int32.toInt64 vc_)) < (10 : Int64) then (0 : Int32) else (1 : Int32)) else (0 : Int32)) :
    (own_fitINTEGER (own_ko ub_ a_INTEGER a_BIGINT a_DECIMAL a_DOUBLE a_VARCHAR) us_ uc_ vs_ vc_ a_INTEGER a_BIGINT a_DECIMAL a_DOUBLE a_VARCHAR) = ex := by
  obtain ⟨n01, n02, n03, n04, n12, n13, n14, n23, n24, n34⟩ := hD
  have w1 := own_sub32 hp1 hp2
  have w2 := own_sub32 hp3 hp4
  have w3 := own_sub64 hp1 hp2
  have w4 := own_sub64 hp3 hp4
  rw [he]; unfold own_fitINTEGER
  rcases own_enum5 hb0 hb1 with rfl | rfl | rfl | rfl | rfl
  · rw [show own_ko (0 : Int32) a_INTEGER a_BIGINT a_DECIMAL a_DOUBLE a_VARCHAR = a_INTEGER from by unfold own_ko; rw [if_pos (by decide)]]
    try simp only [Int32.lt_iff_toInt_lt, Int64.lt_iff_toInt_lt, w1, w2, w3, w4, show (10 : Int32).toInt = 10 from rfl, show (19 : Int32).toInt = 19 from rfl, show (10 : Int64).toInt = 10 from rfl, show (19 : Int64).toInt = 19 from rfl]
    try simp +decide [n01, Ne.symm n01, n02, Ne.symm n02, n03, Ne.symm n03, n04, Ne.symm n04, n12, Ne.symm n12, n13, Ne.symm n13, n14, Ne.symm n14, n23, Ne.symm n23, n24, Ne.symm n24, n34, Ne.symm n34]
  · rw [show own_ko (1 : Int32) a_INTEGER a_BIGINT a_DECIMAL a_DOUBLE a_VARCHAR = a_BIGINT from by unfold own_ko; rw [if_neg (by decide), if_pos (by decide)]]
    try simp only [Int32.lt_iff_toInt_lt, Int64.lt_iff_toInt_lt, w1, w2, w3, w4, show (10 : Int32).toInt = 10 from rfl, show (19 : Int32).toInt = 19 from rfl, show (10 : Int64).toInt = 10 from rfl, show (19 : Int64).toInt = 19 from rfl]
    try simp +decide [n01, Ne.symm n01, n02, Ne.symm n02, n03, Ne.symm n03, n04, Ne.symm n04, n12, Ne.symm n12, n13, Ne.symm n13, n14, Ne.symm n14, n23, Ne.symm n23, n24, Ne.symm n24, n34, Ne.symm n34]
  · rw [show own_ko (2 : Int32) a_INTEGER a_BIGINT a_DECIMAL a_DOUBLE a_VARCHAR = a_DECIMAL from by unfold own_ko; rw [if_neg (by decide), if_neg (by decide), if_pos (by decide)]]
    try simp only [Int32.lt_iff_toInt_lt, Int64.lt_iff_toInt_lt, w1, w2, w3, w4, show (10 : Int32).toInt = 10 from rfl, show (19 : Int32).toInt = 19 from rfl, show (10 : Int64).toInt = 10 from rfl, show (19 : Int64).toInt = 19 from rfl]
    try simp +decide [n01, Ne.symm n01, n02, Ne.symm n02, n03, Ne.symm n03, n04, Ne.symm n04, n12, Ne.symm n12, n13, Ne.symm n13, n14, Ne.symm n14, n23, Ne.symm n23, n24, Ne.symm n24, n34, Ne.symm n34]
  · rw [show own_ko (3 : Int32) a_INTEGER a_BIGINT a_DECIMAL a_DOUBLE a_VARCHAR = a_DOUBLE from by unfold own_ko; rw [if_neg (by decide), if_neg (by decide), if_neg (by decide), if_pos (by decide)]]
    try simp only [Int32.lt_iff_toInt_lt, Int64.lt_iff_toInt_lt, w1, w2, w3, w4, show (10 : Int32).toInt = 10 from rfl, show (19 : Int32).toInt = 19 from rfl, show (10 : Int64).toInt = 10 from rfl, show (19 : Int64).toInt = 19 from rfl]
    try simp +decide [n01, Ne.symm n01, n02, Ne.symm n02, n03, Ne.symm n03, n04, Ne.symm n04, n12, Ne.symm n12, n13, Ne.symm n13, n14, Ne.symm n14, n23, Ne.symm n23, n24, Ne.symm n24, n34, Ne.symm n34]
  · rw [show own_ko (4 : Int32) a_INTEGER a_BIGINT a_DECIMAL a_DOUBLE a_VARCHAR = a_VARCHAR from by unfold own_ko; rw [if_neg (by decide), if_neg (by decide), if_neg (by decide), if_neg (by decide)]]
    try simp only [Int32.lt_iff_toInt_lt, Int64.lt_iff_toInt_lt, w1, w2, w3, w4, show (10 : Int32).toInt = 10 from rfl, show (19 : Int32).toInt = 19 from rfl, show (10 : Int64).toInt = 10 from rfl, show (19 : Int64).toInt = 19 from rfl]
    try simp +decide [n01, Ne.symm n01, n02, Ne.symm n02, n03, Ne.symm n03, n04, Ne.symm n04, n12, Ne.symm n12, n13, Ne.symm n13, n14, Ne.symm n14, n23, Ne.symm n23, n24, Ne.symm n24, n34, Ne.symm n34]

theorem own_lawBIGINT {a_INTEGER a_BIGINT a_DECIMAL a_DOUBLE a_VARCHAR : Addr} {ub_ us_ uc_ vs_ vc_ ex : Int32} (hb0 : 0 ≤ ub_.toInt) (hb1 : ub_.toInt < 5) (hp1 : 0 ≤ us_.toInt) (hp2 : 0 ≤ uc_.toInt) (hp3 : 0 ≤ vs_.toInt) (hp4 : 0 ≤ vc_.toInt) (hD : own_D a_INTEGER a_BIGINT a_DECIMAL a_DOUBLE a_VARCHAR) (he : ex = if ub_ = (1 : Int32) then (1 : Int32) else if ub_ = (3 : Int32) then (1 : Int32) else if ub_ = (2 : Int32) then (if ((Int32.toInt64 vs_) - (Int32.toInt64 vc_)) < (19 : Int64) then (0 : Int32) else (1 : Int32)) else (0 : Int32)) :
    (own_fitBIGINT (own_ko ub_ a_INTEGER a_BIGINT a_DECIMAL a_DOUBLE a_VARCHAR) us_ uc_ vs_ vc_ a_INTEGER a_BIGINT a_DECIMAL a_DOUBLE a_VARCHAR) = ex := by
  obtain ⟨n01, n02, n03, n04, n12, n13, n14, n23, n24, n34⟩ := hD
  have w1 := own_sub32 hp1 hp2
  have w2 := own_sub32 hp3 hp4
  have w3 := own_sub64 hp1 hp2
  have w4 := own_sub64 hp3 hp4
  rw [he]; unfold own_fitBIGINT
  rcases own_enum5 hb0 hb1 with rfl | rfl | rfl | rfl | rfl
  · rw [show own_ko (0 : Int32) a_INTEGER a_BIGINT a_DECIMAL a_DOUBLE a_VARCHAR = a_INTEGER from by unfold own_ko; rw [if_pos (by decide)]]
    try simp only [Int32.lt_iff_toInt_lt, Int64.lt_iff_toInt_lt, w1, w2, w3, w4, show (10 : Int32).toInt = 10 from rfl, show (19 : Int32).toInt = 19 from rfl, show (10 : Int64).toInt = 10 from rfl, show (19 : Int64).toInt = 19 from rfl]
    try simp +decide [n01, Ne.symm n01, n02, Ne.symm n02, n03, Ne.symm n03, n04, Ne.symm n04, n12, Ne.symm n12, n13, Ne.symm n13, n14, Ne.symm n14, n23, Ne.symm n23, n24, Ne.symm n24, n34, Ne.symm n34]
  · rw [show own_ko (1 : Int32) a_INTEGER a_BIGINT a_DECIMAL a_DOUBLE a_VARCHAR = a_BIGINT from by unfold own_ko; rw [if_neg (by decide), if_pos (by decide)]]
    try simp only [Int32.lt_iff_toInt_lt, Int64.lt_iff_toInt_lt, w1, w2, w3, w4, show (10 : Int32).toInt = 10 from rfl, show (19 : Int32).toInt = 19 from rfl, show (10 : Int64).toInt = 10 from rfl, show (19 : Int64).toInt = 19 from rfl]
    try simp +decide [n01, Ne.symm n01, n02, Ne.symm n02, n03, Ne.symm n03, n04, Ne.symm n04, n12, Ne.symm n12, n13, Ne.symm n13, n14, Ne.symm n14, n23, Ne.symm n23, n24, Ne.symm n24, n34, Ne.symm n34]
  · rw [show own_ko (2 : Int32) a_INTEGER a_BIGINT a_DECIMAL a_DOUBLE a_VARCHAR = a_DECIMAL from by unfold own_ko; rw [if_neg (by decide), if_neg (by decide), if_pos (by decide)]]
    try simp only [Int32.lt_iff_toInt_lt, Int64.lt_iff_toInt_lt, w1, w2, w3, w4, show (10 : Int32).toInt = 10 from rfl, show (19 : Int32).toInt = 19 from rfl, show (10 : Int64).toInt = 10 from rfl, show (19 : Int64).toInt = 19 from rfl]
    try simp +decide [n01, Ne.symm n01, n02, Ne.symm n02, n03, Ne.symm n03, n04, Ne.symm n04, n12, Ne.symm n12, n13, Ne.symm n13, n14, Ne.symm n14, n23, Ne.symm n23, n24, Ne.symm n24, n34, Ne.symm n34]
  · rw [show own_ko (3 : Int32) a_INTEGER a_BIGINT a_DECIMAL a_DOUBLE a_VARCHAR = a_DOUBLE from by unfold own_ko; rw [if_neg (by decide), if_neg (by decide), if_neg (by decide), if_pos (by decide)]]
    try simp only [Int32.lt_iff_toInt_lt, Int64.lt_iff_toInt_lt, w1, w2, w3, w4, show (10 : Int32).toInt = 10 from rfl, show (19 : Int32).toInt = 19 from rfl, show (10 : Int64).toInt = 10 from rfl, show (19 : Int64).toInt = 19 from rfl]
    try simp +decide [n01, Ne.symm n01, n02, Ne.symm n02, n03, Ne.symm n03, n04, Ne.symm n04, n12, Ne.symm n12, n13, Ne.symm n13, n14, Ne.symm n14, n23, Ne.symm n23, n24, Ne.symm n24, n34, Ne.symm n34]
  · rw [show own_ko (4 : Int32) a_INTEGER a_BIGINT a_DECIMAL a_DOUBLE a_VARCHAR = a_VARCHAR from by unfold own_ko; rw [if_neg (by decide), if_neg (by decide), if_neg (by decide), if_neg (by decide)]]
    try simp only [Int32.lt_iff_toInt_lt, Int64.lt_iff_toInt_lt, w1, w2, w3, w4, show (10 : Int32).toInt = 10 from rfl, show (19 : Int32).toInt = 19 from rfl, show (10 : Int64).toInt = 10 from rfl, show (19 : Int64).toInt = 19 from rfl]
    try simp +decide [n01, Ne.symm n01, n02, Ne.symm n02, n03, Ne.symm n03, n04, Ne.symm n04, n12, Ne.symm n12, n13, Ne.symm n13, n14, Ne.symm n14, n23, Ne.symm n23, n24, Ne.symm n24, n34, Ne.symm n34]

theorem own_lawDECIMAL {a_INTEGER a_BIGINT a_DECIMAL a_DOUBLE a_VARCHAR : Addr} {ub_ us_ uc_ vs_ vc_ ex : Int32} (hb0 : 0 ≤ ub_.toInt) (hb1 : ub_.toInt < 5) (hp1 : 0 ≤ us_.toInt) (hp2 : 0 ≤ uc_.toInt) (hp3 : 0 ≤ vs_.toInt) (hp4 : 0 ≤ vc_.toInt) (hD : own_D a_INTEGER a_BIGINT a_DECIMAL a_DOUBLE a_VARCHAR) (he : ex = if ub_ = (3 : Int32) then (1 : Int32) else if ub_ = (2 : Int32) then (if vc_ < uc_ then (0 : Int32) else if ((Int32.toInt64 vs_) - (Int32.toInt64 vc_)) < ((Int32.toInt64 us_) - (Int32.toInt64 uc_)) then (0 : Int32) else (1 : Int32)) else (0 : Int32)) :
    (own_fitDECIMAL (own_ko ub_ a_INTEGER a_BIGINT a_DECIMAL a_DOUBLE a_VARCHAR) us_ uc_ vs_ vc_ a_INTEGER a_BIGINT a_DECIMAL a_DOUBLE a_VARCHAR) = ex := by
  obtain ⟨n01, n02, n03, n04, n12, n13, n14, n23, n24, n34⟩ := hD
  have w1 := own_sub32 hp1 hp2
  have w2 := own_sub32 hp3 hp4
  have w3 := own_sub64 hp1 hp2
  have w4 := own_sub64 hp3 hp4
  rw [he]; unfold own_fitDECIMAL
  rcases own_enum5 hb0 hb1 with rfl | rfl | rfl | rfl | rfl
  · rw [show own_ko (0 : Int32) a_INTEGER a_BIGINT a_DECIMAL a_DOUBLE a_VARCHAR = a_INTEGER from by unfold own_ko; rw [if_pos (by decide)]]
    try simp only [Int32.lt_iff_toInt_lt, Int64.lt_iff_toInt_lt, w1, w2, w3, w4, show (10 : Int32).toInt = 10 from rfl, show (19 : Int32).toInt = 19 from rfl, show (10 : Int64).toInt = 10 from rfl, show (19 : Int64).toInt = 19 from rfl]
    try simp +decide [n01, Ne.symm n01, n02, Ne.symm n02, n03, Ne.symm n03, n04, Ne.symm n04, n12, Ne.symm n12, n13, Ne.symm n13, n14, Ne.symm n14, n23, Ne.symm n23, n24, Ne.symm n24, n34, Ne.symm n34]
  · rw [show own_ko (1 : Int32) a_INTEGER a_BIGINT a_DECIMAL a_DOUBLE a_VARCHAR = a_BIGINT from by unfold own_ko; rw [if_neg (by decide), if_pos (by decide)]]
    try simp only [Int32.lt_iff_toInt_lt, Int64.lt_iff_toInt_lt, w1, w2, w3, w4, show (10 : Int32).toInt = 10 from rfl, show (19 : Int32).toInt = 19 from rfl, show (10 : Int64).toInt = 10 from rfl, show (19 : Int64).toInt = 19 from rfl]
    try simp +decide [n01, Ne.symm n01, n02, Ne.symm n02, n03, Ne.symm n03, n04, Ne.symm n04, n12, Ne.symm n12, n13, Ne.symm n13, n14, Ne.symm n14, n23, Ne.symm n23, n24, Ne.symm n24, n34, Ne.symm n34]
  · rw [show own_ko (2 : Int32) a_INTEGER a_BIGINT a_DECIMAL a_DOUBLE a_VARCHAR = a_DECIMAL from by unfold own_ko; rw [if_neg (by decide), if_neg (by decide), if_pos (by decide)]]
    try simp only [Int32.lt_iff_toInt_lt, Int64.lt_iff_toInt_lt, w1, w2, w3, w4, show (10 : Int32).toInt = 10 from rfl, show (19 : Int32).toInt = 19 from rfl, show (10 : Int64).toInt = 10 from rfl, show (19 : Int64).toInt = 19 from rfl]
    try simp +decide [n01, Ne.symm n01, n02, Ne.symm n02, n03, Ne.symm n03, n04, Ne.symm n04, n12, Ne.symm n12, n13, Ne.symm n13, n14, Ne.symm n14, n23, Ne.symm n23, n24, Ne.symm n24, n34, Ne.symm n34]
  · rw [show own_ko (3 : Int32) a_INTEGER a_BIGINT a_DECIMAL a_DOUBLE a_VARCHAR = a_DOUBLE from by unfold own_ko; rw [if_neg (by decide), if_neg (by decide), if_neg (by decide), if_pos (by decide)]]
    try simp only [Int32.lt_iff_toInt_lt, Int64.lt_iff_toInt_lt, w1, w2, w3, w4, show (10 : Int32).toInt = 10 from rfl, show (19 : Int32).toInt = 19 from rfl, show (10 : Int64).toInt = 10 from rfl, show (19 : Int64).toInt = 19 from rfl]
    try simp +decide [n01, Ne.symm n01, n02, Ne.symm n02, n03, Ne.symm n03, n04, Ne.symm n04, n12, Ne.symm n12, n13, Ne.symm n13, n14, Ne.symm n14, n23, Ne.symm n23, n24, Ne.symm n24, n34, Ne.symm n34]
  · rw [show own_ko (4 : Int32) a_INTEGER a_BIGINT a_DECIMAL a_DOUBLE a_VARCHAR = a_VARCHAR from by unfold own_ko; rw [if_neg (by decide), if_neg (by decide), if_neg (by decide), if_neg (by decide)]]
    try simp only [Int32.lt_iff_toInt_lt, Int64.lt_iff_toInt_lt, w1, w2, w3, w4, show (10 : Int32).toInt = 10 from rfl, show (19 : Int32).toInt = 19 from rfl, show (10 : Int64).toInt = 10 from rfl, show (19 : Int64).toInt = 19 from rfl]
    try simp +decide [n01, Ne.symm n01, n02, Ne.symm n02, n03, Ne.symm n03, n04, Ne.symm n04, n12, Ne.symm n12, n13, Ne.symm n13, n14, Ne.symm n14, n23, Ne.symm n23, n24, Ne.symm n24, n34, Ne.symm n34]

theorem own_lawDOUBLE {a_INTEGER a_BIGINT a_DECIMAL a_DOUBLE a_VARCHAR : Addr} {ub_ us_ uc_ vs_ vc_ ex : Int32} (hb0 : 0 ≤ ub_.toInt) (hb1 : ub_.toInt < 5) (hp1 : 0 ≤ us_.toInt) (hp2 : 0 ≤ uc_.toInt) (hp3 : 0 ≤ vs_.toInt) (hp4 : 0 ≤ vc_.toInt) (hD : own_D a_INTEGER a_BIGINT a_DECIMAL a_DOUBLE a_VARCHAR) (he : ex = if ub_ = (3 : Int32) then (1 : Int32) else (0 : Int32)) :
    (own_fitDOUBLE (own_ko ub_ a_INTEGER a_BIGINT a_DECIMAL a_DOUBLE a_VARCHAR) us_ uc_ vs_ vc_ a_INTEGER a_BIGINT a_DECIMAL a_DOUBLE a_VARCHAR) = ex := by
  obtain ⟨n01, n02, n03, n04, n12, n13, n14, n23, n24, n34⟩ := hD
  have w1 := own_sub32 hp1 hp2
  have w2 := own_sub32 hp3 hp4
  have w3 := own_sub64 hp1 hp2
  have w4 := own_sub64 hp3 hp4
  rw [he]; unfold own_fitDOUBLE
  rcases own_enum5 hb0 hb1 with rfl | rfl | rfl | rfl | rfl
  · rw [show own_ko (0 : Int32) a_INTEGER a_BIGINT a_DECIMAL a_DOUBLE a_VARCHAR = a_INTEGER from by unfold own_ko; rw [if_pos (by decide)]]
    try simp only [Int32.lt_iff_toInt_lt, Int64.lt_iff_toInt_lt, w1, w2, w3, w4, show (10 : Int32).toInt = 10 from rfl, show (19 : Int32).toInt = 19 from rfl, show (10 : Int64).toInt = 10 from rfl, show (19 : Int64).toInt = 19 from rfl]
    try simp +decide [n01, Ne.symm n01, n02, Ne.symm n02, n03, Ne.symm n03, n04, Ne.symm n04, n12, Ne.symm n12, n13, Ne.symm n13, n14, Ne.symm n14, n23, Ne.symm n23, n24, Ne.symm n24, n34, Ne.symm n34]
  · rw [show own_ko (1 : Int32) a_INTEGER a_BIGINT a_DECIMAL a_DOUBLE a_VARCHAR = a_BIGINT from by unfold own_ko; rw [if_neg (by decide), if_pos (by decide)]]
    try simp only [Int32.lt_iff_toInt_lt, Int64.lt_iff_toInt_lt, w1, w2, w3, w4, show (10 : Int32).toInt = 10 from rfl, show (19 : Int32).toInt = 19 from rfl, show (10 : Int64).toInt = 10 from rfl, show (19 : Int64).toInt = 19 from rfl]
    try simp +decide [n01, Ne.symm n01, n02, Ne.symm n02, n03, Ne.symm n03, n04, Ne.symm n04, n12, Ne.symm n12, n13, Ne.symm n13, n14, Ne.symm n14, n23, Ne.symm n23, n24, Ne.symm n24, n34, Ne.symm n34]
  · rw [show own_ko (2 : Int32) a_INTEGER a_BIGINT a_DECIMAL a_DOUBLE a_VARCHAR = a_DECIMAL from by unfold own_ko; rw [if_neg (by decide), if_neg (by decide), if_pos (by decide)]]
    try simp only [Int32.lt_iff_toInt_lt, Int64.lt_iff_toInt_lt, w1, w2, w3, w4, show (10 : Int32).toInt = 10 from rfl, show (19 : Int32).toInt = 19 from rfl, show (10 : Int64).toInt = 10 from rfl, show (19 : Int64).toInt = 19 from rfl]
    try simp +decide [n01, Ne.symm n01, n02, Ne.symm n02, n03, Ne.symm n03, n04, Ne.symm n04, n12, Ne.symm n12, n13, Ne.symm n13, n14, Ne.symm n14, n23, Ne.symm n23, n24, Ne.symm n24, n34, Ne.symm n34]
  · rw [show own_ko (3 : Int32) a_INTEGER a_BIGINT a_DECIMAL a_DOUBLE a_VARCHAR = a_DOUBLE from by unfold own_ko; rw [if_neg (by decide), if_neg (by decide), if_neg (by decide), if_pos (by decide)]]
    try simp only [Int32.lt_iff_toInt_lt, Int64.lt_iff_toInt_lt, w1, w2, w3, w4, show (10 : Int32).toInt = 10 from rfl, show (19 : Int32).toInt = 19 from rfl, show (10 : Int64).toInt = 10 from rfl, show (19 : Int64).toInt = 19 from rfl]
    try simp +decide [n01, Ne.symm n01, n02, Ne.symm n02, n03, Ne.symm n03, n04, Ne.symm n04, n12, Ne.symm n12, n13, Ne.symm n13, n14, Ne.symm n14, n23, Ne.symm n23, n24, Ne.symm n24, n34, Ne.symm n34]
  · rw [show own_ko (4 : Int32) a_INTEGER a_BIGINT a_DECIMAL a_DOUBLE a_VARCHAR = a_VARCHAR from by unfold own_ko; rw [if_neg (by decide), if_neg (by decide), if_neg (by decide), if_neg (by decide)]]
    try simp only [Int32.lt_iff_toInt_lt, Int64.lt_iff_toInt_lt, w1, w2, w3, w4, show (10 : Int32).toInt = 10 from rfl, show (19 : Int32).toInt = 19 from rfl, show (10 : Int64).toInt = 10 from rfl, show (19 : Int64).toInt = 19 from rfl]
    try simp +decide [n01, Ne.symm n01, n02, Ne.symm n02, n03, Ne.symm n03, n04, Ne.symm n04, n12, Ne.symm n12, n13, Ne.symm n13, n14, Ne.symm n14, n23, Ne.symm n23, n24, Ne.symm n24, n34, Ne.symm n34]

theorem own_lawVARCHAR {a_INTEGER a_BIGINT a_DECIMAL a_DOUBLE a_VARCHAR : Addr} {ub_ us_ uc_ vs_ vc_ ex : Int32} (hb0 : 0 ≤ ub_.toInt) (hb1 : ub_.toInt < 5) (hp1 : 0 ≤ us_.toInt) (hp2 : 0 ≤ uc_.toInt) (hp3 : 0 ≤ vs_.toInt) (hp4 : 0 ≤ vc_.toInt) (hD : own_D a_INTEGER a_BIGINT a_DECIMAL a_DOUBLE a_VARCHAR) (he : ex = if ub_ = (4 : Int32) then (if vs_ < us_ then (0 : Int32) else (1 : Int32)) else (0 : Int32)) :
    (own_fitVARCHAR (own_ko ub_ a_INTEGER a_BIGINT a_DECIMAL a_DOUBLE a_VARCHAR) us_ uc_ vs_ vc_ a_INTEGER a_BIGINT a_DECIMAL a_DOUBLE a_VARCHAR) = ex := by
  obtain ⟨n01, n02, n03, n04, n12, n13, n14, n23, n24, n34⟩ := hD
  have w1 := own_sub32 hp1 hp2
  have w2 := own_sub32 hp3 hp4
  have w3 := own_sub64 hp1 hp2
  have w4 := own_sub64 hp3 hp4
  rw [he]; unfold own_fitVARCHAR
  rcases own_enum5 hb0 hb1 with rfl | rfl | rfl | rfl | rfl
  · rw [show own_ko (0 : Int32) a_INTEGER a_BIGINT a_DECIMAL a_DOUBLE a_VARCHAR = a_INTEGER from by unfold own_ko; rw [if_pos (by decide)]]
    try simp only [Int32.lt_iff_toInt_lt, Int64.lt_iff_toInt_lt, w1, w2, w3, w4, show (10 : Int32).toInt = 10 from rfl, show (19 : Int32).toInt = 19 from rfl, show (10 : Int64).toInt = 10 from rfl, show (19 : Int64).toInt = 19 from rfl]
    try simp +decide [n01, Ne.symm n01, n02, Ne.symm n02, n03, Ne.symm n03, n04, Ne.symm n04, n12, Ne.symm n12, n13, Ne.symm n13, n14, Ne.symm n14, n23, Ne.symm n23, n24, Ne.symm n24, n34, Ne.symm n34]
  · rw [show own_ko (1 : Int32) a_INTEGER a_BIGINT a_DECIMAL a_DOUBLE a_VARCHAR = a_BIGINT from by unfold own_ko; rw [if_neg (by decide), if_pos (by decide)]]
    try simp only [Int32.lt_iff_toInt_lt, Int64.lt_iff_toInt_lt, w1, w2, w3, w4, show (10 : Int32).toInt = 10 from rfl, show (19 : Int32).toInt = 19 from rfl, show (10 : Int64).toInt = 10 from rfl, show (19 : Int64).toInt = 19 from rfl]
    try simp +decide [n01, Ne.symm n01, n02, Ne.symm n02, n03, Ne.symm n03, n04, Ne.symm n04, n12, Ne.symm n12, n13, Ne.symm n13, n14, Ne.symm n14, n23, Ne.symm n23, n24, Ne.symm n24, n34, Ne.symm n34]
  · rw [show own_ko (2 : Int32) a_INTEGER a_BIGINT a_DECIMAL a_DOUBLE a_VARCHAR = a_DECIMAL from by unfold own_ko; rw [if_neg (by decide), if_neg (by decide), if_pos (by decide)]]
    try simp only [Int32.lt_iff_toInt_lt, Int64.lt_iff_toInt_lt, w1, w2, w3, w4, show (10 : Int32).toInt = 10 from rfl, show (19 : Int32).toInt = 19 from rfl, show (10 : Int64).toInt = 10 from rfl, show (19 : Int64).toInt = 19 from rfl]
    try simp +decide [n01, Ne.symm n01, n02, Ne.symm n02, n03, Ne.symm n03, n04, Ne.symm n04, n12, Ne.symm n12, n13, Ne.symm n13, n14, Ne.symm n14, n23, Ne.symm n23, n24, Ne.symm n24, n34, Ne.symm n34]
  · rw [show own_ko (3 : Int32) a_INTEGER a_BIGINT a_DECIMAL a_DOUBLE a_VARCHAR = a_DOUBLE from by unfold own_ko; rw [if_neg (by decide), if_neg (by decide), if_neg (by decide), if_pos (by decide)]]
    try simp only [Int32.lt_iff_toInt_lt, Int64.lt_iff_toInt_lt, w1, w2, w3, w4, show (10 : Int32).toInt = 10 from rfl, show (19 : Int32).toInt = 19 from rfl, show (10 : Int64).toInt = 10 from rfl, show (19 : Int64).toInt = 19 from rfl]
    try simp +decide [n01, Ne.symm n01, n02, Ne.symm n02, n03, Ne.symm n03, n04, Ne.symm n04, n12, Ne.symm n12, n13, Ne.symm n13, n14, Ne.symm n14, n23, Ne.symm n23, n24, Ne.symm n24, n34, Ne.symm n34]
  · rw [show own_ko (4 : Int32) a_INTEGER a_BIGINT a_DECIMAL a_DOUBLE a_VARCHAR = a_VARCHAR from by unfold own_ko; rw [if_neg (by decide), if_neg (by decide), if_neg (by decide), if_neg (by decide)]]
    try simp only [Int32.lt_iff_toInt_lt, Int64.lt_iff_toInt_lt, w1, w2, w3, w4, show (10 : Int32).toInt = 10 from rfl, show (19 : Int32).toInt = 19 from rfl, show (10 : Int64).toInt = 10 from rfl, show (19 : Int64).toInt = 19 from rfl]
    try simp +decide [n01, Ne.symm n01, n02, Ne.symm n02, n03, Ne.symm n03, n04, Ne.symm n04, n12, Ne.symm n12, n13, Ne.symm n13, n14, Ne.symm n14, n23, Ne.symm n23, n24, Ne.symm n24, n34, Ne.symm n34]

def own_Q0 (n0 : Nat) (v : Option Value) (h : Heap) (L : List Loc) : Prop := v = some (.int 1) ∧ Fr n0 L

theorem pd_0__I_Lcom_example_planwright_planwright_cache_LiteralType_Kind_ : parseMethodDescriptor "(I)Lcom/example/planwright/planwright/cache/LiteralType$Kind;" = some ⟨[.int], some (.object "com/example/planwright/planwright/cache/LiteralType$Kind")⟩ := by decide +kernel
theorem pd_0__Lcom_example_planwright_planwright_cache_LiteralType_Kind_II_V : parseMethodDescriptor "(Lcom/example/planwright/planwright/cache/LiteralType$Kind;II)V" = some ⟨[(.object "com/example/planwright/planwright/cache/LiteralType$Kind"), .int, .int], none⟩ := by decide +kernel
theorem pd_0__Lcom_example_planwright_planwright_cache_LiteralType__Z : parseMethodDescriptor "(Lcom/example/planwright/planwright/cache/LiteralType;)Z" = some ⟨[(.object "com/example/planwright/planwright/cache/LiteralType")], some .boolean⟩ := by decide +kernel
theorem pn_rm0 : plainFor (⟨"com/example/planwright/planwright/cache/LiteralTypeFitsPinLaw", "law", "(IIIIII)Z"⟩ : MethodName) = true := by first | exact plainFor_of_name (by first | (simp [plainName, overriddenIn]; done) | decide +kernel) | exact Jvm.Free.JP.mathPlain rfl (by decide +kernel) | decide +kernel
theorem ef_rm0 (m : MethodId) (x0 : Int32) (x1 : Int32) (x2 : Int32) (x3 : Int32) (x4 : Int32) (x5 : Int32) : entryFrame m #[(.int x0), (.int x1), (.int x2), (.int x3), (.int x4), (.int x5)] maxLocals = mkF m 0 #[.val (.int x0), .val (.int x1), .val (.int x2), .val (.int x3), .val (.int x4), .val (.int x5), .unset, .unset, .unset, .unset, .unset, .unset, .unset, .unset, .unset, .unset, .unset, .unset, .unset] [] := by first | (simp [entryFrame, mkF, argsToLocals, Value.category, maxLocals]; done) | rfl
set_option maxRecDepth 65536 in
set_option maxHeartbeats 40000000 in
theorem rm0 (l : Launch) (Z : State) (a0 : Array Value) (hw : ∀ d ∈ tables_1, d.before a0 Z = true) (ws : List Jvm.Cond) (a_INTEGER a_BIGINT a_VARCHAR a_DECIMAL a_DOUBLE : Addr) (ucs : Int32) (ua ub uc ud ue uf : Int32) (h0 : Heap) (n0 : Nat) (Z0 : n0 ≤ h0.size) (O0 : Old Z n0 h0) (HW : own_W Z Z.heap a_INTEGER a_BIGINT a_VARCHAR a_DECIMAL a_DOUBLE ucs) :
    MetFree l x (head1 (Jvm.Cond.code x code maxLocals ret :: ws) room_1) (fun a U => a = #[(.int ua), (.int ub), (.int uc), (.int ud), (.int ue), (.int uf)] ∧ Z.Warmed39 U.vm ∧ U.heap = h0 ∧ CHv Z own_EL U.vm h0) (fun _ _ _ _ _ => True) (fun _ U o U' => ∃ v L, o = .returned v ∧ (own_Q0 n0) v U'.heap L ∧ ReturnedEndW U o U' L 16 2176) := by
  refine MetFree.of_bodySF pn_rm0 hisR ?_
  intro p e s m args below meth c s₁ Bd hml0 hP hK
  obtain ⟨rfl, hZ, hh, CH0⟩ := hP
  have hx := Bd.exec
  have hby := Bd.bytes
  have hml : c.maxLocals = 19 := hml0
  have hown : s.vm.findClass "com/example/planwright/planwright/cache/LiteralTypeFitsPinLaw" = some m.cls := findClass_of_methodNamed Bd.named
  have hnm := (name_of_methodNamed Bd.named Bd.method).1
  have hrt := Bd.returns
  have hlk := Bd.notSynchronized
  have X0 : Stand p l e room_1 s m #[(.int ua), (.int ub), (.int uc), (.int ud), (.int ue), (.int uf)] below meth c s₁ [] 0 0 := Stand.of_body Bd
  have e0 : s₁.heap = h0 := by rw [← hh, Bd.state]; rfl
  have N0 := Fr.nil n0
  have K0 := Keep.refl h0 []
  have HW' := HW
  obtain ⟨S_INTEGER, E_INTEGER, S_BIGINT, E_BIGINT, S_VARCHAR, E_VARCHAR, S_DECIMAL, E_DECIMAL, S_DOUBLE, E_DOUBLE, F_INTEGER_ordinal, F_BIGINT_ordinal, F_VARCHAR_ordinal, F_DECIMAL_ordinal, F_DOUBLE_ordinal, S_CS, H_CS⟩ := HW'
  have own_wS : ∀ a ∈ Bundle.stringAtoms, a.before a0 Z = true := by
    intro d hd
    simp only [Bundle.stringAtoms, List.mem_cons, List.not_mem_nil, or_false] at hd
    rcases hd with rfl | rfl | rfl | rfl | rfl | rfl | rfl
    · exact (hw _ (List.mem_of_getElem? (i := 61) rfl))
    · exact (hw _ (List.mem_of_getElem? (i := 62) rfl))
    · exact (hw _ (List.mem_of_getElem? (i := 63) rfl))
    · exact (hw _ (List.mem_of_getElem? (i := 64) rfl))
    · exact (hw _ (List.mem_of_getElem? (i := 65) rfl))
    · exact (hw _ (List.mem_of_getElem? (i := 66) rfl))
    · exact (hw _ (List.mem_of_getElem? (i := 67) rfl))
  have own_hEL : EW Z a0 own_EL := EW.cons (hw _ (List.mem_of_getElem? (i := 60) rfl)) (by decide) (EW.cons (hw _ (List.mem_of_getElem? (i := 82) rfl)) (by decide) EW.nil)
  refine own_doneL (B := s₁.setTop (mkF m 0 #[.val (.int ua), .val (.int ub), .val (.int uc), .val (.int ud), .val (.int ue), .val (.int uf), .unset, .unset, .unset, .unset, .unset, .unset, .unset, .unset, .unset, .unset, .unset, .unset, .unset] [])) (fun t k => castTop (ef_rm0 m ua ub uc ud ue uf) k) ?_
  refine own_by (B := s₁.setTop (mkF m 1 #[.val (.int ua), .val (.int ub), .val (.int uc), .val (.int ud), .val (.int ue), .val (.int uf), .unset, .unset, .unset, .unset, .unset, .unset, .unset, .unset, .unset, .unset, .unset, .unset, .unset] [(.int ua)])) (fun _ k => XS.iloadN X0.here hx rfl (hb hby at_0) rfl  k) ?_
  refine own_by (B := s₁.setTop (mkF m 3 #[.val (.int ua), .val (.int ub), .val (.int uc), .val (.int ud), .val (.int ue), .val (.int uf), .unset, .unset, .unset, .unset, .unset, .unset, .unset, .unset, .unset, .unset, .unset, .unset, .unset] [(.int (2147483647 : Int32)), (.int ua)])) (fun _ k => X0.ldcI (g := (mkF m 1 #[.val (.int ua), .val (.int ub), .val (.int uc), .val (.int ud), .val (.int ue), .val (.int uf), .unset, .unset, .unset, .unset, .unset, .unset, .unset, .unset, .unset, .unset, .unset, .unset, .unset] [(.int ua)])) hx hown (mvT hZ (hw _ (List.mem_of_getElem? (i := 0) rfl))) rfl (hb hby at_1) k) ?_
  refine own_by (B := s₁.setTop (mkF m 4 #[.val (.int ua), .val (.int ub), .val (.int uc), .val (.int ud), .val (.int ue), .val (.int uf), .unset, .unset, .unset, .unset, .unset, .unset, .unset, .unset, .unset, .unset, .unset, .unset, .unset] [(.int (ua &&& (2147483647 : Int32)))])) (fun _ k => XS.iand X0.here hx rfl (hb hby at_3) rfl k) ?_
  refine own_by (B := s₁.setTop (mkF m 5 #[.val (.int ua), .val (.int ub), .val (.int uc), .val (.int ud), .val (.int ue), .val (.int uf), .unset, .unset, .unset, .unset, .unset, .unset, .unset, .unset, .unset, .unset, .unset, .unset, .unset] [(.int (5 : Int32)), (.int (ua &&& (2147483647 : Int32)))])) (fun _ k => XS.iconst X0.here hx rfl (hb hby at_4) k) ?_
  refine own_by (B := s₁.setTop (mkF m 6 #[.val (.int ua), .val (.int ub), .val (.int uc), .val (.int ud), .val (.int ue), .val (.int uf), .unset, .unset, .unset, .unset, .unset, .unset, .unset, .unset, .unset, .unset, .unset, .unset, .unset] [(.int ((ua &&& (2147483647 : Int32)) % (5 : Int32)))])) (fun _ k => iremM (g := (mkF m 5 #[.val (.int ua), .val (.int ub), .val (.int uc), .val (.int ud), .val (.int ue), .val (.int uf), .unset, .unset, .unset, .unset, .unset, .unset, .unset, .unset, .unset, .unset, .unset, .unset, .unset] [(.int (5 : Int32)), (.int (ua &&& (2147483647 : Int32)))])) X0 hx rfl (hb hby at_5) rfl (by decide) k) ?_
  refine own_by (B := s₁.setTop (mkF m 8 #[.val (.int ua), .val (.int ub), .val (.int uc), .val (.int ud), .val (.int ue), .val (.int uf), .val (.int ((ua &&& (2147483647 : Int32)) % (5 : Int32))), .unset, .unset, .unset, .unset, .unset, .unset, .unset, .unset, .unset, .unset, .unset, .unset] [])) (fun _ k => XS.istore X0.here hx rfl (hb hby at_6) rfl (l' := #[.val (.int ua), .val (.int ub), .val (.int uc), .val (.int ud), .val (.int ue), .val (.int uf), .val (.int ((ua &&& (2147483647 : Int32)) % (5 : Int32))), .unset, .unset, .unset, .unset, .unset, .unset, .unset, .unset, .unset, .unset, .unset, .unset]) rfl k) ?_
  refine own_by (B := s₁.setTop (mkF m 9 #[.val (.int ua), .val (.int ub), .val (.int uc), .val (.int ud), .val (.int ue), .val (.int uf), .val (.int ((ua &&& (2147483647 : Int32)) % (5 : Int32))), .unset, .unset, .unset, .unset, .unset, .unset, .unset, .unset, .unset, .unset, .unset, .unset] [(.int ud)])) (fun _ k => XS.iloadN X0.here hx rfl (hb hby at_8) rfl  k) ?_
  refine own_by (B := s₁.setTop (mkF m 11 #[.val (.int ua), .val (.int ub), .val (.int uc), .val (.int ud), .val (.int ue), .val (.int uf), .val (.int ((ua &&& (2147483647 : Int32)) % (5 : Int32))), .unset, .unset, .unset, .unset, .unset, .unset, .unset, .unset, .unset, .unset, .unset, .unset] [(.int (2147483647 : Int32)), (.int ud)])) (fun _ k => X0.ldcI (g := (mkF m 9 #[.val (.int ua), .val (.int ub), .val (.int uc), .val (.int ud), .val (.int ue), .val (.int uf), .val (.int ((ua &&& (2147483647 : Int32)) % (5 : Int32))), .unset, .unset, .unset, .unset, .unset, .unset, .unset, .unset, .unset, .unset, .unset, .unset] [(.int ud)])) hx hown (mvT hZ (hw _ (List.mem_of_getElem? (i := 0) rfl))) rfl (hb hby at_9) k) ?_
  refine own_by (B := s₁.setTop (mkF m 12 #[.val (.int ua), .val (.int ub), .val (.int uc), .val (.int ud), .val (.int ue), .val (.int uf), .val (.int ((ua &&& (2147483647 : Int32)) % (5 : Int32))), .unset, .unset, .unset, .unset, .unset, .unset, .unset, .unset, .unset, .unset, .unset, .unset] [(.int (ud &&& (2147483647 : Int32)))])) (fun _ k => XS.iand X0.here hx rfl (hb hby at_11) rfl k) ?_
  refine own_by (B := s₁.setTop (mkF m 13 #[.val (.int ua), .val (.int ub), .val (.int uc), .val (.int ud), .val (.int ue), .val (.int uf), .val (.int ((ua &&& (2147483647 : Int32)) % (5 : Int32))), .unset, .unset, .unset, .unset, .unset, .unset, .unset, .unset, .unset, .unset, .unset, .unset] [(.int (5 : Int32)), (.int (ud &&& (2147483647 : Int32)))])) (fun _ k => XS.iconst X0.here hx rfl (hb hby at_12) k) ?_
  refine own_by (B := s₁.setTop (mkF m 14 #[.val (.int ua), .val (.int ub), .val (.int uc), .val (.int ud), .val (.int ue), .val (.int uf), .val (.int ((ua &&& (2147483647 : Int32)) % (5 : Int32))), .unset, .unset, .unset, .unset, .unset, .unset, .unset, .unset, .unset, .unset, .unset, .unset] [(.int ((ud &&& (2147483647 : Int32)) % (5 : Int32)))])) (fun _ k => iremM (g := (mkF m 13 #[.val (.int ua), .val (.int ub), .val (.int uc), .val (.int ud), .val (.int ue), .val (.int uf), .val (.int ((ua &&& (2147483647 : Int32)) % (5 : Int32))), .unset, .unset, .unset, .unset, .unset, .unset, .unset, .unset, .unset, .unset, .unset, .unset] [(.int (5 : Int32)), (.int (ud &&& (2147483647 : Int32)))])) X0 hx rfl (hb hby at_13) rfl (by decide) k) ?_
  refine own_by (B := s₁.setTop (mkF m 16 #[.val (.int ua), .val (.int ub), .val (.int uc), .val (.int ud), .val (.int ue), .val (.int uf), .val (.int ((ua &&& (2147483647 : Int32)) % (5 : Int32))), .val (.int ((ud &&& (2147483647 : Int32)) % (5 : Int32))), .unset, .unset, .unset, .unset, .unset, .unset, .unset, .unset, .unset, .unset, .unset] [])) (fun _ k => XS.istore X0.here hx rfl (hb hby at_14) rfl (l' := #[.val (.int ua), .val (.int ub), .val (.int uc), .val (.int ud), .val (.int ue), .val (.int uf), .val (.int ((ua &&& (2147483647 : Int32)) % (5 : Int32))), .val (.int ((ud &&& (2147483647 : Int32)) % (5 : Int32))), .unset, .unset, .unset, .unset, .unset, .unset, .unset, .unset, .unset, .unset, .unset]) rfl k) ?_
  refine own_by (B := s₁.setTop (mkF m 17 #[.val (.int ua), .val (.int ub), .val (.int uc), .val (.int ud), .val (.int ue), .val (.int uf), .val (.int ((ua &&& (2147483647 : Int32)) % (5 : Int32))), .val (.int ((ud &&& (2147483647 : Int32)) % (5 : Int32))), .unset, .unset, .unset, .unset, .unset, .unset, .unset, .unset, .unset, .unset, .unset] [(.int ub)])) (fun _ k => XS.iloadN X0.here hx rfl (hb hby at_16) rfl  k) ?_
  refine own_by (B := s₁.setTop (mkF m 19 #[.val (.int ua), .val (.int ub), .val (.int uc), .val (.int ud), .val (.int ue), .val (.int uf), .val (.int ((ua &&& (2147483647 : Int32)) % (5 : Int32))), .val (.int ((ud &&& (2147483647 : Int32)) % (5 : Int32))), .unset, .unset, .unset, .unset, .unset, .unset, .unset, .unset, .unset, .unset, .unset] [(.int (2147483647 : Int32)), (.int ub)])) (fun _ k => X0.ldcI (g := (mkF m 17 #[.val (.int ua), .val (.int ub), .val (.int uc), .val (.int ud), .val (.int ue), .val (.int uf), .val (.int ((ua &&& (2147483647 : Int32)) % (5 : Int32))), .val (.int ((ud &&& (2147483647 : Int32)) % (5 : Int32))), .unset, .unset, .unset, .unset, .unset, .unset, .unset, .unset, .unset, .unset, .unset] [(.int ub)])) hx hown (mvT hZ (hw _ (List.mem_of_getElem? (i := 0) rfl))) rfl (hb hby at_17) k) ?_
  refine own_by (B := s₁.setTop (mkF m 20 #[.val (.int ua), .val (.int ub), .val (.int uc), .val (.int ud), .val (.int ue), .val (.int uf), .val (.int ((ua &&& (2147483647 : Int32)) % (5 : Int32))), .val (.int ((ud &&& (2147483647 : Int32)) % (5 : Int32))), .unset, .unset, .unset, .unset, .unset, .unset, .unset, .unset, .unset, .unset, .unset] [(.int (ub &&& (2147483647 : Int32)))])) (fun _ k => XS.iand X0.here hx rfl (hb hby at_19) rfl k) ?_
  refine own_by (B := s₁.setTop (mkF m 22 #[.val (.int ua), .val (.int ub), .val (.int uc), .val (.int ud), .val (.int ue), .val (.int uf), .val (.int ((ua &&& (2147483647 : Int32)) % (5 : Int32))), .val (.int ((ud &&& (2147483647 : Int32)) % (5 : Int32))), .val (.int (ub &&& (2147483647 : Int32))), .unset, .unset, .unset, .unset, .unset, .unset, .unset, .unset, .unset, .unset] [])) (fun _ k => XS.istore X0.here hx rfl (hb hby at_20) rfl (l' := #[.val (.int ua), .val (.int ub), .val (.int uc), .val (.int ud), .val (.int ue), .val (.int uf), .val (.int ((ua &&& (2147483647 : Int32)) % (5 : Int32))), .val (.int ((ud &&& (2147483647 : Int32)) % (5 : Int32))), .val (.int (ub &&& (2147483647 : Int32))), .unset, .unset, .unset, .unset, .unset, .unset, .unset, .unset, .unset, .unset]) rfl k) ?_
  refine own_by (B := s₁.setTop (mkF m 23 #[.val (.int ua), .val (.int ub), .val (.int uc), .val (.int ud), .val (.int ue), .val (.int uf), .val (.int ((ua &&& (2147483647 : Int32)) % (5 : Int32))), .val (.int ((ud &&& (2147483647 : Int32)) % (5 : Int32))), .val (.int (ub &&& (2147483647 : Int32))), .unset, .unset, .unset, .unset, .unset, .unset, .unset, .unset, .unset, .unset] [(.int uc)])) (fun _ k => XS.iloadN X0.here hx rfl (hb hby at_22) rfl  k) ?_
  refine own_by (B := s₁.setTop (mkF m 25 #[.val (.int ua), .val (.int ub), .val (.int uc), .val (.int ud), .val (.int ue), .val (.int uf), .val (.int ((ua &&& (2147483647 : Int32)) % (5 : Int32))), .val (.int ((ud &&& (2147483647 : Int32)) % (5 : Int32))), .val (.int (ub &&& (2147483647 : Int32))), .unset, .unset, .unset, .unset, .unset, .unset, .unset, .unset, .unset, .unset] [(.int (2147483647 : Int32)), (.int uc)])) (fun _ k => X0.ldcI (g := (mkF m 23 #[.val (.int ua), .val (.int ub), .val (.int uc), .val (.int ud), .val (.int ue), .val (.int uf), .val (.int ((ua &&& (2147483647 : Int32)) % (5 : Int32))), .val (.int ((ud &&& (2147483647 : Int32)) % (5 : Int32))), .val (.int (ub &&& (2147483647 : Int32))), .unset, .unset, .unset, .unset, .unset, .unset, .unset, .unset, .unset, .unset] [(.int uc)])) hx hown (mvT hZ (hw _ (List.mem_of_getElem? (i := 0) rfl))) rfl (hb hby at_23) k) ?_
  refine own_by (B := s₁.setTop (mkF m 26 #[.val (.int ua), .val (.int ub), .val (.int uc), .val (.int ud), .val (.int ue), .val (.int uf), .val (.int ((ua &&& (2147483647 : Int32)) % (5 : Int32))), .val (.int ((ud &&& (2147483647 : Int32)) % (5 : Int32))), .val (.int (ub &&& (2147483647 : Int32))), .unset, .unset, .unset, .unset, .unset, .unset, .unset, .unset, .unset, .unset] [(.int (uc &&& (2147483647 : Int32)))])) (fun _ k => XS.iand X0.here hx rfl (hb hby at_25) rfl k) ?_
  refine own_by (B := s₁.setTop (mkF m 28 #[.val (.int ua), .val (.int ub), .val (.int uc), .val (.int ud), .val (.int ue), .val (.int uf), .val (.int ((ua &&& (2147483647 : Int32)) % (5 : Int32))), .val (.int ((ud &&& (2147483647 : Int32)) % (5 : Int32))), .val (.int (ub &&& (2147483647 : Int32))), .val (.int (uc &&& (2147483647 : Int32))), .unset, .unset, .unset, .unset, .unset, .unset, .unset, .unset, .unset] [])) (fun _ k => XS.istore X0.here hx rfl (hb hby at_26) rfl (l' := #[.val (.int ua), .val (.int ub), .val (.int uc), .val (.int ud), .val (.int ue), .val (.int uf), .val (.int ((ua &&& (2147483647 : Int32)) % (5 : Int32))), .val (.int ((ud &&& (2147483647 : Int32)) % (5 : Int32))), .val (.int (ub &&& (2147483647 : Int32))), .val (.int (uc &&& (2147483647 : Int32))), .unset, .unset, .unset, .unset, .unset, .unset, .unset, .unset, .unset]) rfl k) ?_
  refine own_by (B := s₁.setTop (mkF m 30 #[.val (.int ua), .val (.int ub), .val (.int uc), .val (.int ud), .val (.int ue), .val (.int uf), .val (.int ((ua &&& (2147483647 : Int32)) % (5 : Int32))), .val (.int ((ud &&& (2147483647 : Int32)) % (5 : Int32))), .val (.int (ub &&& (2147483647 : Int32))), .val (.int (uc &&& (2147483647 : Int32))), .unset, .unset, .unset, .unset, .unset, .unset, .unset, .unset, .unset] [(.int ue)])) (fun _ k => XS.iload X0.here hx rfl (hb hby at_28) rfl  k) ?_
  refine own_by (B := s₁.setTop (mkF m 32 #[.val (.int ua), .val (.int ub), .val (.int uc), .val (.int ud), .val (.int ue), .val (.int uf), .val (.int ((ua &&& (2147483647 : Int32)) % (5 : Int32))), .val (.int ((ud &&& (2147483647 : Int32)) % (5 : Int32))), .val (.int (ub &&& (2147483647 : Int32))), .val (.int (uc &&& (2147483647 : Int32))), .unset, .unset, .unset, .unset, .unset, .unset, .unset, .unset, .unset] [(.int (2147483647 : Int32)), (.int ue)])) (fun _ k => X0.ldcI (g := (mkF m 30 #[.val (.int ua), .val (.int ub), .val (.int uc), .val (.int ud), .val (.int ue), .val (.int uf), .val (.int ((ua &&& (2147483647 : Int32)) % (5 : Int32))), .val (.int ((ud &&& (2147483647 : Int32)) % (5 : Int32))), .val (.int (ub &&& (2147483647 : Int32))), .val (.int (uc &&& (2147483647 : Int32))), .unset, .unset, .unset, .unset, .unset, .unset, .unset, .unset, .unset] [(.int ue)])) hx hown (mvT hZ (hw _ (List.mem_of_getElem? (i := 0) rfl))) rfl (hb hby at_30) k) ?_
  refine own_by (B := s₁.setTop (mkF m 33 #[.val (.int ua), .val (.int ub), .val (.int uc), .val (.int ud), .val (.int ue), .val (.int uf), .val (.int ((ua &&& (2147483647 : Int32)) % (5 : Int32))), .val (.int ((ud &&& (2147483647 : Int32)) % (5 : Int32))), .val (.int (ub &&& (2147483647 : Int32))), .val (.int (uc &&& (2147483647 : Int32))), .unset, .unset, .unset, .unset, .unset, .unset, .unset, .unset, .unset] [(.int (ue &&& (2147483647 : Int32)))])) (fun _ k => XS.iand X0.here hx rfl (hb hby at_32) rfl k) ?_
  refine own_by (B := s₁.setTop (mkF m 35 #[.val (.int ua), .val (.int ub), .val (.int uc), .val (.int ud), .val (.int ue), .val (.int uf), .val (.int ((ua &&& (2147483647 : Int32)) % (5 : Int32))), .val (.int ((ud &&& (2147483647 : Int32)) % (5 : Int32))), .val (.int (ub &&& (2147483647 : Int32))), .val (.int (uc &&& (2147483647 : Int32))), .val (.int (ue &&& (2147483647 : Int32))), .unset, .unset, .unset, .unset, .unset, .unset, .unset, .unset] [])) (fun _ k => XS.istore X0.here hx rfl (hb hby at_33) rfl (l' := #[.val (.int ua), .val (.int ub), .val (.int uc), .val (.int ud), .val (.int ue), .val (.int uf), .val (.int ((ua &&& (2147483647 : Int32)) % (5 : Int32))), .val (.int ((ud &&& (2147483647 : Int32)) % (5 : Int32))), .val (.int (ub &&& (2147483647 : Int32))), .val (.int (uc &&& (2147483647 : Int32))), .val (.int (ue &&& (2147483647 : Int32))), .unset, .unset, .unset, .unset, .unset, .unset, .unset, .unset]) rfl k) ?_
  refine own_by (B := s₁.setTop (mkF m 37 #[.val (.int ua), .val (.int ub), .val (.int uc), .val (.int ud), .val (.int ue), .val (.int uf), .val (.int ((ua &&& (2147483647 : Int32)) % (5 : Int32))), .val (.int ((ud &&& (2147483647 : Int32)) % (5 : Int32))), .val (.int (ub &&& (2147483647 : Int32))), .val (.int (uc &&& (2147483647 : Int32))), .val (.int (ue &&& (2147483647 : Int32))), .unset, .unset, .unset, .unset, .unset, .unset, .unset, .unset] [(.int uf)])) (fun _ k => XS.iload X0.here hx rfl (hb hby at_35) rfl  k) ?_
  refine own_by (B := s₁.setTop (mkF m 39 #[.val (.int ua), .val (.int ub), .val (.int uc), .val (.int ud), .val (.int ue), .val (.int uf), .val (.int ((ua &&& (2147483647 : Int32)) % (5 : Int32))), .val (.int ((ud &&& (2147483647 : Int32)) % (5 : Int32))), .val (.int (ub &&& (2147483647 : Int32))), .val (.int (uc &&& (2147483647 : Int32))), .val (.int (ue &&& (2147483647 : Int32))), .unset, .unset, .unset, .unset, .unset, .unset, .unset, .unset] [(.int (2147483647 : Int32)), (.int uf)])) (fun _ k => X0.ldcI (g := (mkF m 37 #[.val (.int ua), .val (.int ub), .val (.int uc), .val (.int ud), .val (.int ue), .val (.int uf), .val (.int ((ua &&& (2147483647 : Int32)) % (5 : Int32))), .val (.int ((ud &&& (2147483647 : Int32)) % (5 : Int32))), .val (.int (ub &&& (2147483647 : Int32))), .val (.int (uc &&& (2147483647 : Int32))), .val (.int (ue &&& (2147483647 : Int32))), .unset, .unset, .unset, .unset, .unset, .unset, .unset, .unset] [(.int uf)])) hx hown (mvT hZ (hw _ (List.mem_of_getElem? (i := 0) rfl))) rfl (hb hby at_37) k) ?_
  refine own_by (B := s₁.setTop (mkF m 40 #[.val (.int ua), .val (.int ub), .val (.int uc), .val (.int ud), .val (.int ue), .val (.int uf), .val (.int ((ua &&& (2147483647 : Int32)) % (5 : Int32))), .val (.int ((ud &&& (2147483647 : Int32)) % (5 : Int32))), .val (.int (ub &&& (2147483647 : Int32))), .val (.int (uc &&& (2147483647 : Int32))), .val (.int (ue &&& (2147483647 : Int32))), .unset, .unset, .unset, .unset, .unset, .unset, .unset, .unset] [(.int (uf &&& (2147483647 : Int32)))])) (fun _ k => XS.iand X0.here hx rfl (hb hby at_39) rfl k) ?_
  refine own_by (B := s₁.setTop (mkF m 42 #[.val (.int ua), .val (.int ub), .val (.int uc), .val (.int ud), .val (.int ue), .val (.int uf), .val (.int ((ua &&& (2147483647 : Int32)) % (5 : Int32))), .val (.int ((ud &&& (2147483647 : Int32)) % (5 : Int32))), .val (.int (ub &&& (2147483647 : Int32))), .val (.int (uc &&& (2147483647 : Int32))), .val (.int (ue &&& (2147483647 : Int32))), .val (.int (uf &&& (2147483647 : Int32))), .unset, .unset, .unset, .unset, .unset, .unset, .unset] [])) (fun _ k => XS.istore X0.here hx rfl (hb hby at_40) rfl (l' := #[.val (.int ua), .val (.int ub), .val (.int uc), .val (.int ud), .val (.int ue), .val (.int uf), .val (.int ((ua &&& (2147483647 : Int32)) % (5 : Int32))), .val (.int ((ud &&& (2147483647 : Int32)) % (5 : Int32))), .val (.int (ub &&& (2147483647 : Int32))), .val (.int (uc &&& (2147483647 : Int32))), .val (.int (ue &&& (2147483647 : Int32))), .val (.int (uf &&& (2147483647 : Int32))), .unset, .unset, .unset, .unset, .unset, .unset, .unset]) rfl k) ?_
  obtain ⟨ub_, hub_⟩ : ∃ z : Int32, z = ((ud &&& (2147483647 : Int32)) % (5 : Int32)) := ⟨_, rfl⟩
  rw [← hub_]
  obtain ⟨us_, hus_⟩ : ∃ z : Int32, z = (ub &&& (2147483647 : Int32)) := ⟨_, rfl⟩
  rw [← hus_]
  obtain ⟨uc_, huc_⟩ : ∃ z : Int32, z = (uc &&& (2147483647 : Int32)) := ⟨_, rfl⟩
  rw [← huc_]
  obtain ⟨vs_, hvs_⟩ : ∃ z : Int32, z = (ue &&& (2147483647 : Int32)) := ⟨_, rfl⟩
  rw [← hvs_]
  obtain ⟨vc_, hvc_⟩ : ∃ z : Int32, z = (uf &&& (2147483647 : Int32)) := ⟨_, rfl⟩
  rw [← hvc_]
  obtain ⟨hb0, hb1⟩ : 0 ≤ ub_.toInt ∧ ub_.toInt < 5 := hub_ ▸ own_mod ud (5 : Int32) (by decide)
  have hp1 : 0 ≤ us_.toInt := hus_ ▸ (c_and _ (2147483647 : Int32) (by decide)).1
  have hp2 : 0 ≤ uc_.toInt := huc_ ▸ (c_and _ (2147483647 : Int32) (by decide)).1
  have hp3 : 0 ≤ vs_.toInt := hvs_ ▸ (c_and _ (2147483647 : Int32) (by decide)).1
  have hp4 : 0 ≤ vc_.toInt := hvc_ ▸ (c_and _ (2147483647 : Int32) (by decide)).1
  have hD : own_D a_INTEGER a_BIGINT a_DECIMAL a_DOUBLE a_VARCHAR := ⟨Fld.ne F_INTEGER_ordinal F_BIGINT_ordinal (by decide), Fld.ne F_INTEGER_ordinal F_DECIMAL_ordinal (by decide), Fld.ne F_INTEGER_ordinal F_DOUBLE_ordinal (by decide), Fld.ne F_INTEGER_ordinal F_VARCHAR_ordinal (by decide), Fld.ne F_BIGINT_ordinal F_DECIMAL_ordinal (by decide), Fld.ne F_BIGINT_ordinal F_DOUBLE_ordinal (by decide), Fld.ne F_BIGINT_ordinal F_VARCHAR_ordinal (by decide), Fld.ne F_DECIMAL_ordinal F_DOUBLE_ordinal (by decide), Fld.ne F_DECIMAL_ordinal F_VARCHAR_ordinal (by decide), Fld.ne F_DOUBLE_ordinal F_VARCHAR_ordinal (by decide)⟩
  obtain ⟨ha0, ha1⟩ := own_mod ua (5 : Int32) (by decide)
  have has := own_enum5 ha0 ha1
  generalize ((ua &&& (2147483647 : Int32)) % (5 : Int32)) = ui at has ⊢
  rcases has with rfl | rfl | rfl | rfl | rfl
  · obtain ⟨T1, h1, X1, e1, E1, A1, D1, -, st1⟩ := newO X0 hx hZ hown (hw _ (List.mem_of_getElem? (i := 1) rfl)) (hw _ (List.mem_of_getElem? (i := 2) rfl)) (hw _ (List.mem_of_getElem? (i := 3) rfl)) e0 (g := (mkF m 42 #[.val (.int ua), .val (.int ub), .val (.int uc), .val (.int ud), .val (.int ue), .val (.int uf), .val (.int (0 : Int32)), .val (.int ub_), .val (.int us_), .val (.int uc_), .val (.int vs_), .val (.int vc_), .unset, .unset, .unset, .unset, .unset, .unset, .unset] [])) rfl (hb hby at_42) (by decide) (by decide)
    obtain ⟨b1, g1⟩ : ∃ z, z = h0.size := ⟨_, rfl⟩
    rw [← g1] at A1 D1 st1
    have sz1 := E1.1
    have gn1 : n0 ≤ b1 := g1 ▸ own_old_le O0
    have fz1 : h0.size ≤ b1 := g1 ▸ K0.1
    have lt1 := own_lt A1.lt
    have O1 := O0.ext E1
    have K1 := K0.ext E1
    have F1_kind : Fld Z h1 b1 "com/example/planwright/planwright/cache/LiteralType" "kind" "Lcom/example/planwright/planwright/cache/LiteralType$Kind;" .null := D1 (Or.inr (hw _ (List.mem_of_getElem? (i := 23) rfl))) (ty := (.object "com/example/planwright/planwright/cache/LiteralType$Kind")) (by decide)
    have F1_size : Fld Z h1 b1 "com/example/planwright/planwright/cache/LiteralType" "size" "I" (.int (0 : Int32)) := D1 (Or.inr (hw _ (List.mem_of_getElem? (i := 25) rfl))) (ty := .int) (by decide)
    have F1_scale : Fld Z h1 b1 "com/example/planwright/planwright/cache/LiteralType" "scale" "I" (.int (0 : Int32)) := D1 (Or.inr (hw _ (List.mem_of_getElem? (i := 27) rfl))) (ty := .int) (by decide)
    refine own_by (B := T1.setTop (mkF m 45 #[.val (.int ua), .val (.int ub), .val (.int uc), .val (.int ud), .val (.int ue), .val (.int uf), .val (.int (0 : Int32)), .val (.int ub_), .val (.int us_), .val (.int uc_), .val (.int vs_), .val (.int vc_), .unset, .unset, .unset, .unset, .unset, .unset, .unset] [(.ref b1)])) st1 ?_
    refine own_by (B := T1.setTop (mkF m 46 #[.val (.int ua), .val (.int ub), .val (.int uc), .val (.int ud), .val (.int ue), .val (.int uf), .val (.int (0 : Int32)), .val (.int ub_), .val (.int us_), .val (.int uc_), .val (.int vs_), .val (.int vc_), .unset, .unset, .unset, .unset, .unset, .unset, .unset] [(.ref b1), (.ref b1)])) (fun _ k => XS.dup X1.here hx rfl (hb hby at_45) rfl rfl k) ?_
    refine own_by (B := T1.setTop (mkF m 48 #[.val (.int ua), .val (.int ub), .val (.int uc), .val (.int ud), .val (.int ue), .val (.int uf), .val (.int (0 : Int32)), .val (.int ub_), .val (.int us_), .val (.int uc_), .val (.int vs_), .val (.int vc_), .unset, .unset, .unset, .unset, .unset, .unset, .unset] [(.int (0 : Int32)), (.ref b1), (.ref b1)])) (fun _ k => XS.iload X1.here hx rfl (hb hby at_46) rfl  k) ?_
    obtain ⟨_, _, ⟨T2, L2, k2, n2⟩, -, X2, ⟨Lc2, hQ2, l2, y2, z2⟩, st2⟩ := Jvm.LawKit.callS X1 hx (y := (⟨"com/example/planwright/planwright/cache/LiteralTypeFitsPinLaw", "kindOf", "(I)Lcom/example/planwright/planwright/cache/LiteralType$Kind;"⟩ : MethodName)) hown (mvT hZ (hw _ (List.mem_of_getElem? (i := 4) rfl))) (mvT hZ (hw _ (List.mem_of_getElem? (i := 5) rfl))) (mvT hZ (hw _ (List.mem_of_getElem? (i := 6) rfl))) (mvT hZ (hw _ (List.mem_of_getElem? (i := 7) rfl))) (by decide) (backOf (W := 2) (rmKo l Z a0 hw [] a_INTEGER a_BIGINT a_VARCHAR a_DECIMAL a_DOUBLE ucs (0 : Int32) h1 n0 (own_old_le O1) O1 HW) hZ (hw _ (List.mem_of_getElem? (i := 7) rfl)) (hw _ (List.mem_of_getElem? (i := 6) rfl)) (by decide) (by decide)) (g := (mkF m 48 #[.val (.int ua), .val (.int ub), .val (.int uc), .val (.int ud), .val (.int ue), .val (.int uf), .val (.int (0 : Int32)), .val (.int ub_), .val (.int us_), .val (.int uc_), .val (.int vs_), .val (.int vc_), .unset, .unset, .unset, .unset, .unset, .unset, .unset] [(.int (0 : Int32)), (.ref b1), (.ref b1)])) rfl (by rw [hml]; rfl) (argsL := [(.int (0 : Int32))]) (rest := [(.ref b1), (.ref b1)]) (lenOf pd_0__I_Lcom_example_planwright_planwright_cache_LiteralType_Kind_ rfl) rfl (by show 2 * 0 + _ ≤ _; exact Nat.le_of_eq rfl) (hb hby at_48) (fun _ _ => ⟨rfl, e1, (by decide : 1 + 0 ≤ _), (by decide : 3 + 0 ≤ _)⟩)
    dsimp only [Pt.U, Pt.locs, Pt.cells, Pt.slots] at X2 l2 y2 z2 st2 hQ2
    subst l2 y2 z2
    obtain ⟨rfl, N2, e2⟩ := hQ2
    refine own_by (B := T2.setTop (mkF m 51 #[.val (.int ua), .val (.int ub), .val (.int uc), .val (.int ud), .val (.int ue), .val (.int uf), .val (.int (0 : Int32)), .val (.int ub_), .val (.int us_), .val (.int uc_), .val (.int vs_), .val (.int vc_), .unset, .unset, .unset, .unset, .unset, .unset, .unset] [(.ref (own_ko (0 : Int32) a_INTEGER a_BIGINT a_DECIMAL a_DOUBLE a_VARCHAR)), (.ref b1), (.ref b1)])) st2 ?_
    have M2 := Fr.app N0 N2
    rw [show (own_ko (0 : Int32) a_INTEGER a_BIGINT a_DECIMAL a_DOUBLE a_VARCHAR) = a_INTEGER from by unfold own_ko; rw [if_pos (by decide)]]
    refine own_by (B := T2.setTop (mkF m 53 #[.val (.int ua), .val (.int ub), .val (.int uc), .val (.int ud), .val (.int ue), .val (.int uf), .val (.int (0 : Int32)), .val (.int ub_), .val (.int us_), .val (.int uc_), .val (.int vs_), .val (.int vc_), .unset, .unset, .unset, .unset, .unset, .unset, .unset] [(.int us_), (.ref a_INTEGER), (.ref b1), (.ref b1)])) (fun _ k => XS.iload X2.here hx rfl (hb hby at_51) rfl  k) ?_
    refine own_by (B := T2.setTop (mkF m 55 #[.val (.int ua), .val (.int ub), .val (.int uc), .val (.int ud), .val (.int ue), .val (.int uf), .val (.int (0 : Int32)), .val (.int ub_), .val (.int us_), .val (.int uc_), .val (.int vs_), .val (.int vc_), .unset, .unset, .unset, .unset, .unset, .unset, .unset] [(.int uc_), (.int us_), (.ref a_INTEGER), (.ref b1), (.ref b1)])) (fun _ k => XS.iload X2.here hx rfl (hb hby at_53) rfl  k) ?_
    obtain ⟨_, _, ⟨T3, L3, k3, n3⟩, -, X3, ⟨Lc3, hQ3, l3, y3, z3⟩, st3⟩ := X2.specialBack hx (y := (⟨"com/example/planwright/planwright/cache/LiteralType", "<init>", "(Lcom/example/planwright/planwright/cache/LiteralType$Kind;II)V"⟩ : MethodName)) rfl hown (mvT hZ (hw _ (List.mem_of_getElem? (i := 11) rfl))) (mvT hZ (hw _ (List.mem_of_getElem? (i := 12) rfl))) (mvT hZ (hw _ (List.mem_of_getElem? (i := 13) rfl))) (by decide) (backOf (W := 1) (rmLT l Z a0 hw [] b1 a_INTEGER us_ uc_ h1 n0 (own_old_le O1) O1 A1 F1_kind F1_size F1_scale gn1) hZ (hw _ (List.mem_of_getElem? (i := 13) rfl)) (hw _ (List.mem_of_getElem? (i := 3) rfl)) (by decide) (by decide)) (g := (mkF m 55 #[.val (.int ua), .val (.int ub), .val (.int uc), .val (.int ud), .val (.int ue), .val (.int uf), .val (.int (0 : Int32)), .val (.int ub_), .val (.int us_), .val (.int uc_), .val (.int vs_), .val (.int vc_), .unset, .unset, .unset, .unset, .unset, .unset, .unset] [(.int uc_), (.int us_), (.ref a_INTEGER), (.ref b1), (.ref b1)])) rfl (by rw [hml]; rfl) (Steps.refl _) (a := b1) (argsL := [(.ref a_INTEGER), (.int us_), (.int uc_)]) (rest := [(.ref b1)]) (lenOf pd_0__Lcom_example_planwright_planwright_cache_LiteralType_Kind_II_V rfl) rfl (by show 2 * 0 + _ ≤ _; exact Nat.le_of_eq rfl) (hb hby at_55) (fun _ _ => ⟨rfl, e2, (by decide : 1 + 0 ≤ _), (by decide : 3 + 0 ≤ _)⟩)
    dsimp only [Pt.U, Pt.locs, Pt.cells, Pt.slots] at X3 l3 y3 z3 st3 hQ3
    subst l3 y3 z3
    obtain ⟨rfl, NC3, KC3, EC3, FC3_0, FC3_1, FC3_2⟩ := hQ3
    refine own_by (B := T3.setTop (mkF m 58 #[.val (.int ua), .val (.int ub), .val (.int uc), .val (.int ud), .val (.int ue), .val (.int uf), .val (.int (0 : Int32)), .val (.int ub_), .val (.int us_), .val (.int uc_), .val (.int vs_), .val (.int vc_), .unset, .unset, .unset, .unset, .unset, .unset, .unset] [(.ref b1)])) (fun _ k => st3.trans k) ?_
    obtain ⟨h3, e3⟩ : ∃ z, T3.heap = z := ⟨_, rfl⟩
    rw [e3] at KC3 EC3 FC3_0 FC3_1 FC3_2
    have sz3 := KC3.1
    have O3 := O1.keep KC3 (allS gn1 all0)
    have K3 := K1.trans KC3 (allS (Or.inr fz1) all0)
    have N3 := Fr.app M2 NC3
    refine own_by (B := T3.setTop (mkF m 60 #[.val (.int ua), .val (.int ub), .val (.int uc), .val (.int ud), .val (.int ue), .val (.int uf), .val (.int (0 : Int32)), .val (.int ub_), .val (.int us_), .val (.int uc_), .val (.int vs_), .val (.int vc_), .val (.ref b1), .unset, .unset, .unset, .unset, .unset, .unset] [])) (fun _ k => XS.astore X3.here hx rfl (hb hby at_58) rfl rfl (l' := #[.val (.int ua), .val (.int ub), .val (.int uc), .val (.int ud), .val (.int ue), .val (.int uf), .val (.int (0 : Int32)), .val (.int ub_), .val (.int us_), .val (.int uc_), .val (.int vs_), .val (.int vc_), .val (.ref b1), .unset, .unset, .unset, .unset, .unset, .unset]) rfl k) ?_
    obtain ⟨T4, h4, X4, e4, E4, A4, D4, -, st4⟩ := newO X3 hx hZ hown (hw _ (List.mem_of_getElem? (i := 1) rfl)) (hw _ (List.mem_of_getElem? (i := 2) rfl)) (hw _ (List.mem_of_getElem? (i := 3) rfl)) e3 (g := (mkF m 60 #[.val (.int ua), .val (.int ub), .val (.int uc), .val (.int ud), .val (.int ue), .val (.int uf), .val (.int (0 : Int32)), .val (.int ub_), .val (.int us_), .val (.int uc_), .val (.int vs_), .val (.int vc_), .val (.ref b1), .unset, .unset, .unset, .unset, .unset, .unset] [])) rfl (hb hby at_60) (by decide) (by decide)
    obtain ⟨b4, g4⟩ : ∃ z, z = h3.size := ⟨_, rfl⟩
    rw [← g4] at A4 D4 st4
    have sz4 := E4.1
    have gn4 : n0 ≤ b4 := g4 ▸ own_old_le O3
    have fz4 : h0.size ≤ b4 := g4 ▸ K3.1
    have lt4 := own_lt A4.lt
    have O4 := O3.ext E4
    have K4 := K3.ext E4
    have F4_kind : Fld Z h4 b4 "com/example/planwright/planwright/cache/LiteralType" "kind" "Lcom/example/planwright/planwright/cache/LiteralType$Kind;" .null := D4 (Or.inr (hw _ (List.mem_of_getElem? (i := 23) rfl))) (ty := (.object "com/example/planwright/planwright/cache/LiteralType$Kind")) (by decide)
    have F4_size : Fld Z h4 b4 "com/example/planwright/planwright/cache/LiteralType" "size" "I" (.int (0 : Int32)) := D4 (Or.inr (hw _ (List.mem_of_getElem? (i := 25) rfl))) (ty := .int) (by decide)
    have F4_scale : Fld Z h4 b4 "com/example/planwright/planwright/cache/LiteralType" "scale" "I" (.int (0 : Int32)) := D4 (Or.inr (hw _ (List.mem_of_getElem? (i := 27) rfl))) (ty := .int) (by decide)
    refine own_by (B := T4.setTop (mkF m 63 #[.val (.int ua), .val (.int ub), .val (.int uc), .val (.int ud), .val (.int ue), .val (.int uf), .val (.int (0 : Int32)), .val (.int ub_), .val (.int us_), .val (.int uc_), .val (.int vs_), .val (.int vc_), .val (.ref b1), .unset, .unset, .unset, .unset, .unset, .unset] [(.ref b4)])) st4 ?_
    refine own_by (B := T4.setTop (mkF m 64 #[.val (.int ua), .val (.int ub), .val (.int uc), .val (.int ud), .val (.int ue), .val (.int uf), .val (.int (0 : Int32)), .val (.int ub_), .val (.int us_), .val (.int uc_), .val (.int vs_), .val (.int vc_), .val (.ref b1), .unset, .unset, .unset, .unset, .unset, .unset] [(.ref b4), (.ref b4)])) (fun _ k => XS.dup X4.here hx rfl (hb hby at_63) rfl rfl k) ?_
    refine own_by (B := T4.setTop (mkF m 66 #[.val (.int ua), .val (.int ub), .val (.int uc), .val (.int ud), .val (.int ue), .val (.int uf), .val (.int (0 : Int32)), .val (.int ub_), .val (.int us_), .val (.int uc_), .val (.int vs_), .val (.int vc_), .val (.ref b1), .unset, .unset, .unset, .unset, .unset, .unset] [(.int ub_), (.ref b4), (.ref b4)])) (fun _ k => XS.iload X4.here hx rfl (hb hby at_64) rfl  k) ?_
    obtain ⟨_, _, ⟨T5, L5, k5, n5⟩, -, X5, ⟨Lc5, hQ5, l5, y5, z5⟩, st5⟩ := Jvm.LawKit.callS X4 hx (y := (⟨"com/example/planwright/planwright/cache/LiteralTypeFitsPinLaw", "kindOf", "(I)Lcom/example/planwright/planwright/cache/LiteralType$Kind;"⟩ : MethodName)) hown (mvT hZ (hw _ (List.mem_of_getElem? (i := 4) rfl))) (mvT hZ (hw _ (List.mem_of_getElem? (i := 5) rfl))) (mvT hZ (hw _ (List.mem_of_getElem? (i := 6) rfl))) (mvT hZ (hw _ (List.mem_of_getElem? (i := 7) rfl))) (by decide) (backOf (W := 2) (rmKo l Z a0 hw [] a_INTEGER a_BIGINT a_VARCHAR a_DECIMAL a_DOUBLE ucs ub_ h4 n0 (own_old_le O4) O4 HW) hZ (hw _ (List.mem_of_getElem? (i := 7) rfl)) (hw _ (List.mem_of_getElem? (i := 6) rfl)) (by decide) (by decide)) (g := (mkF m 66 #[.val (.int ua), .val (.int ub), .val (.int uc), .val (.int ud), .val (.int ue), .val (.int uf), .val (.int (0 : Int32)), .val (.int ub_), .val (.int us_), .val (.int uc_), .val (.int vs_), .val (.int vc_), .val (.ref b1), .unset, .unset, .unset, .unset, .unset, .unset] [(.int ub_), (.ref b4), (.ref b4)])) rfl (by rw [hml]; rfl) (argsL := [(.int ub_)]) (rest := [(.ref b4), (.ref b4)]) (lenOf pd_0__I_Lcom_example_planwright_planwright_cache_LiteralType_Kind_ rfl) rfl (by show 2 * 0 + _ ≤ _; exact Nat.le_of_eq rfl) (hb hby at_66) (fun _ _ => ⟨rfl, e4, (by decide : 2 + 0 ≤ _), (by decide : 6 + 0 ≤ _)⟩)
    dsimp only [Pt.U, Pt.locs, Pt.cells, Pt.slots] at X5 l5 y5 z5 st5 hQ5
    subst l5 y5 z5
    obtain ⟨rfl, N5, e5⟩ := hQ5
    refine own_by (B := T5.setTop (mkF m 69 #[.val (.int ua), .val (.int ub), .val (.int uc), .val (.int ud), .val (.int ue), .val (.int uf), .val (.int (0 : Int32)), .val (.int ub_), .val (.int us_), .val (.int uc_), .val (.int vs_), .val (.int vc_), .val (.ref b1), .unset, .unset, .unset, .unset, .unset, .unset] [(.ref (own_ko ub_ a_INTEGER a_BIGINT a_DECIMAL a_DOUBLE a_VARCHAR)), (.ref b4), (.ref b4)])) st5 ?_
    have M5 := Fr.app N3 N5
    obtain ⟨uk, huk⟩ : ∃ z : Addr, z = (own_ko ub_ a_INTEGER a_BIGINT a_DECIMAL a_DOUBLE a_VARCHAR) := ⟨_, rfl⟩
    rw [← huk]
    refine own_by (B := T5.setTop (mkF m 71 #[.val (.int ua), .val (.int ub), .val (.int uc), .val (.int ud), .val (.int ue), .val (.int uf), .val (.int (0 : Int32)), .val (.int ub_), .val (.int us_), .val (.int uc_), .val (.int vs_), .val (.int vc_), .val (.ref b1), .unset, .unset, .unset, .unset, .unset, .unset] [(.int vs_), (.ref uk), (.ref b4), (.ref b4)])) (fun _ k => XS.iload X5.here hx rfl (hb hby at_69) rfl  k) ?_
    refine own_by (B := T5.setTop (mkF m 73 #[.val (.int ua), .val (.int ub), .val (.int uc), .val (.int ud), .val (.int ue), .val (.int uf), .val (.int (0 : Int32)), .val (.int ub_), .val (.int us_), .val (.int uc_), .val (.int vs_), .val (.int vc_), .val (.ref b1), .unset, .unset, .unset, .unset, .unset, .unset] [(.int vc_), (.int vs_), (.ref uk), (.ref b4), (.ref b4)])) (fun _ k => XS.iload X5.here hx rfl (hb hby at_71) rfl  k) ?_
    obtain ⟨_, _, ⟨T6, L6, k6, n6⟩, -, X6, ⟨Lc6, hQ6, l6, y6, z6⟩, st6⟩ := X5.specialBack hx (y := (⟨"com/example/planwright/planwright/cache/LiteralType", "<init>", "(Lcom/example/planwright/planwright/cache/LiteralType$Kind;II)V"⟩ : MethodName)) rfl hown (mvT hZ (hw _ (List.mem_of_getElem? (i := 11) rfl))) (mvT hZ (hw _ (List.mem_of_getElem? (i := 12) rfl))) (mvT hZ (hw _ (List.mem_of_getElem? (i := 13) rfl))) (by decide) (backOf (W := 1) (rmLT l Z a0 hw [] b4 uk vs_ vc_ h4 n0 (own_old_le O4) O4 A4 F4_kind F4_size F4_scale gn4) hZ (hw _ (List.mem_of_getElem? (i := 13) rfl)) (hw _ (List.mem_of_getElem? (i := 3) rfl)) (by decide) (by decide)) (g := (mkF m 73 #[.val (.int ua), .val (.int ub), .val (.int uc), .val (.int ud), .val (.int ue), .val (.int uf), .val (.int (0 : Int32)), .val (.int ub_), .val (.int us_), .val (.int uc_), .val (.int vs_), .val (.int vc_), .val (.ref b1), .unset, .unset, .unset, .unset, .unset, .unset] [(.int vc_), (.int vs_), (.ref uk), (.ref b4), (.ref b4)])) rfl (by rw [hml]; rfl) (Steps.refl _) (a := b4) (argsL := [(.ref uk), (.int vs_), (.int vc_)]) (rest := [(.ref b4)]) (lenOf pd_0__Lcom_example_planwright_planwright_cache_LiteralType_Kind_II_V rfl) rfl (by show 2 * 0 + _ ≤ _; exact Nat.le_of_eq rfl) (hb hby at_73) (fun _ _ => ⟨rfl, e5, (by decide : 2 + 0 ≤ _), (by decide : 6 + 0 ≤ _)⟩)
    dsimp only [Pt.U, Pt.locs, Pt.cells, Pt.slots] at X6 l6 y6 z6 st6 hQ6
    subst l6 y6 z6
    obtain ⟨rfl, NC6, KC6, EC6, FC6_0, FC6_1, FC6_2⟩ := hQ6
    refine own_by (B := T6.setTop (mkF m 76 #[.val (.int ua), .val (.int ub), .val (.int uc), .val (.int ud), .val (.int ue), .val (.int uf), .val (.int (0 : Int32)), .val (.int ub_), .val (.int us_), .val (.int uc_), .val (.int vs_), .val (.int vc_), .val (.ref b1), .unset, .unset, .unset, .unset, .unset, .unset] [(.ref b4)])) (fun _ k => st6.trans k) ?_
    obtain ⟨h6, e6⟩ : ∃ z, T6.heap = z := ⟨_, rfl⟩
    rw [e6] at KC6 EC6 FC6_0 FC6_1 FC6_2
    have sz6 := KC6.1
    have O6 := O4.keep KC6 (allS gn4 all0)
    have K6 := K4.trans KC6 (allS (Or.inr fz4) all0)
    have N6 := Fr.app M5 NC6
    refine own_by (B := T6.setTop (mkF m 78 #[.val (.int ua), .val (.int ub), .val (.int uc), .val (.int ud), .val (.int ue), .val (.int uf), .val (.int (0 : Int32)), .val (.int ub_), .val (.int us_), .val (.int uc_), .val (.int vs_), .val (.int vc_), .val (.ref b1), .val (.ref b4), .unset, .unset, .unset, .unset, .unset] [])) (fun _ k => XS.astore X6.here hx rfl (hb hby at_76) rfl rfl (l' := #[.val (.int ua), .val (.int ub), .val (.int uc), .val (.int ud), .val (.int ue), .val (.int uf), .val (.int (0 : Int32)), .val (.int ub_), .val (.int us_), .val (.int uc_), .val (.int vs_), .val (.int vc_), .val (.ref b1), .val (.ref b4), .unset, .unset, .unset, .unset, .unset]) rfl k) ?_
    refine own_by (B := T6.setTop (mkF m 80 #[.val (.int ua), .val (.int ub), .val (.int uc), .val (.int ud), .val (.int ue), .val (.int uf), .val (.int (0 : Int32)), .val (.int ub_), .val (.int us_), .val (.int uc_), .val (.int vs_), .val (.int vc_), .val (.ref b1), .val (.ref b4), .unset, .unset, .unset, .unset, .unset] [(.int us_)])) (fun _ k => XS.iload X6.here hx rfl (hb hby at_78) rfl  k) ?_
    refine own_by (B := T6.setTop (mkF m 81 #[.val (.int ua), .val (.int ub), .val (.int uc), .val (.int ud), .val (.int ue), .val (.int uf), .val (.int (0 : Int32)), .val (.int ub_), .val (.int us_), .val (.int uc_), .val (.int vs_), .val (.int vc_), .val (.ref b1), .val (.ref b4), .unset, .unset, .unset, .unset, .unset] [(.long (Int32.toInt64 us_))])) (fun _ k => XT.i2l X6.here hx rfl (hb hby at_80) rfl k) ?_
    refine own_by (B := T6.setTop (mkF m 83 #[.val (.int ua), .val (.int ub), .val (.int uc), .val (.int ud), .val (.int ue), .val (.int uf), .val (.int (0 : Int32)), .val (.int ub_), .val (.int us_), .val (.int uc_), .val (.int vs_), .val (.int vc_), .val (.ref b1), .val (.ref b4), .unset, .unset, .unset, .unset, .unset] [(.int uc_), (.long (Int32.toInt64 us_))])) (fun _ k => XS.iload X6.here hx rfl (hb hby at_81) rfl  k) ?_
    refine own_by (B := T6.setTop (mkF m 84 #[.val (.int ua), .val (.int ub), .val (.int uc), .val (.int ud), .val (.int ue), .val (.int uf), .val (.int (0 : Int32)), .val (.int ub_), .val (.int us_), .val (.int uc_), .val (.int vs_), .val (.int vc_), .val (.ref b1), .val (.ref b4), .unset, .unset, .unset, .unset, .unset] [(.long (Int32.toInt64 uc_)), (.long (Int32.toInt64 us_))])) (fun _ k => XT.i2l X6.here hx rfl (hb hby at_83) rfl k) ?_
    refine own_by (B := T6.setTop (mkF m 85 #[.val (.int ua), .val (.int ub), .val (.int uc), .val (.int ud), .val (.int ue), .val (.int uf), .val (.int (0 : Int32)), .val (.int ub_), .val (.int us_), .val (.int uc_), .val (.int vs_), .val (.int vc_), .val (.ref b1), .val (.ref b4), .unset, .unset, .unset, .unset, .unset] [(.long ((Int32.toInt64 us_) - (Int32.toInt64 uc_)))])) (fun _ k => XT.lsub X6.here hx rfl (hb hby at_84) rfl k) ?_
    refine own_by (B := T6.setTop (mkF m 87 #[.val (.int ua), .val (.int ub), .val (.int uc), .val (.int ud), .val (.int ue), .val (.int uf), .val (.int (0 : Int32)), .val (.int ub_), .val (.int us_), .val (.int uc_), .val (.int vs_), .val (.int vc_), .val (.ref b1), .val (.ref b4), .val (.long ((Int32.toInt64 us_) - (Int32.toInt64 uc_))), .second, .unset, .unset, .unset] [])) (fun _ k => XT.lstore X6.here hx rfl (hb hby at_85) rfl (l' := #[.val (.int ua), .val (.int ub), .val (.int uc), .val (.int ud), .val (.int ue), .val (.int uf), .val (.int (0 : Int32)), .val (.int ub_), .val (.int us_), .val (.int uc_), .val (.int vs_), .val (.int vc_), .val (.ref b1), .val (.ref b4), .val (.long ((Int32.toInt64 us_) - (Int32.toInt64 uc_))), .second, .unset, .unset, .unset]) rfl k) ?_
    refine own_by (B := T6.setTop (mkF m 89 #[.val (.int ua), .val (.int ub), .val (.int uc), .val (.int ud), .val (.int ue), .val (.int uf), .val (.int (0 : Int32)), .val (.int ub_), .val (.int us_), .val (.int uc_), .val (.int vs_), .val (.int vc_), .val (.ref b1), .val (.ref b4), .val (.long ((Int32.toInt64 us_) - (Int32.toInt64 uc_))), .second, .unset, .unset, .unset] [(.int vs_)])) (fun _ k => XS.iload X6.here hx rfl (hb hby at_87) rfl  k) ?_
    refine own_by (B := T6.setTop (mkF m 90 #[.val (.int ua), .val (.int ub), .val (.int uc), .val (.int ud), .val (.int ue), .val (.int uf), .val (.int (0 : Int32)), .val (.int ub_), .val (.int us_), .val (.int uc_), .val (.int vs_), .val (.int vc_), .val (.ref b1), .val (.ref b4), .val (.long ((Int32.toInt64 us_) - (Int32.toInt64 uc_))), .second, .unset, .unset, .unset] [(.long (Int32.toInt64 vs_))])) (fun _ k => XT.i2l X6.here hx rfl (hb hby at_89) rfl k) ?_
    refine own_by (B := T6.setTop (mkF m 92 #[.val (.int ua), .val (.int ub), .val (.int uc), .val (.int ud), .val (.int ue), .val (.int uf), .val (.int (0 : Int32)), .val (.int ub_), .val (.int us_), .val (.int uc_), .val (.int vs_), .val (.int vc_), .val (.ref b1), .val (.ref b4), .val (.long ((Int32.toInt64 us_) - (Int32.toInt64 uc_))), .second, .unset, .unset, .unset] [(.int vc_), (.long (Int32.toInt64 vs_))])) (fun _ k => XS.iload X6.here hx rfl (hb hby at_90) rfl  k) ?_
    refine own_by (B := T6.setTop (mkF m 93 #[.val (.int ua), .val (.int ub), .val (.int uc), .val (.int ud), .val (.int ue), .val (.int uf), .val (.int (0 : Int32)), .val (.int ub_), .val (.int us_), .val (.int uc_), .val (.int vs_), .val (.int vc_), .val (.ref b1), .val (.ref b4), .val (.long ((Int32.toInt64 us_) - (Int32.toInt64 uc_))), .second, .unset, .unset, .unset] [(.long (Int32.toInt64 vc_)), (.long (Int32.toInt64 vs_))])) (fun _ k => XT.i2l X6.here hx rfl (hb hby at_92) rfl k) ?_
    refine own_by (B := T6.setTop (mkF m 94 #[.val (.int ua), .val (.int ub), .val (.int uc), .val (.int ud), .val (.int ue), .val (.int uf), .val (.int (0 : Int32)), .val (.int ub_), .val (.int us_), .val (.int uc_), .val (.int vs_), .val (.int vc_), .val (.ref b1), .val (.ref b4), .val (.long ((Int32.toInt64 us_) - (Int32.toInt64 uc_))), .second, .unset, .unset, .unset] [(.long ((Int32.toInt64 vs_) - (Int32.toInt64 vc_)))])) (fun _ k => XT.lsub X6.here hx rfl (hb hby at_93) rfl k) ?_
    refine own_by (B := T6.setTop (mkF m 96 #[.val (.int ua), .val (.int ub), .val (.int uc), .val (.int ud), .val (.int ue), .val (.int uf), .val (.int (0 : Int32)), .val (.int ub_), .val (.int us_), .val (.int uc_), .val (.int vs_), .val (.int vc_), .val (.ref b1), .val (.ref b4), .val (.long ((Int32.toInt64 us_) - (Int32.toInt64 uc_))), .second, .val (.long ((Int32.toInt64 vs_) - (Int32.toInt64 vc_))), .second, .unset] [])) (fun _ k => XT.lstore X6.here hx rfl (hb hby at_94) rfl (l' := #[.val (.int ua), .val (.int ub), .val (.int uc), .val (.int ud), .val (.int ue), .val (.int uf), .val (.int (0 : Int32)), .val (.int ub_), .val (.int us_), .val (.int uc_), .val (.int vs_), .val (.int vc_), .val (.ref b1), .val (.ref b4), .val (.long ((Int32.toInt64 us_) - (Int32.toInt64 uc_))), .second, .val (.long ((Int32.toInt64 vs_) - (Int32.toInt64 vc_))), .second, .unset]) rfl k) ?_
    refine own_by (B := T6.setTop (mkF m 98 #[.val (.int ua), .val (.int ub), .val (.int uc), .val (.int ud), .val (.int ue), .val (.int uf), .val (.int (0 : Int32)), .val (.int ub_), .val (.int us_), .val (.int uc_), .val (.int vs_), .val (.int vc_), .val (.ref b1), .val (.ref b4), .val (.long ((Int32.toInt64 us_) - (Int32.toInt64 uc_))), .second, .val (.long ((Int32.toInt64 vs_) - (Int32.toInt64 vc_))), .second, .unset] [(.int (0 : Int32))])) (fun _ k => XS.iload X6.here hx rfl (hb hby at_96) rfl  k) ?_
    refine own_by (B := T6.setTop (mkF m 101 #[.val (.int ua), .val (.int ub), .val (.int uc), .val (.int ud), .val (.int ue), .val (.int uf), .val (.int (0 : Int32)), .val (.int ub_), .val (.int us_), .val (.int uc_), .val (.int vs_), .val (.int vc_), .val (.ref b1), .val (.ref b4), .val (.long ((Int32.toInt64 us_) - (Int32.toInt64 uc_))), .second, .val (.long ((Int32.toInt64 vs_) - (Int32.toInt64 vc_))), .second, .unset] [])) (fun _ k => XS.ifNo X6.here hx rfl (hb hby at_98) rfl (XT.i0_ne_f (by decide)) k) ?_
    refine own_by (B := T6.setTop (mkF m 103 #[.val (.int ua), .val (.int ub), .val (.int uc), .val (.int ud), .val (.int ue), .val (.int uf), .val (.int (0 : Int32)), .val (.int ub_), .val (.int us_), .val (.int uc_), .val (.int vs_), .val (.int vc_), .val (.ref b1), .val (.ref b4), .val (.long ((Int32.toInt64 us_) - (Int32.toInt64 uc_))), .second, .val (.long ((Int32.toInt64 vs_) - (Int32.toInt64 vc_))), .second, .unset] [(.int ub_)])) (fun _ k => XS.iload X6.here hx rfl (hb hby at_101) rfl  k) ?_
    obtain ⟨mv7, hmv7⟩ : ∃ z : Int32, z = if ub_ = (0 : Int32) then (1 : Int32) else if ub_ = (1 : Int32) then (1 : Int32) else if ub_ = (3 : Int32) then (1 : Int32) else if ub_ = (2 : Int32) then (if ((Int32.toInt64 vs_) - (Int32.toInt64 vc_)) < (10 : Int64) then (0 : Int32) else (1 : Int32)) else (0 : Int32) := ⟨_, rfl⟩
    suffices hj8 : own_Go p.tables e below (own_KL s below (own_Q0 n0) 16 2176) (T6.setTop (mkF m 138 #[.val (.int ua), .val (.int ub), .val (.int uc), .val (.int ud), .val (.int ue), .val (.int uf), .val (.int (0 : Int32)), .val (.int ub_), .val (.int us_), .val (.int uc_), .val (.int vs_), .val (.int vc_), .val (.ref b1), .val (.ref b4), .val (.long ((Int32.toInt64 us_) - (Int32.toInt64 uc_))), .second, .val (.long ((Int32.toInt64 vs_) - (Int32.toInt64 vc_))), .second, .unset] [(.int mv7)])) by
      by_cases hc9 : ub_ = (0 : Int32)
      · refine own_by (B := T6.setTop (mkF m 133 #[.val (.int ua), .val (.int ub), .val (.int uc), .val (.int ud), .val (.int ue), .val (.int uf), .val (.int (0 : Int32)), .val (.int ub_), .val (.int us_), .val (.int uc_), .val (.int vs_), .val (.int vc_), .val (.ref b1), .val (.ref b4), .val (.long ((Int32.toInt64 us_) - (Int32.toInt64 uc_))), .second, .val (.long ((Int32.toInt64 vs_) - (Int32.toInt64 vc_))), .second, .unset] [])) (fun _ k => XS.ifYes X6.here hx rfl (pc0 := 103) (pc' := 133) rfl (hb hby at_103) rfl (XT.i0_eq_t hc9) (by decide) (by decide) k) ?_
        refine own_by (B := T6.setTop (mkF m 134 #[.val (.int ua), .val (.int ub), .val (.int uc), .val (.int ud), .val (.int ue), .val (.int uf), .val (.int (0 : Int32)), .val (.int ub_), .val (.int us_), .val (.int uc_), .val (.int vs_), .val (.int vc_), .val (.ref b1), .val (.ref b4), .val (.long ((Int32.toInt64 us_) - (Int32.toInt64 uc_))), .second, .val (.long ((Int32.toInt64 vs_) - (Int32.toInt64 vc_))), .second, .unset] [(.int (1 : Int32))])) (fun _ k => XS.iconst X6.here hx rfl (hb hby at_133) k) ?_
        refine own_by (B := T6.setTop (mkF m 138 #[.val (.int ua), .val (.int ub), .val (.int uc), .val (.int ud), .val (.int ue), .val (.int uf), .val (.int (0 : Int32)), .val (.int ub_), .val (.int us_), .val (.int uc_), .val (.int vs_), .val (.int vc_), .val (.ref b1), .val (.ref b4), .val (.long ((Int32.toInt64 us_) - (Int32.toInt64 uc_))), .second, .val (.long ((Int32.toInt64 vs_) - (Int32.toInt64 vc_))), .second, .unset] [(.int (1 : Int32))])) (fun _ k => XS.goto X6.here hx rfl (pc0 := 134) (pc' := 138) rfl (hb hby at_134) (by decide) (by decide) k) ?_
        rw [show mv7 = (1 : Int32) from hmv7.trans (((if_pos hc9).trans rfl))] at hj8
        exact hj8
      · refine own_by (B := T6.setTop (mkF m 106 #[.val (.int ua), .val (.int ub), .val (.int uc), .val (.int ud), .val (.int ue), .val (.int uf), .val (.int (0 : Int32)), .val (.int ub_), .val (.int us_), .val (.int uc_), .val (.int vs_), .val (.int vc_), .val (.ref b1), .val (.ref b4), .val (.long ((Int32.toInt64 us_) - (Int32.toInt64 uc_))), .second, .val (.long ((Int32.toInt64 vs_) - (Int32.toInt64 vc_))), .second, .unset] [])) (fun _ k => XS.ifNo X6.here hx rfl (hb hby at_103) rfl (XT.i0_eq_f hc9) k) ?_
        refine own_by (B := T6.setTop (mkF m 108 #[.val (.int ua), .val (.int ub), .val (.int uc), .val (.int ud), .val (.int ue), .val (.int uf), .val (.int (0 : Int32)), .val (.int ub_), .val (.int us_), .val (.int uc_), .val (.int vs_), .val (.int vc_), .val (.ref b1), .val (.ref b4), .val (.long ((Int32.toInt64 us_) - (Int32.toInt64 uc_))), .second, .val (.long ((Int32.toInt64 vs_) - (Int32.toInt64 vc_))), .second, .unset] [(.int ub_)])) (fun _ k => XS.iload X6.here hx rfl (hb hby at_106) rfl  k) ?_
        refine own_by (B := T6.setTop (mkF m 109 #[.val (.int ua), .val (.int ub), .val (.int uc), .val (.int ud), .val (.int ue), .val (.int uf), .val (.int (0 : Int32)), .val (.int ub_), .val (.int us_), .val (.int uc_), .val (.int vs_), .val (.int vc_), .val (.ref b1), .val (.ref b4), .val (.long ((Int32.toInt64 us_) - (Int32.toInt64 uc_))), .second, .val (.long ((Int32.toInt64 vs_) - (Int32.toInt64 vc_))), .second, .unset] [(.int (1 : Int32)), (.int ub_)])) (fun _ k => XS.iconst X6.here hx rfl (hb hby at_108) k) ?_
        by_cases hc10 : ub_ = (1 : Int32)
        · refine own_by (B := T6.setTop (mkF m 133 #[.val (.int ua), .val (.int ub), .val (.int uc), .val (.int ud), .val (.int ue), .val (.int uf), .val (.int (0 : Int32)), .val (.int ub_), .val (.int us_), .val (.int uc_), .val (.int vs_), .val (.int vc_), .val (.ref b1), .val (.ref b4), .val (.long ((Int32.toInt64 us_) - (Int32.toInt64 uc_))), .second, .val (.long ((Int32.toInt64 vs_) - (Int32.toInt64 vc_))), .second, .unset] [])) (fun _ k => XS.icmpYes X6.here hx rfl (pc0 := 109) (pc' := 133) rfl (hb hby at_109) rfl (XT.ii_eq_t hc10) (by decide) (by decide) k) ?_
          refine own_by (B := T6.setTop (mkF m 134 #[.val (.int ua), .val (.int ub), .val (.int uc), .val (.int ud), .val (.int ue), .val (.int uf), .val (.int (0 : Int32)), .val (.int ub_), .val (.int us_), .val (.int uc_), .val (.int vs_), .val (.int vc_), .val (.ref b1), .val (.ref b4), .val (.long ((Int32.toInt64 us_) - (Int32.toInt64 uc_))), .second, .val (.long ((Int32.toInt64 vs_) - (Int32.toInt64 vc_))), .second, .unset] [(.int (1 : Int32))])) (fun _ k => XS.iconst X6.here hx rfl (hb hby at_133) k) ?_
          refine own_by (B := T6.setTop (mkF m 138 #[.val (.int ua), .val (.int ub), .val (.int uc), .val (.int ud), .val (.int ue), .val (.int uf), .val (.int (0 : Int32)), .val (.int ub_), .val (.int us_), .val (.int uc_), .val (.int vs_), .val (.int vc_), .val (.ref b1), .val (.ref b4), .val (.long ((Int32.toInt64 us_) - (Int32.toInt64 uc_))), .second, .val (.long ((Int32.toInt64 vs_) - (Int32.toInt64 vc_))), .second, .unset] [(.int (1 : Int32))])) (fun _ k => XS.goto X6.here hx rfl (pc0 := 134) (pc' := 138) rfl (hb hby at_134) (by decide) (by decide) k) ?_
          rw [show mv7 = (1 : Int32) from hmv7.trans (((if_neg hc9).trans  ((if_pos hc10).trans rfl)))] at hj8
          exact hj8
        · refine own_by (B := T6.setTop (mkF m 112 #[.val (.int ua), .val (.int ub), .val (.int uc), .val (.int ud), .val (.int ue), .val (.int uf), .val (.int (0 : Int32)), .val (.int ub_), .val (.int us_), .val (.int uc_), .val (.int vs_), .val (.int vc_), .val (.ref b1), .val (.ref b4), .val (.long ((Int32.toInt64 us_) - (Int32.toInt64 uc_))), .second, .val (.long ((Int32.toInt64 vs_) - (Int32.toInt64 vc_))), .second, .unset] [])) (fun _ k => XS.icmpNo X6.here hx rfl (hb hby at_109) rfl (XT.ii_eq_f hc10) k) ?_
          refine own_by (B := T6.setTop (mkF m 114 #[.val (.int ua), .val (.int ub), .val (.int uc), .val (.int ud), .val (.int ue), .val (.int uf), .val (.int (0 : Int32)), .val (.int ub_), .val (.int us_), .val (.int uc_), .val (.int vs_), .val (.int vc_), .val (.ref b1), .val (.ref b4), .val (.long ((Int32.toInt64 us_) - (Int32.toInt64 uc_))), .second, .val (.long ((Int32.toInt64 vs_) - (Int32.toInt64 vc_))), .second, .unset] [(.int ub_)])) (fun _ k => XS.iload X6.here hx rfl (hb hby at_112) rfl  k) ?_
          refine own_by (B := T6.setTop (mkF m 115 #[.val (.int ua), .val (.int ub), .val (.int uc), .val (.int ud), .val (.int ue), .val (.int uf), .val (.int (0 : Int32)), .val (.int ub_), .val (.int us_), .val (.int uc_), .val (.int vs_), .val (.int vc_), .val (.ref b1), .val (.ref b4), .val (.long ((Int32.toInt64 us_) - (Int32.toInt64 uc_))), .second, .val (.long ((Int32.toInt64 vs_) - (Int32.toInt64 vc_))), .second, .unset] [(.int (3 : Int32)), (.int ub_)])) (fun _ k => XS.iconst X6.here hx rfl (hb hby at_114) k) ?_
          by_cases hc11 : ub_ = (3 : Int32)
          · refine own_by (B := T6.setTop (mkF m 133 #[.val (.int ua), .val (.int ub), .val (.int uc), .val (.int ud), .val (.int ue), .val (.int uf), .val (.int (0 : Int32)), .val (.int ub_), .val (.int us_), .val (.int uc_), .val (.int vs_), .val (.int vc_), .val (.ref b1), .val (.ref b4), .val (.long ((Int32.toInt64 us_) - (Int32.toInt64 uc_))), .second, .val (.long ((Int32.toInt64 vs_) - (Int32.toInt64 vc_))), .second, .unset] [])) (fun _ k => XS.icmpYes X6.here hx rfl (pc0 := 115) (pc' := 133) rfl (hb hby at_115) rfl (XT.ii_eq_t hc11) (by decide) (by decide) k) ?_
            refine own_by (B := T6.setTop (mkF m 134 #[.val (.int ua), .val (.int ub), .val (.int uc), .val (.int ud), .val (.int ue), .val (.int uf), .val (.int (0 : Int32)), .val (.int ub_), .val (.int us_), .val (.int uc_), .val (.int vs_), .val (.int vc_), .val (.ref b1), .val (.ref b4), .val (.long ((Int32.toInt64 us_) - (Int32.toInt64 uc_))), .second, .val (.long ((Int32.toInt64 vs_) - (Int32.toInt64 vc_))), .second, .unset] [(.int (1 : Int32))])) (fun _ k => XS.iconst X6.here hx rfl (hb hby at_133) k) ?_
            refine own_by (B := T6.setTop (mkF m 138 #[.val (.int ua), .val (.int ub), .val (.int uc), .val (.int ud), .val (.int ue), .val (.int uf), .val (.int (0 : Int32)), .val (.int ub_), .val (.int us_), .val (.int uc_), .val (.int vs_), .val (.int vc_), .val (.ref b1), .val (.ref b4), .val (.long ((Int32.toInt64 us_) - (Int32.toInt64 uc_))), .second, .val (.long ((Int32.toInt64 vs_) - (Int32.toInt64 vc_))), .second, .unset] [(.int (1 : Int32))])) (fun _ k => XS.goto X6.here hx rfl (pc0 := 134) (pc' := 138) rfl (hb hby at_134) (by decide) (by decide) k) ?_
            rw [show mv7 = (1 : Int32) from hmv7.trans (((if_neg hc9).trans  ((if_neg hc10).trans  ((if_pos hc11).trans rfl))))] at hj8
            exact hj8
          · refine own_by (B := T6.setTop (mkF m 118 #[.val (.int ua), .val (.int ub), .val (.int uc), .val (.int ud), .val (.int ue), .val (.int uf), .val (.int (0 : Int32)), .val (.int ub_), .val (.int us_), .val (.int uc_), .val (.int vs_), .val (.int vc_), .val (.ref b1), .val (.ref b4), .val (.long ((Int32.toInt64 us_) - (Int32.toInt64 uc_))), .second, .val (.long ((Int32.toInt64 vs_) - (Int32.toInt64 vc_))), .second, .unset] [])) (fun _ k => XS.icmpNo X6.here hx rfl (hb hby at_115) rfl (XT.ii_eq_f hc11) k) ?_
            refine own_by (B := T6.setTop (mkF m 120 #[.val (.int ua), .val (.int ub), .val (.int uc), .val (.int ud), .val (.int ue), .val (.int uf), .val (.int (0 : Int32)), .val (.int ub_), .val (.int us_), .val (.int uc_), .val (.int vs_), .val (.int vc_), .val (.ref b1), .val (.ref b4), .val (.long ((Int32.toInt64 us_) - (Int32.toInt64 uc_))), .second, .val (.long ((Int32.toInt64 vs_) - (Int32.toInt64 vc_))), .second, .unset] [(.int ub_)])) (fun _ k => XS.iload X6.here hx rfl (hb hby at_118) rfl  k) ?_
            refine own_by (B := T6.setTop (mkF m 121 #[.val (.int ua), .val (.int ub), .val (.int uc), .val (.int ud), .val (.int ue), .val (.int uf), .val (.int (0 : Int32)), .val (.int ub_), .val (.int us_), .val (.int uc_), .val (.int vs_), .val (.int vc_), .val (.ref b1), .val (.ref b4), .val (.long ((Int32.toInt64 us_) - (Int32.toInt64 uc_))), .second, .val (.long ((Int32.toInt64 vs_) - (Int32.toInt64 vc_))), .second, .unset] [(.int (2 : Int32)), (.int ub_)])) (fun _ k => XS.iconst X6.here hx rfl (hb hby at_120) k) ?_
            by_cases hc12 : ub_ = (2 : Int32)
            · refine own_by (B := T6.setTop (mkF m 124 #[.val (.int ua), .val (.int ub), .val (.int uc), .val (.int ud), .val (.int ue), .val (.int uf), .val (.int (0 : Int32)), .val (.int ub_), .val (.int us_), .val (.int uc_), .val (.int vs_), .val (.int vc_), .val (.ref b1), .val (.ref b4), .val (.long ((Int32.toInt64 us_) - (Int32.toInt64 uc_))), .second, .val (.long ((Int32.toInt64 vs_) - (Int32.toInt64 vc_))), .second, .unset] [])) (fun _ k => XS.icmpNo X6.here hx rfl (hb hby at_121) rfl (XT.ii_ne_f hc12) k) ?_
              refine own_by (B := T6.setTop (mkF m 126 #[.val (.int ua), .val (.int ub), .val (.int uc), .val (.int ud), .val (.int ue), .val (.int uf), .val (.int (0 : Int32)), .val (.int ub_), .val (.int us_), .val (.int uc_), .val (.int vs_), .val (.int vc_), .val (.ref b1), .val (.ref b4), .val (.long ((Int32.toInt64 us_) - (Int32.toInt64 uc_))), .second, .val (.long ((Int32.toInt64 vs_) - (Int32.toInt64 vc_))), .second, .unset] [(.long ((Int32.toInt64 vs_) - (Int32.toInt64 vc_)))])) (fun _ k => XT.lload X6.here hx rfl (hb hby at_124) rfl  k) ?_
              refine own_by (B := T6.setTop (mkF m 129 #[.val (.int ua), .val (.int ub), .val (.int uc), .val (.int ud), .val (.int ue), .val (.int uf), .val (.int (0 : Int32)), .val (.int ub_), .val (.int us_), .val (.int uc_), .val (.int vs_), .val (.int vc_), .val (.ref b1), .val (.ref b4), .val (.long ((Int32.toInt64 us_) - (Int32.toInt64 uc_))), .second, .val (.long ((Int32.toInt64 vs_) - (Int32.toInt64 vc_))), .second, .unset] [(.long (10 : Int64)), (.long ((Int32.toInt64 vs_) - (Int32.toInt64 vc_)))])) (fun _ k => X6.ldc2J (g := (mkF m 126 #[.val (.int ua), .val (.int ub), .val (.int uc), .val (.int ud), .val (.int ue), .val (.int uf), .val (.int (0 : Int32)), .val (.int ub_), .val (.int us_), .val (.int uc_), .val (.int vs_), .val (.int vc_), .val (.ref b1), .val (.ref b4), .val (.long ((Int32.toInt64 us_) - (Int32.toInt64 uc_))), .second, .val (.long ((Int32.toInt64 vs_) - (Int32.toInt64 vc_))), .second, .unset] [(.long ((Int32.toInt64 vs_) - (Int32.toInt64 vc_)))])) hx hown (mvT hZ (hw _ (List.mem_of_getElem? (i := 54) rfl))) rfl (hb hby at_126) k) ?_
              refine own_by (B := T6.setTop (mkF m 130 #[.val (.int ua), .val (.int ub), .val (.int uc), .val (.int ud), .val (.int ue), .val (.int uf), .val (.int (0 : Int32)), .val (.int ub_), .val (.int us_), .val (.int uc_), .val (.int vs_), .val (.int vc_), .val (.ref b1), .val (.ref b4), .val (.long ((Int32.toInt64 us_) - (Int32.toInt64 uc_))), .second, .val (.long ((Int32.toInt64 vs_) - (Int32.toInt64 vc_))), .second, .unset] [(.int (XT.cmpL ((Int32.toInt64 vs_) - (Int32.toInt64 vc_)) (10 : Int64)))])) (fun _ k => XT.lcmp X6.here hx rfl (hb hby at_129) rfl k) ?_
              by_cases hc13 : ((Int32.toInt64 vs_) - (Int32.toInt64 vc_)) < (10 : Int64)
              · refine own_by (B := T6.setTop (mkF m 137 #[.val (.int ua), .val (.int ub), .val (.int uc), .val (.int ud), .val (.int ue), .val (.int uf), .val (.int (0 : Int32)), .val (.int ub_), .val (.int us_), .val (.int uc_), .val (.int vs_), .val (.int vc_), .val (.ref b1), .val (.ref b4), .val (.long ((Int32.toInt64 us_) - (Int32.toInt64 uc_))), .second, .val (.long ((Int32.toInt64 vs_) - (Int32.toInt64 vc_))), .second, .unset] [])) (fun _ k => XS.ifYes X6.here hx rfl (pc0 := 130) (pc' := 137) rfl (hb hby at_130) rfl (XT.ll_lt_t hc13) (by decide) (by decide) k) ?_
                refine own_by (B := T6.setTop (mkF m 138 #[.val (.int ua), .val (.int ub), .val (.int uc), .val (.int ud), .val (.int ue), .val (.int uf), .val (.int (0 : Int32)), .val (.int ub_), .val (.int us_), .val (.int uc_), .val (.int vs_), .val (.int vc_), .val (.ref b1), .val (.ref b4), .val (.long ((Int32.toInt64 us_) - (Int32.toInt64 uc_))), .second, .val (.long ((Int32.toInt64 vs_) - (Int32.toInt64 vc_))), .second, .unset] [(.int (0 : Int32))])) (fun _ k => XS.iconst X6.here hx rfl (hb hby at_137) k) ?_
                rw [show mv7 = (0 : Int32) from hmv7.trans (((if_neg hc9).trans  ((if_neg hc10).trans  ((if_neg hc11).trans  ((if_pos hc12).trans  ((if_pos hc13).trans rfl))))))] at hj8
                exact hj8
              · refine own_by (B := T6.setTop (mkF m 133 #[.val (.int ua), .val (.int ub), .val (.int uc), .val (.int ud), .val (.int ue), .val (.int uf), .val (.int (0 : Int32)), .val (.int ub_), .val (.int us_), .val (.int uc_), .val (.int vs_), .val (.int vc_), .val (.ref b1), .val (.ref b4), .val (.long ((Int32.toInt64 us_) - (Int32.toInt64 uc_))), .second, .val (.long ((Int32.toInt64 vs_) - (Int32.toInt64 vc_))), .second, .unset] [])) (fun _ k => XS.ifNo X6.here hx rfl (hb hby at_130) rfl (XT.ll_lt_f hc13) k) ?_
                refine own_by (B := T6.setTop (mkF m 134 #[.val (.int ua), .val (.int ub), .val (.int uc), .val (.int ud), .val (.int ue), .val (.int uf), .val (.int (0 : Int32)), .val (.int ub_), .val (.int us_), .val (.int uc_), .val (.int vs_), .val (.int vc_), .val (.ref b1), .val (.ref b4), .val (.long ((Int32.toInt64 us_) - (Int32.toInt64 uc_))), .second, .val (.long ((Int32.toInt64 vs_) - (Int32.toInt64 vc_))), .second, .unset] [(.int (1 : Int32))])) (fun _ k => XS.iconst X6.here hx rfl (hb hby at_133) k) ?_
                refine own_by (B := T6.setTop (mkF m 138 #[.val (.int ua), .val (.int ub), .val (.int uc), .val (.int ud), .val (.int ue), .val (.int uf), .val (.int (0 : Int32)), .val (.int ub_), .val (.int us_), .val (.int uc_), .val (.int vs_), .val (.int vc_), .val (.ref b1), .val (.ref b4), .val (.long ((Int32.toInt64 us_) - (Int32.toInt64 uc_))), .second, .val (.long ((Int32.toInt64 vs_) - (Int32.toInt64 vc_))), .second, .unset] [(.int (1 : Int32))])) (fun _ k => XS.goto X6.here hx rfl (pc0 := 134) (pc' := 138) rfl (hb hby at_134) (by decide) (by decide) k) ?_
                rw [show mv7 = (1 : Int32) from hmv7.trans (((if_neg hc9).trans  ((if_neg hc10).trans  ((if_neg hc11).trans  ((if_pos hc12).trans  ((if_neg hc13).trans rfl))))))] at hj8
                exact hj8
            · refine own_by (B := T6.setTop (mkF m 137 #[.val (.int ua), .val (.int ub), .val (.int uc), .val (.int ud), .val (.int ue), .val (.int uf), .val (.int (0 : Int32)), .val (.int ub_), .val (.int us_), .val (.int uc_), .val (.int vs_), .val (.int vc_), .val (.ref b1), .val (.ref b4), .val (.long ((Int32.toInt64 us_) - (Int32.toInt64 uc_))), .second, .val (.long ((Int32.toInt64 vs_) - (Int32.toInt64 vc_))), .second, .unset] [])) (fun _ k => XS.icmpYes X6.here hx rfl (pc0 := 121) (pc' := 137) rfl (hb hby at_121) rfl (XT.ii_ne_t hc12) (by decide) (by decide) k) ?_
              refine own_by (B := T6.setTop (mkF m 138 #[.val (.int ua), .val (.int ub), .val (.int uc), .val (.int ud), .val (.int ue), .val (.int uf), .val (.int (0 : Int32)), .val (.int ub_), .val (.int us_), .val (.int uc_), .val (.int vs_), .val (.int vc_), .val (.ref b1), .val (.ref b4), .val (.long ((Int32.toInt64 us_) - (Int32.toInt64 uc_))), .second, .val (.long ((Int32.toInt64 vs_) - (Int32.toInt64 vc_))), .second, .unset] [(.int (0 : Int32))])) (fun _ k => XS.iconst X6.here hx rfl (hb hby at_137) k) ?_
              rw [show mv7 = (0 : Int32) from hmv7.trans (((if_neg hc9).trans  ((if_neg hc10).trans  ((if_neg hc11).trans  ((if_neg hc12).trans rfl)))))] at hj8
              exact hj8
    refine own_by (B := T6.setTop (mkF m 140 #[.val (.int ua), .val (.int ub), .val (.int uc), .val (.int ud), .val (.int ue), .val (.int uf), .val (.int (0 : Int32)), .val (.int ub_), .val (.int us_), .val (.int uc_), .val (.int vs_), .val (.int vc_), .val (.ref b1), .val (.ref b4), .val (.long ((Int32.toInt64 us_) - (Int32.toInt64 uc_))), .second, .val (.long ((Int32.toInt64 vs_) - (Int32.toInt64 vc_))), .second, .val (.int mv7)] [])) (fun _ k => XS.istore X6.here hx rfl (hb hby at_138) rfl (l' := #[.val (.int ua), .val (.int ub), .val (.int uc), .val (.int ud), .val (.int ue), .val (.int uf), .val (.int (0 : Int32)), .val (.int ub_), .val (.int us_), .val (.int uc_), .val (.int vs_), .val (.int vc_), .val (.ref b1), .val (.ref b4), .val (.long ((Int32.toInt64 us_) - (Int32.toInt64 uc_))), .second, .val (.long ((Int32.toInt64 vs_) - (Int32.toInt64 vc_))), .second, .val (.int mv7)]) rfl k) ?_
    refine own_by (B := T6.setTop (mkF m 271 #[.val (.int ua), .val (.int ub), .val (.int uc), .val (.int ud), .val (.int ue), .val (.int uf), .val (.int (0 : Int32)), .val (.int ub_), .val (.int us_), .val (.int uc_), .val (.int vs_), .val (.int vc_), .val (.ref b1), .val (.ref b4), .val (.long ((Int32.toInt64 us_) - (Int32.toInt64 uc_))), .second, .val (.long ((Int32.toInt64 vs_) - (Int32.toInt64 vc_))), .second, .val (.int mv7)] [])) (fun _ k => XS.goto X6.here hx rfl (pc0 := 140) (pc' := 271) rfl (hb hby at_140) (by decide) (by decide) k) ?_
    refine own_by (B := T6.setTop (mkF m 273 #[.val (.int ua), .val (.int ub), .val (.int uc), .val (.int ud), .val (.int ue), .val (.int uf), .val (.int (0 : Int32)), .val (.int ub_), .val (.int us_), .val (.int uc_), .val (.int vs_), .val (.int vc_), .val (.ref b1), .val (.ref b4), .val (.long ((Int32.toInt64 us_) - (Int32.toInt64 uc_))), .second, .val (.long ((Int32.toInt64 vs_) - (Int32.toInt64 vc_))), .second, .val (.int mv7)] [(.ref b1)])) (fun _ k => XS.aload X6.here hx rfl (hb hby at_271) rfl rfl  k) ?_
    refine own_by (B := T6.setTop (mkF m 275 #[.val (.int ua), .val (.int ub), .val (.int uc), .val (.int ud), .val (.int ue), .val (.int uf), .val (.int (0 : Int32)), .val (.int ub_), .val (.int us_), .val (.int uc_), .val (.int vs_), .val (.int vc_), .val (.ref b1), .val (.ref b4), .val (.long ((Int32.toInt64 us_) - (Int32.toInt64 uc_))), .second, .val (.long ((Int32.toInt64 vs_) - (Int32.toInt64 vc_))), .second, .val (.int mv7)] [(.ref b4), (.ref b1)])) (fun _ k => XS.aload X6.here hx rfl (hb hby at_273) rfl rfl  k) ?_
    have c14 := ((EC3.ext E4).keep KC6)
    have c15 := ((FC3_0.ext E4).keep KC6 (ninS (own_ne (by omega)) nin0))
    have c16 := ((FC3_1.ext E4).keep KC6 (ninS (own_ne (by omega)) nin0))
    have c17 := ((FC3_2.ext E4).keep KC6 (ninS (own_ne (by omega)) nin0))
    have CHn : CHv Z own_EL s.vm h6 := (CHv.keep KC6 (sfS (Safe.exa hZ.alike A4 (by decide) (by decide)) sf0) (CHv.ext E4 (CHv.keep KC3 (sfS (Safe.exa hZ.alike A1 (by decide) (by decide)) sf0) (CHv.ext E1 CH0))))
    obtain ⟨cq18, kq18, qa18, qb18, qc18⟩ := isOf hZ e6 c14
    obtain ⟨_, _, ⟨T18, L18, k18, n18⟩, -, X18, hS18, hle18, ⟨Lc18, hQ18, l18, y18, z18, CR18⟩, st18⟩ := Jvm.Stand.virtualBackS X6 hx (y := (⟨"com/example/planwright/planwright/cache/LiteralType", "fits", "(Lcom/example/planwright/planwright/cache/LiteralType;)Z"⟩ : MethodName)) (z := (⟨"com/example/planwright/planwright/cache/LiteralType", "fits", "(Lcom/example/planwright/planwright/cache/LiteralType;)Z"⟩ : MethodName)) hown (mvT hZ (hw _ (List.mem_of_getElem? (i := 30) rfl))) (mvT hZ (hw _ (List.mem_of_getElem? (i := 31) rfl))) (notFace_of_selects (args := #[]) (mvT hZ (hw _ (List.mem_of_getElem? (i := 33) rfl)))) (mvT hZ (hw _ (List.mem_of_getElem? (i := 33) rfl))) (mvT hZ (hw _ (List.mem_of_getElem? (i := 32) rfl))) (by decide) (backOfSH (s := s) (vm0 := s.vm) (W := 0) (rmFitINTEGER l Z a0 hw [] a_INTEGER a_BIGINT a_VARCHAR a_DECIMAL a_DOUBLE ucs b1 b4 uk us_ uc_ vs_ vc_ h6 n0 (own_old_le O6) O6 HW c14 c15 c16 c17 EC6 FC6_0 FC6_1 FC6_2) hZ (hw _ (List.mem_of_getElem? (i := 34) rfl)) (hw _ (List.mem_of_getElem? (i := 3) rfl)) (by decide) (by decide) own_hEL CHn) qa18 qc18 (g := (mkF m 275 #[.val (.int ua), .val (.int ub), .val (.int uc), .val (.int ud), .val (.int ue), .val (.int uf), .val (.int (0 : Int32)), .val (.int ub_), .val (.int us_), .val (.int uc_), .val (.int vs_), .val (.int vc_), .val (.ref b1), .val (.ref b4), .val (.long ((Int32.toInt64 us_) - (Int32.toInt64 uc_))), .second, .val (.long ((Int32.toInt64 vs_) - (Int32.toInt64 vc_))), .second, .val (.int mv7)] [(.ref b4), (.ref b1)])) rfl (by rw [hml]; rfl) (Steps.refl _) (argsL := [(.ref b4)]) (rest := []) (lenOf pd_0__Lcom_example_planwright_planwright_cache_LiteralType__Z rfl) rfl (by show 2 * 0 + _ ≤ _; exact Nat.le_of_eq rfl) (hb hby at_275) (fun _ _ => ⟨rfl, e6, (by decide : 2 + 2 ≤ _), (by decide : 6 + 44 ≤ _)⟩)
    dsimp only [Pt.U, Pt.locs, Pt.cells, Pt.slots] at X18 l18 y18 z18 st18 hQ18 hS18 hle18 CR18
    subst l18 y18 z18
    obtain ⟨rfl, N18, KC18⟩ := hQ18
    have M18 := Fr.app N6 N18
    refine own_by (B := T18.setTop (mkF m 278 #[.val (.int ua), .val (.int ub), .val (.int uc), .val (.int ud), .val (.int ue), .val (.int uf), .val (.int (0 : Int32)), .val (.int ub_), .val (.int us_), .val (.int uc_), .val (.int vs_), .val (.int vc_), .val (.ref b1), .val (.ref b4), .val (.long ((Int32.toInt64 us_) - (Int32.toInt64 uc_))), .second, .val (.long ((Int32.toInt64 vs_) - (Int32.toInt64 vc_))), .second, .val (.int mv7)] [(.int (own_fitINTEGER uk us_ uc_ vs_ vc_ a_INTEGER a_BIGINT a_DECIMAL a_DOUBLE a_VARCHAR))])) (fun _ k => st18.trans k) ?_
    refine own_by (B := T18.setTop (mkF m 280 #[.val (.int ua), .val (.int ub), .val (.int uc), .val (.int ud), .val (.int ue), .val (.int uf), .val (.int (0 : Int32)), .val (.int ub_), .val (.int us_), .val (.int uc_), .val (.int vs_), .val (.int vc_), .val (.ref b1), .val (.ref b4), .val (.long ((Int32.toInt64 us_) - (Int32.toInt64 uc_))), .second, .val (.long ((Int32.toInt64 vs_) - (Int32.toInt64 vc_))), .second, .val (.int mv7)] [(.int mv7), (.int (own_fitINTEGER uk us_ uc_ vs_ vc_ a_INTEGER a_BIGINT a_DECIMAL a_DOUBLE a_VARCHAR))])) (fun _ k => XS.iload X18.here hx rfl (hb hby at_278) rfl  k) ?_
    refine own_by (B := T18.setTop (mkF m 283 #[.val (.int ua), .val (.int ub), .val (.int uc), .val (.int ud), .val (.int ue), .val (.int uf), .val (.int (0 : Int32)), .val (.int ub_), .val (.int us_), .val (.int uc_), .val (.int vs_), .val (.int vc_), .val (.ref b1), .val (.ref b4), .val (.long ((Int32.toInt64 us_) - (Int32.toInt64 uc_))), .second, .val (.long ((Int32.toInt64 vs_) - (Int32.toInt64 vc_))), .second, .val (.int mv7)] [])) (fun _ k => XS.icmpNo X18.here hx rfl (hb hby at_280) rfl (XT.ii_ne_f (by rw [huk]; exact own_lawINTEGER hb0 hb1 hp1 hp2 hp3 hp4 hD hmv7)) k) ?_
    refine own_by (B := T18.setTop (mkF m 284 #[.val (.int ua), .val (.int ub), .val (.int uc), .val (.int ud), .val (.int ue), .val (.int uf), .val (.int (0 : Int32)), .val (.int ub_), .val (.int us_), .val (.int uc_), .val (.int vs_), .val (.int vc_), .val (.ref b1), .val (.ref b4), .val (.long ((Int32.toInt64 us_) - (Int32.toInt64 uc_))), .second, .val (.long ((Int32.toInt64 vs_) - (Int32.toInt64 vc_))), .second, .val (.int mv7)] [(.int (1 : Int32))])) (fun _ k => XS.iconst X18.here hx rfl (hb hby at_283) k) ?_
    refine own_by (B := T18.setTop (mkF m 288 #[.val (.int ua), .val (.int ub), .val (.int uc), .val (.int ud), .val (.int ue), .val (.int uf), .val (.int (0 : Int32)), .val (.int ub_), .val (.int us_), .val (.int uc_), .val (.int vs_), .val (.int vc_), .val (.ref b1), .val (.ref b4), .val (.long ((Int32.toInt64 us_) - (Int32.toInt64 uc_))), .second, .val (.long ((Int32.toInt64 vs_) - (Int32.toInt64 vc_))), .second, .val (.int mv7)] [(.int (1 : Int32))])) (fun _ k => XS.goto X18.here hx rfl (pc0 := 284) (pc' := 288) rfl (hb hby at_284) (by decide) (by decide) k) ?_
    exact own_retZL (s := s) X18 hx hS18 (Nat.le_refl _) hrt hlk rfl (hb hby at_288) (by decide) (by decide) ⟨rfl, M18⟩
  · obtain ⟨T19, h19, X19, e19, E19, A19, D19, -, st19⟩ := newO X0 hx hZ hown (hw _ (List.mem_of_getElem? (i := 1) rfl)) (hw _ (List.mem_of_getElem? (i := 2) rfl)) (hw _ (List.mem_of_getElem? (i := 3) rfl)) e0 (g := (mkF m 42 #[.val (.int ua), .val (.int ub), .val (.int uc), .val (.int ud), .val (.int ue), .val (.int uf), .val (.int (1 : Int32)), .val (.int ub_), .val (.int us_), .val (.int uc_), .val (.int vs_), .val (.int vc_), .unset, .unset, .unset, .unset, .unset, .unset, .unset] [])) rfl (hb hby at_42) (by decide) (by decide)
    obtain ⟨b19, g19⟩ : ∃ z, z = h0.size := ⟨_, rfl⟩
    rw [← g19] at A19 D19 st19
    have sz19 := E19.1
    have gn19 : n0 ≤ b19 := g19 ▸ own_old_le O0
    have fz19 : h0.size ≤ b19 := g19 ▸ K0.1
    have lt19 := own_lt A19.lt
    have O19 := O0.ext E19
    have K19 := K0.ext E19
    have F19_kind : Fld Z h19 b19 "com/example/planwright/planwright/cache/LiteralType" "kind" "Lcom/example/planwright/planwright/cache/LiteralType$Kind;" .null := D19 (Or.inr (hw _ (List.mem_of_getElem? (i := 23) rfl))) (ty := (.object "com/example/planwright/planwright/cache/LiteralType$Kind")) (by decide)
    have F19_size : Fld Z h19 b19 "com/example/planwright/planwright/cache/LiteralType" "size" "I" (.int (0 : Int32)) := D19 (Or.inr (hw _ (List.mem_of_getElem? (i := 25) rfl))) (ty := .int) (by decide)
    have F19_scale : Fld Z h19 b19 "com/example/planwright/planwright/cache/LiteralType" "scale" "I" (.int (0 : Int32)) := D19 (Or.inr (hw _ (List.mem_of_getElem? (i := 27) rfl))) (ty := .int) (by decide)
    refine own_by (B := T19.setTop (mkF m 45 #[.val (.int ua), .val (.int ub), .val (.int uc), .val (.int ud), .val (.int ue), .val (.int uf), .val (.int (1 : Int32)), .val (.int ub_), .val (.int us_), .val (.int uc_), .val (.int vs_), .val (.int vc_), .unset, .unset, .unset, .unset, .unset, .unset, .unset] [(.ref b19)])) st19 ?_
    refine own_by (B := T19.setTop (mkF m 46 #[.val (.int ua), .val (.int ub), .val (.int uc), .val (.int ud), .val (.int ue), .val (.int uf), .val (.int (1 : Int32)), .val (.int ub_), .val (.int us_), .val (.int uc_), .val (.int vs_), .val (.int vc_), .unset, .unset, .unset, .unset, .unset, .unset, .unset] [(.ref b19), (.ref b19)])) (fun _ k => XS.dup X19.here hx rfl (hb hby at_45) rfl rfl k) ?_
    refine own_by (B := T19.setTop (mkF m 48 #[.val (.int ua), .val (.int ub), .val (.int uc), .val (.int ud), .val (.int ue), .val (.int uf), .val (.int (1 : Int32)), .val (.int ub_), .val (.int us_), .val (.int uc_), .val (.int vs_), .val (.int vc_), .unset, .unset, .unset, .unset, .unset, .unset, .unset] [(.int (1 : Int32)), (.ref b19), (.ref b19)])) (fun _ k => XS.iload X19.here hx rfl (hb hby at_46) rfl  k) ?_
    obtain ⟨_, _, ⟨T20, L20, k20, n20⟩, -, X20, ⟨Lc20, hQ20, l20, y20, z20⟩, st20⟩ := Jvm.LawKit.callS X19 hx (y := (⟨"com/example/planwright/planwright/cache/LiteralTypeFitsPinLaw", "kindOf", "(I)Lcom/example/planwright/planwright/cache/LiteralType$Kind;"⟩ : MethodName)) hown (mvT hZ (hw _ (List.mem_of_getElem? (i := 4) rfl))) (mvT hZ (hw _ (List.mem_of_getElem? (i := 5) rfl))) (mvT hZ (hw _ (List.mem_of_getElem? (i := 6) rfl))) (mvT hZ (hw _ (List.mem_of_getElem? (i := 7) rfl))) (by decide) (backOf (W := 2) (rmKo l Z a0 hw [] a_INTEGER a_BIGINT a_VARCHAR a_DECIMAL a_DOUBLE ucs (1 : Int32) h19 n0 (own_old_le O19) O19 HW) hZ (hw _ (List.mem_of_getElem? (i := 7) rfl)) (hw _ (List.mem_of_getElem? (i := 6) rfl)) (by decide) (by decide)) (g := (mkF m 48 #[.val (.int ua), .val (.int ub), .val (.int uc), .val (.int ud), .val (.int ue), .val (.int uf), .val (.int (1 : Int32)), .val (.int ub_), .val (.int us_), .val (.int uc_), .val (.int vs_), .val (.int vc_), .unset, .unset, .unset, .unset, .unset, .unset, .unset] [(.int (1 : Int32)), (.ref b19), (.ref b19)])) rfl (by rw [hml]; rfl) (argsL := [(.int (1 : Int32))]) (rest := [(.ref b19), (.ref b19)]) (lenOf pd_0__I_Lcom_example_planwright_planwright_cache_LiteralType_Kind_ rfl) rfl (by show 2 * 0 + _ ≤ _; exact Nat.le_of_eq rfl) (hb hby at_48) (fun _ _ => ⟨rfl, e19, (by decide : 1 + 0 ≤ _), (by decide : 3 + 0 ≤ _)⟩)
    dsimp only [Pt.U, Pt.locs, Pt.cells, Pt.slots] at X20 l20 y20 z20 st20 hQ20
    subst l20 y20 z20
    obtain ⟨rfl, N20, e20⟩ := hQ20
    refine own_by (B := T20.setTop (mkF m 51 #[.val (.int ua), .val (.int ub), .val (.int uc), .val (.int ud), .val (.int ue), .val (.int uf), .val (.int (1 : Int32)), .val (.int ub_), .val (.int us_), .val (.int uc_), .val (.int vs_), .val (.int vc_), .unset, .unset, .unset, .unset, .unset, .unset, .unset] [(.ref (own_ko (1 : Int32) a_INTEGER a_BIGINT a_DECIMAL a_DOUBLE a_VARCHAR)), (.ref b19), (.ref b19)])) st20 ?_
    have M20 := Fr.app N0 N20
    rw [show (own_ko (1 : Int32) a_INTEGER a_BIGINT a_DECIMAL a_DOUBLE a_VARCHAR) = a_BIGINT from by unfold own_ko; rw [if_neg (by decide), if_pos (by decide)]]
    refine own_by (B := T20.setTop (mkF m 53 #[.val (.int ua), .val (.int ub), .val (.int uc), .val (.int ud), .val (.int ue), .val (.int uf), .val (.int (1 : Int32)), .val (.int ub_), .val (.int us_), .val (.int uc_), .val (.int vs_), .val (.int vc_), .unset, .unset, .unset, .unset, .unset, .unset, .unset] [(.int us_), (.ref a_BIGINT), (.ref b19), (.ref b19)])) (fun _ k => XS.iload X20.here hx rfl (hb hby at_51) rfl  k) ?_
    refine own_by (B := T20.setTop (mkF m 55 #[.val (.int ua), .val (.int ub), .val (.int uc), .val (.int ud), .val (.int ue), .val (.int uf), .val (.int (1 : Int32)), .val (.int ub_), .val (.int us_), .val (.int uc_), .val (.int vs_), .val (.int vc_), .unset, .unset, .unset, .unset, .unset, .unset, .unset] [(.int uc_), (.int us_), (.ref a_BIGINT), (.ref b19), (.ref b19)])) (fun _ k => XS.iload X20.here hx rfl (hb hby at_53) rfl  k) ?_
    obtain ⟨_, _, ⟨T21, L21, k21, n21⟩, -, X21, ⟨Lc21, hQ21, l21, y21, z21⟩, st21⟩ := X20.specialBack hx (y := (⟨"com/example/planwright/planwright/cache/LiteralType", "<init>", "(Lcom/example/planwright/planwright/cache/LiteralType$Kind;II)V"⟩ : MethodName)) rfl hown (mvT hZ (hw _ (List.mem_of_getElem? (i := 11) rfl))) (mvT hZ (hw _ (List.mem_of_getElem? (i := 12) rfl))) (mvT hZ (hw _ (List.mem_of_getElem? (i := 13) rfl))) (by decide) (backOf (W := 1) (rmLT l Z a0 hw [] b19 a_BIGINT us_ uc_ h19 n0 (own_old_le O19) O19 A19 F19_kind F19_size F19_scale gn19) hZ (hw _ (List.mem_of_getElem? (i := 13) rfl)) (hw _ (List.mem_of_getElem? (i := 3) rfl)) (by decide) (by decide)) (g := (mkF m 55 #[.val (.int ua), .val (.int ub), .val (.int uc), .val (.int ud), .val (.int ue), .val (.int uf), .val (.int (1 : Int32)), .val (.int ub_), .val (.int us_), .val (.int uc_), .val (.int vs_), .val (.int vc_), .unset, .unset, .unset, .unset, .unset, .unset, .unset] [(.int uc_), (.int us_), (.ref a_BIGINT), (.ref b19), (.ref b19)])) rfl (by rw [hml]; rfl) (Steps.refl _) (a := b19) (argsL := [(.ref a_BIGINT), (.int us_), (.int uc_)]) (rest := [(.ref b19)]) (lenOf pd_0__Lcom_example_planwright_planwright_cache_LiteralType_Kind_II_V rfl) rfl (by show 2 * 0 + _ ≤ _; exact Nat.le_of_eq rfl) (hb hby at_55) (fun _ _ => ⟨rfl, e20, (by decide : 1 + 0 ≤ _), (by decide : 3 + 0 ≤ _)⟩)
    dsimp only [Pt.U, Pt.locs, Pt.cells, Pt.slots] at X21 l21 y21 z21 st21 hQ21
    subst l21 y21 z21
    obtain ⟨rfl, NC21, KC21, EC21, FC21_0, FC21_1, FC21_2⟩ := hQ21
    refine own_by (B := T21.setTop (mkF m 58 #[.val (.int ua), .val (.int ub), .val (.int uc), .val (.int ud), .val (.int ue), .val (.int uf), .val (.int (1 : Int32)), .val (.int ub_), .val (.int us_), .val (.int uc_), .val (.int vs_), .val (.int vc_), .unset, .unset, .unset, .unset, .unset, .unset, .unset] [(.ref b19)])) (fun _ k => st21.trans k) ?_
    obtain ⟨h21, e21⟩ : ∃ z, T21.heap = z := ⟨_, rfl⟩
    rw [e21] at KC21 EC21 FC21_0 FC21_1 FC21_2
    have sz21 := KC21.1
    have O21 := O19.keep KC21 (allS gn19 all0)
    have K21 := K19.trans KC21 (allS (Or.inr fz19) all0)
    have N21 := Fr.app M20 NC21
    refine own_by (B := T21.setTop (mkF m 60 #[.val (.int ua), .val (.int ub), .val (.int uc), .val (.int ud), .val (.int ue), .val (.int uf), .val (.int (1 : Int32)), .val (.int ub_), .val (.int us_), .val (.int uc_), .val (.int vs_), .val (.int vc_), .val (.ref b19), .unset, .unset, .unset, .unset, .unset, .unset] [])) (fun _ k => XS.astore X21.here hx rfl (hb hby at_58) rfl rfl (l' := #[.val (.int ua), .val (.int ub), .val (.int uc), .val (.int ud), .val (.int ue), .val (.int uf), .val (.int (1 : Int32)), .val (.int ub_), .val (.int us_), .val (.int uc_), .val (.int vs_), .val (.int vc_), .val (.ref b19), .unset, .unset, .unset, .unset, .unset, .unset]) rfl k) ?_
    obtain ⟨T22, h22, X22, e22, E22, A22, D22, -, st22⟩ := newO X21 hx hZ hown (hw _ (List.mem_of_getElem? (i := 1) rfl)) (hw _ (List.mem_of_getElem? (i := 2) rfl)) (hw _ (List.mem_of_getElem? (i := 3) rfl)) e21 (g := (mkF m 60 #[.val (.int ua), .val (.int ub), .val (.int uc), .val (.int ud), .val (.int ue), .val (.int uf), .val (.int (1 : Int32)), .val (.int ub_), .val (.int us_), .val (.int uc_), .val (.int vs_), .val (.int vc_), .val (.ref b19), .unset, .unset, .unset, .unset, .unset, .unset] [])) rfl (hb hby at_60) (by decide) (by decide)
    obtain ⟨b22, g22⟩ : ∃ z, z = h21.size := ⟨_, rfl⟩
    rw [← g22] at A22 D22 st22
    have sz22 := E22.1
    have gn22 : n0 ≤ b22 := g22 ▸ own_old_le O21
    have fz22 : h0.size ≤ b22 := g22 ▸ K21.1
    have lt22 := own_lt A22.lt
    have O22 := O21.ext E22
    have K22 := K21.ext E22
    have F22_kind : Fld Z h22 b22 "com/example/planwright/planwright/cache/LiteralType" "kind" "Lcom/example/planwright/planwright/cache/LiteralType$Kind;" .null := D22 (Or.inr (hw _ (List.mem_of_getElem? (i := 23) rfl))) (ty := (.object "com/example/planwright/planwright/cache/LiteralType$Kind")) (by decide)
    have F22_size : Fld Z h22 b22 "com/example/planwright/planwright/cache/LiteralType" "size" "I" (.int (0 : Int32)) := D22 (Or.inr (hw _ (List.mem_of_getElem? (i := 25) rfl))) (ty := .int) (by decide)
    have F22_scale : Fld Z h22 b22 "com/example/planwright/planwright/cache/LiteralType" "scale" "I" (.int (0 : Int32)) := D22 (Or.inr (hw _ (List.mem_of_getElem? (i := 27) rfl))) (ty := .int) (by decide)
    refine own_by (B := T22.setTop (mkF m 63 #[.val (.int ua), .val (.int ub), .val (.int uc), .val (.int ud), .val (.int ue), .val (.int uf), .val (.int (1 : Int32)), .val (.int ub_), .val (.int us_), .val (.int uc_), .val (.int vs_), .val (.int vc_), .val (.ref b19), .unset, .unset, .unset, .unset, .unset, .unset] [(.ref b22)])) st22 ?_
    refine own_by (B := T22.setTop (mkF m 64 #[.val (.int ua), .val (.int ub), .val (.int uc), .val (.int ud), .val (.int ue), .val (.int uf), .val (.int (1 : Int32)), .val (.int ub_), .val (.int us_), .val (.int uc_), .val (.int vs_), .val (.int vc_), .val (.ref b19), .unset, .unset, .unset, .unset, .unset, .unset] [(.ref b22), (.ref b22)])) (fun _ k => XS.dup X22.here hx rfl (hb hby at_63) rfl rfl k) ?_
    refine own_by (B := T22.setTop (mkF m 66 #[.val (.int ua), .val (.int ub), .val (.int uc), .val (.int ud), .val (.int ue), .val (.int uf), .val (.int (1 : Int32)), .val (.int ub_), .val (.int us_), .val (.int uc_), .val (.int vs_), .val (.int vc_), .val (.ref b19), .unset, .unset, .unset, .unset, .unset, .unset] [(.int ub_), (.ref b22), (.ref b22)])) (fun _ k => XS.iload X22.here hx rfl (hb hby at_64) rfl  k) ?_
    obtain ⟨_, _, ⟨T23, L23, k23, n23⟩, -, X23, ⟨Lc23, hQ23, l23, y23, z23⟩, st23⟩ := Jvm.LawKit.callS X22 hx (y := (⟨"com/example/planwright/planwright/cache/LiteralTypeFitsPinLaw", "kindOf", "(I)Lcom/example/planwright/planwright/cache/LiteralType$Kind;"⟩ : MethodName)) hown (mvT hZ (hw _ (List.mem_of_getElem? (i := 4) rfl))) (mvT hZ (hw _ (List.mem_of_getElem? (i := 5) rfl))) (mvT hZ (hw _ (List.mem_of_getElem? (i := 6) rfl))) (mvT hZ (hw _ (List.mem_of_getElem? (i := 7) rfl))) (by decide) (backOf (W := 2) (rmKo l Z a0 hw [] a_INTEGER a_BIGINT a_VARCHAR a_DECIMAL a_DOUBLE ucs ub_ h22 n0 (own_old_le O22) O22 HW) hZ (hw _ (List.mem_of_getElem? (i := 7) rfl)) (hw _ (List.mem_of_getElem? (i := 6) rfl)) (by decide) (by decide)) (g := (mkF m 66 #[.val (.int ua), .val (.int ub), .val (.int uc), .val (.int ud), .val (.int ue), .val (.int uf), .val (.int (1 : Int32)), .val (.int ub_), .val (.int us_), .val (.int uc_), .val (.int vs_), .val (.int vc_), .val (.ref b19), .unset, .unset, .unset, .unset, .unset, .unset] [(.int ub_), (.ref b22), (.ref b22)])) rfl (by rw [hml]; rfl) (argsL := [(.int ub_)]) (rest := [(.ref b22), (.ref b22)]) (lenOf pd_0__I_Lcom_example_planwright_planwright_cache_LiteralType_Kind_ rfl) rfl (by show 2 * 0 + _ ≤ _; exact Nat.le_of_eq rfl) (hb hby at_66) (fun _ _ => ⟨rfl, e22, (by decide : 2 + 0 ≤ _), (by decide : 6 + 0 ≤ _)⟩)
    dsimp only [Pt.U, Pt.locs, Pt.cells, Pt.slots] at X23 l23 y23 z23 st23 hQ23
    subst l23 y23 z23
    obtain ⟨rfl, N23, e23⟩ := hQ23
    refine own_by (B := T23.setTop (mkF m 69 #[.val (.int ua), .val (.int ub), .val (.int uc), .val (.int ud), .val (.int ue), .val (.int uf), .val (.int (1 : Int32)), .val (.int ub_), .val (.int us_), .val (.int uc_), .val (.int vs_), .val (.int vc_), .val (.ref b19), .unset, .unset, .unset, .unset, .unset, .unset] [(.ref (own_ko ub_ a_INTEGER a_BIGINT a_DECIMAL a_DOUBLE a_VARCHAR)), (.ref b22), (.ref b22)])) st23 ?_
    have M23 := Fr.app N21 N23
    obtain ⟨uk, huk⟩ : ∃ z : Addr, z = (own_ko ub_ a_INTEGER a_BIGINT a_DECIMAL a_DOUBLE a_VARCHAR) := ⟨_, rfl⟩
    rw [← huk]
    refine own_by (B := T23.setTop (mkF m 71 #[.val (.int ua), .val (.int ub), .val (.int uc), .val (.int ud), .val (.int ue), .val (.int uf), .val (.int (1 : Int32)), .val (.int ub_), .val (.int us_), .val (.int uc_), .val (.int vs_), .val (.int vc_), .val (.ref b19), .unset, .unset, .unset, .unset, .unset, .unset] [(.int vs_), (.ref uk), (.ref b22), (.ref b22)])) (fun _ k => XS.iload X23.here hx rfl (hb hby at_69) rfl  k) ?_
    refine own_by (B := T23.setTop (mkF m 73 #[.val (.int ua), .val (.int ub), .val (.int uc), .val (.int ud), .val (.int ue), .val (.int uf), .val (.int (1 : Int32)), .val (.int ub_), .val (.int us_), .val (.int uc_), .val (.int vs_), .val (.int vc_), .val (.ref b19), .unset, .unset, .unset, .unset, .unset, .unset] [(.int vc_), (.int vs_), (.ref uk), (.ref b22), (.ref b22)])) (fun _ k => XS.iload X23.here hx rfl (hb hby at_71) rfl  k) ?_
    obtain ⟨_, _, ⟨T24, L24, k24, n24⟩, -, X24, ⟨Lc24, hQ24, l24, y24, z24⟩, st24⟩ := X23.specialBack hx (y := (⟨"com/example/planwright/planwright/cache/LiteralType", "<init>", "(Lcom/example/planwright/planwright/cache/LiteralType$Kind;II)V"⟩ : MethodName)) rfl hown (mvT hZ (hw _ (List.mem_of_getElem? (i := 11) rfl))) (mvT hZ (hw _ (List.mem_of_getElem? (i := 12) rfl))) (mvT hZ (hw _ (List.mem_of_getElem? (i := 13) rfl))) (by decide) (backOf (W := 1) (rmLT l Z a0 hw [] b22 uk vs_ vc_ h22 n0 (own_old_le O22) O22 A22 F22_kind F22_size F22_scale gn22) hZ (hw _ (List.mem_of_getElem? (i := 13) rfl)) (hw _ (List.mem_of_getElem? (i := 3) rfl)) (by decide) (by decide)) (g := (mkF m 73 #[.val (.int ua), .val (.int ub), .val (.int uc), .val (.int ud), .val (.int ue), .val (.int uf), .val (.int (1 : Int32)), .val (.int ub_), .val (.int us_), .val (.int uc_), .val (.int vs_), .val (.int vc_), .val (.ref b19), .unset, .unset, .unset, .unset, .unset, .unset] [(.int vc_), (.int vs_), (.ref uk), (.ref b22), (.ref b22)])) rfl (by rw [hml]; rfl) (Steps.refl _) (a := b22) (argsL := [(.ref uk), (.int vs_), (.int vc_)]) (rest := [(.ref b22)]) (lenOf pd_0__Lcom_example_planwright_planwright_cache_LiteralType_Kind_II_V rfl) rfl (by show 2 * 0 + _ ≤ _; exact Nat.le_of_eq rfl) (hb hby at_73) (fun _ _ => ⟨rfl, e23, (by decide : 2 + 0 ≤ _), (by decide : 6 + 0 ≤ _)⟩)
    dsimp only [Pt.U, Pt.locs, Pt.cells, Pt.slots] at X24 l24 y24 z24 st24 hQ24
    subst l24 y24 z24
    obtain ⟨rfl, NC24, KC24, EC24, FC24_0, FC24_1, FC24_2⟩ := hQ24
    refine own_by (B := T24.setTop (mkF m 76 #[.val (.int ua), .val (.int ub), .val (.int uc), .val (.int ud), .val (.int ue), .val (.int uf), .val (.int (1 : Int32)), .val (.int ub_), .val (.int us_), .val (.int uc_), .val (.int vs_), .val (.int vc_), .val (.ref b19), .unset, .unset, .unset, .unset, .unset, .unset] [(.ref b22)])) (fun _ k => st24.trans k) ?_
    obtain ⟨h24, e24⟩ : ∃ z, T24.heap = z := ⟨_, rfl⟩
    rw [e24] at KC24 EC24 FC24_0 FC24_1 FC24_2
    have sz24 := KC24.1
    have O24 := O22.keep KC24 (allS gn22 all0)
    have K24 := K22.trans KC24 (allS (Or.inr fz22) all0)
    have N24 := Fr.app M23 NC24
    refine own_by (B := T24.setTop (mkF m 78 #[.val (.int ua), .val (.int ub), .val (.int uc), .val (.int ud), .val (.int ue), .val (.int uf), .val (.int (1 : Int32)), .val (.int ub_), .val (.int us_), .val (.int uc_), .val (.int vs_), .val (.int vc_), .val (.ref b19), .val (.ref b22), .unset, .unset, .unset, .unset, .unset] [])) (fun _ k => XS.astore X24.here hx rfl (hb hby at_76) rfl rfl (l' := #[.val (.int ua), .val (.int ub), .val (.int uc), .val (.int ud), .val (.int ue), .val (.int uf), .val (.int (1 : Int32)), .val (.int ub_), .val (.int us_), .val (.int uc_), .val (.int vs_), .val (.int vc_), .val (.ref b19), .val (.ref b22), .unset, .unset, .unset, .unset, .unset]) rfl k) ?_
    refine own_by (B := T24.setTop (mkF m 80 #[.val (.int ua), .val (.int ub), .val (.int uc), .val (.int ud), .val (.int ue), .val (.int uf), .val (.int (1 : Int32)), .val (.int ub_), .val (.int us_), .val (.int uc_), .val (.int vs_), .val (.int vc_), .val (.ref b19), .val (.ref b22), .unset, .unset, .unset, .unset, .unset] [(.int us_)])) (fun _ k => XS.iload X24.here hx rfl (hb hby at_78) rfl  k) ?_
    refine own_by (B := T24.setTop (mkF m 81 #[.val (.int ua), .val (.int ub), .val (.int uc), .val (.int ud), .val (.int ue), .val (.int uf), .val (.int (1 : Int32)), .val (.int ub_), .val (.int us_), .val (.int uc_), .val (.int vs_), .val (.int vc_), .val (.ref b19), .val (.ref b22), .unset, .unset, .unset, .unset, .unset] [(.long (Int32.toInt64 us_))])) (fun _ k => XT.i2l X24.here hx rfl (hb hby at_80) rfl k) ?_
    refine own_by (B := T24.setTop (mkF m 83 #[.val (.int ua), .val (.int ub), .val (.int uc), .val (.int ud), .val (.int ue), .val (.int uf), .val (.int (1 : Int32)), .val (.int ub_), .val (.int us_), .val (.int uc_), .val (.int vs_), .val (.int vc_), .val (.ref b19), .val (.ref b22), .unset, .unset, .unset, .unset, .unset] [(.int uc_), (.long (Int32.toInt64 us_))])) (fun _ k => XS.iload X24.here hx rfl (hb hby at_81) rfl  k) ?_
    refine own_by (B := T24.setTop (mkF m 84 #[.val (.int ua), .val (.int ub), .val (.int uc), .val (.int ud), .val (.int ue), .val (.int uf), .val (.int (1 : Int32)), .val (.int ub_), .val (.int us_), .val (.int uc_), .val (.int vs_), .val (.int vc_), .val (.ref b19), .val (.ref b22), .unset, .unset, .unset, .unset, .unset] [(.long (Int32.toInt64 uc_)), (.long (Int32.toInt64 us_))])) (fun _ k => XT.i2l X24.here hx rfl (hb hby at_83) rfl k) ?_
    refine own_by (B := T24.setTop (mkF m 85 #[.val (.int ua), .val (.int ub), .val (.int uc), .val (.int ud), .val (.int ue), .val (.int uf), .val (.int (1 : Int32)), .val (.int ub_), .val (.int us_), .val (.int uc_), .val (.int vs_), .val (.int vc_), .val (.ref b19), .val (.ref b22), .unset, .unset, .unset, .unset, .unset] [(.long ((Int32.toInt64 us_) - (Int32.toInt64 uc_)))])) (fun _ k => XT.lsub X24.here hx rfl (hb hby at_84) rfl k) ?_
    refine own_by (B := T24.setTop (mkF m 87 #[.val (.int ua), .val (.int ub), .val (.int uc), .val (.int ud), .val (.int ue), .val (.int uf), .val (.int (1 : Int32)), .val (.int ub_), .val (.int us_), .val (.int uc_), .val (.int vs_), .val (.int vc_), .val (.ref b19), .val (.ref b22), .val (.long ((Int32.toInt64 us_) - (Int32.toInt64 uc_))), .second, .unset, .unset, .unset] [])) (fun _ k => XT.lstore X24.here hx rfl (hb hby at_85) rfl (l' := #[.val (.int ua), .val (.int ub), .val (.int uc), .val (.int ud), .val (.int ue), .val (.int uf), .val (.int (1 : Int32)), .val (.int ub_), .val (.int us_), .val (.int uc_), .val (.int vs_), .val (.int vc_), .val (.ref b19), .val (.ref b22), .val (.long ((Int32.toInt64 us_) - (Int32.toInt64 uc_))), .second, .unset, .unset, .unset]) rfl k) ?_
    refine own_by (B := T24.setTop (mkF m 89 #[.val (.int ua), .val (.int ub), .val (.int uc), .val (.int ud), .val (.int ue), .val (.int uf), .val (.int (1 : Int32)), .val (.int ub_), .val (.int us_), .val (.int uc_), .val (.int vs_), .val (.int vc_), .val (.ref b19), .val (.ref b22), .val (.long ((Int32.toInt64 us_) - (Int32.toInt64 uc_))), .second, .unset, .unset, .unset] [(.int vs_)])) (fun _ k => XS.iload X24.here hx rfl (hb hby at_87) rfl  k) ?_
    refine own_by (B := T24.setTop (mkF m 90 #[.val (.int ua), .val (.int ub), .val (.int uc), .val (.int ud), .val (.int ue), .val (.int uf), .val (.int (1 : Int32)), .val (.int ub_), .val (.int us_), .val (.int uc_), .val (.int vs_), .val (.int vc_), .val (.ref b19), .val (.ref b22), .val (.long ((Int32.toInt64 us_) - (Int32.toInt64 uc_))), .second, .unset, .unset, .unset] [(.long (Int32.toInt64 vs_))])) (fun _ k => XT.i2l X24.here hx rfl (hb hby at_89) rfl k) ?_
    refine own_by (B := T24.setTop (mkF m 92 #[.val (.int ua), .val (.int ub), .val (.int uc), .val (.int ud), .val (.int ue), .val (.int uf), .val (.int (1 : Int32)), .val (.int ub_), .val (.int us_), .val (.int uc_), .val (.int vs_), .val (.int vc_), .val (.ref b19), .val (.ref b22), .val (.long ((Int32.toInt64 us_) - (Int32.toInt64 uc_))), .second, .unset, .unset, .unset] [(.int vc_), (.long (Int32.toInt64 vs_))])) (fun _ k => XS.iload X24.here hx rfl (hb hby at_90) rfl  k) ?_
    refine own_by (B := T24.setTop (mkF m 93 #[.val (.int ua), .val (.int ub), .val (.int uc), .val (.int ud), .val (.int ue), .val (.int uf), .val (.int (1 : Int32)), .val (.int ub_), .val (.int us_), .val (.int uc_), .val (.int vs_), .val (.int vc_), .val (.ref b19), .val (.ref b22), .val (.long ((Int32.toInt64 us_) - (Int32.toInt64 uc_))), .second, .unset, .unset, .unset] [(.long (Int32.toInt64 vc_)), (.long (Int32.toInt64 vs_))])) (fun _ k => XT.i2l X24.here hx rfl (hb hby at_92) rfl k) ?_
    refine own_by (B := T24.setTop (mkF m 94 #[.val (.int ua), .val (.int ub), .val (.int uc), .val (.int ud), .val (.int ue), .val (.int uf), .val (.int (1 : Int32)), .val (.int ub_), .val (.int us_), .val (.int uc_), .val (.int vs_), .val (.int vc_), .val (.ref b19), .val (.ref b22), .val (.long ((Int32.toInt64 us_) - (Int32.toInt64 uc_))), .second, .unset, .unset, .unset] [(.long ((Int32.toInt64 vs_) - (Int32.toInt64 vc_)))])) (fun _ k => XT.lsub X24.here hx rfl (hb hby at_93) rfl k) ?_
    refine own_by (B := T24.setTop (mkF m 96 #[.val (.int ua), .val (.int ub), .val (.int uc), .val (.int ud), .val (.int ue), .val (.int uf), .val (.int (1 : Int32)), .val (.int ub_), .val (.int us_), .val (.int uc_), .val (.int vs_), .val (.int vc_), .val (.ref b19), .val (.ref b22), .val (.long ((Int32.toInt64 us_) - (Int32.toInt64 uc_))), .second, .val (.long ((Int32.toInt64 vs_) - (Int32.toInt64 vc_))), .second, .unset] [])) (fun _ k => XT.lstore X24.here hx rfl (hb hby at_94) rfl (l' := #[.val (.int ua), .val (.int ub), .val (.int uc), .val (.int ud), .val (.int ue), .val (.int uf), .val (.int (1 : Int32)), .val (.int ub_), .val (.int us_), .val (.int uc_), .val (.int vs_), .val (.int vc_), .val (.ref b19), .val (.ref b22), .val (.long ((Int32.toInt64 us_) - (Int32.toInt64 uc_))), .second, .val (.long ((Int32.toInt64 vs_) - (Int32.toInt64 vc_))), .second, .unset]) rfl k) ?_
    refine own_by (B := T24.setTop (mkF m 98 #[.val (.int ua), .val (.int ub), .val (.int uc), .val (.int ud), .val (.int ue), .val (.int uf), .val (.int (1 : Int32)), .val (.int ub_), .val (.int us_), .val (.int uc_), .val (.int vs_), .val (.int vc_), .val (.ref b19), .val (.ref b22), .val (.long ((Int32.toInt64 us_) - (Int32.toInt64 uc_))), .second, .val (.long ((Int32.toInt64 vs_) - (Int32.toInt64 vc_))), .second, .unset] [(.int (1 : Int32))])) (fun _ k => XS.iload X24.here hx rfl (hb hby at_96) rfl  k) ?_
    refine own_by (B := T24.setTop (mkF m 143 #[.val (.int ua), .val (.int ub), .val (.int uc), .val (.int ud), .val (.int ue), .val (.int uf), .val (.int (1 : Int32)), .val (.int ub_), .val (.int us_), .val (.int uc_), .val (.int vs_), .val (.int vc_), .val (.ref b19), .val (.ref b22), .val (.long ((Int32.toInt64 us_) - (Int32.toInt64 uc_))), .second, .val (.long ((Int32.toInt64 vs_) - (Int32.toInt64 vc_))), .second, .unset] [])) (fun _ k => XS.ifYes X24.here hx rfl (pc0 := 98) (pc' := 143) rfl (hb hby at_98) rfl (XT.i0_ne_t (by decide)) (by decide) (by decide) k) ?_
    refine own_by (B := T24.setTop (mkF m 145 #[.val (.int ua), .val (.int ub), .val (.int uc), .val (.int ud), .val (.int ue), .val (.int uf), .val (.int (1 : Int32)), .val (.int ub_), .val (.int us_), .val (.int uc_), .val (.int vs_), .val (.int vc_), .val (.ref b19), .val (.ref b22), .val (.long ((Int32.toInt64 us_) - (Int32.toInt64 uc_))), .second, .val (.long ((Int32.toInt64 vs_) - (Int32.toInt64 vc_))), .second, .unset] [(.int (1 : Int32))])) (fun _ k => XS.iload X24.here hx rfl (hb hby at_143) rfl  k) ?_
    refine own_by (B := T24.setTop (mkF m 146 #[.val (.int ua), .val (.int ub), .val (.int uc), .val (.int ud), .val (.int ue), .val (.int uf), .val (.int (1 : Int32)), .val (.int ub_), .val (.int us_), .val (.int uc_), .val (.int vs_), .val (.int vc_), .val (.ref b19), .val (.ref b22), .val (.long ((Int32.toInt64 us_) - (Int32.toInt64 uc_))), .second, .val (.long ((Int32.toInt64 vs_) - (Int32.toInt64 vc_))), .second, .unset] [(.int (1 : Int32)), (.int (1 : Int32))])) (fun _ k => XS.iconst X24.here hx rfl (hb hby at_145) k) ?_
    refine own_by (B := T24.setTop (mkF m 149 #[.val (.int ua), .val (.int ub), .val (.int uc), .val (.int ud), .val (.int ue), .val (.int uf), .val (.int (1 : Int32)), .val (.int ub_), .val (.int us_), .val (.int uc_), .val (.int vs_), .val (.int vc_), .val (.ref b19), .val (.ref b22), .val (.long ((Int32.toInt64 us_) - (Int32.toInt64 uc_))), .second, .val (.long ((Int32.toInt64 vs_) - (Int32.toInt64 vc_))), .second, .unset] [])) (fun _ k => XS.icmpNo X24.here hx rfl (hb hby at_146) rfl (XT.ii_ne_f (by decide)) k) ?_
    refine own_by (B := T24.setTop (mkF m 151 #[.val (.int ua), .val (.int ub), .val (.int uc), .val (.int ud), .val (.int ue), .val (.int uf), .val (.int (1 : Int32)), .val (.int ub_), .val (.int us_), .val (.int uc_), .val (.int vs_), .val (.int vc_), .val (.ref b19), .val (.ref b22), .val (.long ((Int32.toInt64 us_) - (Int32.toInt64 uc_))), .second, .val (.long ((Int32.toInt64 vs_) - (Int32.toInt64 vc_))), .second, .unset] [(.int ub_)])) (fun _ k => XS.iload X24.here hx rfl (hb hby at_149) rfl  k) ?_
    refine own_by (B := T24.setTop (mkF m 152 #[.val (.int ua), .val (.int ub), .val (.int uc), .val (.int ud), .val (.int ue), .val (.int uf), .val (.int (1 : Int32)), .val (.int ub_), .val (.int us_), .val (.int uc_), .val (.int vs_), .val (.int vc_), .val (.ref b19), .val (.ref b22), .val (.long ((Int32.toInt64 us_) - (Int32.toInt64 uc_))), .second, .val (.long ((Int32.toInt64 vs_) - (Int32.toInt64 vc_))), .second, .unset] [(.int (1 : Int32)), (.int ub_)])) (fun _ k => XS.iconst X24.here hx rfl (hb hby at_151) k) ?_
    obtain ⟨mv25, hmv25⟩ : ∃ z : Int32, z = if ub_ = (1 : Int32) then (1 : Int32) else if ub_ = (3 : Int32) then (1 : Int32) else if ub_ = (2 : Int32) then (if ((Int32.toInt64 vs_) - (Int32.toInt64 vc_)) < (19 : Int64) then (0 : Int32) else (1 : Int32)) else (0 : Int32) := ⟨_, rfl⟩
    suffices hj26 : own_Go p.tables e below (own_KL s below (own_Q0 n0) 16 2176) (T24.setTop (mkF m 181 #[.val (.int ua), .val (.int ub), .val (.int uc), .val (.int ud), .val (.int ue), .val (.int uf), .val (.int (1 : Int32)), .val (.int ub_), .val (.int us_), .val (.int uc_), .val (.int vs_), .val (.int vc_), .val (.ref b19), .val (.ref b22), .val (.long ((Int32.toInt64 us_) - (Int32.toInt64 uc_))), .second, .val (.long ((Int32.toInt64 vs_) - (Int32.toInt64 vc_))), .second, .unset] [(.int mv25)])) by
      by_cases hc27 : ub_ = (1 : Int32)
      · refine own_by (B := T24.setTop (mkF m 176 #[.val (.int ua), .val (.int ub), .val (.int uc), .val (.int ud), .val (.int ue), .val (.int uf), .val (.int (1 : Int32)), .val (.int ub_), .val (.int us_), .val (.int uc_), .val (.int vs_), .val (.int vc_), .val (.ref b19), .val (.ref b22), .val (.long ((Int32.toInt64 us_) - (Int32.toInt64 uc_))), .second, .val (.long ((Int32.toInt64 vs_) - (Int32.toInt64 vc_))), .second, .unset] [])) (fun _ k => XS.icmpYes X24.here hx rfl (pc0 := 152) (pc' := 176) rfl (hb hby at_152) rfl (XT.ii_eq_t hc27) (by decide) (by decide) k) ?_
        refine own_by (B := T24.setTop (mkF m 177 #[.val (.int ua), .val (.int ub), .val (.int uc), .val (.int ud), .val (.int ue), .val (.int uf), .val (.int (1 : Int32)), .val (.int ub_), .val (.int us_), .val (.int uc_), .val (.int vs_), .val (.int vc_), .val (.ref b19), .val (.ref b22), .val (.long ((Int32.toInt64 us_) - (Int32.toInt64 uc_))), .second, .val (.long ((Int32.toInt64 vs_) - (Int32.toInt64 vc_))), .second, .unset] [(.int (1 : Int32))])) (fun _ k => XS.iconst X24.here hx rfl (hb hby at_176) k) ?_
        refine own_by (B := T24.setTop (mkF m 181 #[.val (.int ua), .val (.int ub), .val (.int uc), .val (.int ud), .val (.int ue), .val (.int uf), .val (.int (1 : Int32)), .val (.int ub_), .val (.int us_), .val (.int uc_), .val (.int vs_), .val (.int vc_), .val (.ref b19), .val (.ref b22), .val (.long ((Int32.toInt64 us_) - (Int32.toInt64 uc_))), .second, .val (.long ((Int32.toInt64 vs_) - (Int32.toInt64 vc_))), .second, .unset] [(.int (1 : Int32))])) (fun _ k => XS.goto X24.here hx rfl (pc0 := 177) (pc' := 181) rfl (hb hby at_177) (by decide) (by decide) k) ?_
        rw [show mv25 = (1 : Int32) from hmv25.trans (((if_pos hc27).trans rfl))] at hj26
        exact hj26
      · refine own_by (B := T24.setTop (mkF m 155 #[.val (.int ua), .val (.int ub), .val (.int uc), .val (.int ud), .val (.int ue), .val (.int uf), .val (.int (1 : Int32)), .val (.int ub_), .val (.int us_), .val (.int uc_), .val (.int vs_), .val (.int vc_), .val (.ref b19), .val (.ref b22), .val (.long ((Int32.toInt64 us_) - (Int32.toInt64 uc_))), .second, .val (.long ((Int32.toInt64 vs_) - (Int32.toInt64 vc_))), .second, .unset] [])) (fun _ k => XS.icmpNo X24.here hx rfl (hb hby at_152) rfl (XT.ii_eq_f hc27) k) ?_
        refine own_by (B := T24.setTop (mkF m 157 #[.val (.int ua), .val (.int ub), .val (.int uc), .val (.int ud), .val (.int ue), .val (.int uf), .val (.int (1 : Int32)), .val (.int ub_), .val (.int us_), .val (.int uc_), .val (.int vs_), .val (.int vc_), .val (.ref b19), .val (.ref b22), .val (.long ((Int32.toInt64 us_) - (Int32.toInt64 uc_))), .second, .val (.long ((Int32.toInt64 vs_) - (Int32.toInt64 vc_))), .second, .unset] [(.int ub_)])) (fun _ k => XS.iload X24.here hx rfl (hb hby at_155) rfl  k) ?_
        refine own_by (B := T24.setTop (mkF m 158 #[.val (.int ua), .val (.int ub), .val (.int uc), .val (.int ud), .val (.int ue), .val (.int uf), .val (.int (1 : Int32)), .val (.int ub_), .val (.int us_), .val (.int uc_), .val (.int vs_), .val (.int vc_), .val (.ref b19), .val (.ref b22), .val (.long ((Int32.toInt64 us_) - (Int32.toInt64 uc_))), .second, .val (.long ((Int32.toInt64 vs_) - (Int32.toInt64 vc_))), .second, .unset] [(.int (3 : Int32)), (.int ub_)])) (fun _ k => XS.iconst X24.here hx rfl (hb hby at_157) k) ?_
        by_cases hc28 : ub_ = (3 : Int32)
        · refine own_by (B := T24.setTop (mkF m 176 #[.val (.int ua), .val (.int ub), .val (.int uc), .val (.int ud), .val (.int ue), .val (.int uf), .val (.int (1 : Int32)), .val (.int ub_), .val (.int us_), .val (.int uc_), .val (.int vs_), .val (.int vc_), .val (.ref b19), .val (.ref b22), .val (.long ((Int32.toInt64 us_) - (Int32.toInt64 uc_))), .second, .val (.long ((Int32.toInt64 vs_) - (Int32.toInt64 vc_))), .second, .unset] [])) (fun _ k => XS.icmpYes X24.here hx rfl (pc0 := 158) (pc' := 176) rfl (hb hby at_158) rfl (XT.ii_eq_t hc28) (by decide) (by decide) k) ?_
          refine own_by (B := T24.setTop (mkF m 177 #[.val (.int ua), .val (.int ub), .val (.int uc), .val (.int ud), .val (.int ue), .val (.int uf), .val (.int (1 : Int32)), .val (.int ub_), .val (.int us_), .val (.int uc_), .val (.int vs_), .val (.int vc_), .val (.ref b19), .val (.ref b22), .val (.long ((Int32.toInt64 us_) - (Int32.toInt64 uc_))), .second, .val (.long ((Int32.toInt64 vs_) - (Int32.toInt64 vc_))), .second, .unset] [(.int (1 : Int32))])) (fun _ k => XS.iconst X24.here hx rfl (hb hby at_176) k) ?_
          refine own_by (B := T24.setTop (mkF m 181 #[.val (.int ua), .val (.int ub), .val (.int uc), .val (.int ud), .val (.int ue), .val (.int uf), .val (.int (1 : Int32)), .val (.int ub_), .val (.int us_), .val (.int uc_), .val (.int vs_), .val (.int vc_), .val (.ref b19), .val (.ref b22), .val (.long ((Int32.toInt64 us_) - (Int32.toInt64 uc_))), .second, .val (.long ((Int32.toInt64 vs_) - (Int32.toInt64 vc_))), .second, .unset] [(.int (1 : Int32))])) (fun _ k => XS.goto X24.here hx rfl (pc0 := 177) (pc' := 181) rfl (hb hby at_177) (by decide) (by decide) k) ?_
          rw [show mv25 = (1 : Int32) from hmv25.trans (((if_neg hc27).trans  ((if_pos hc28).trans rfl)))] at hj26
          exact hj26
        · refine own_by (B := T24.setTop (mkF m 161 #[.val (.int ua), .val (.int ub), .val (.int uc), .val (.int ud), .val (.int ue), .val (.int uf), .val (.int (1 : Int32)), .val (.int ub_), .val (.int us_), .val (.int uc_), .val (.int vs_), .val (.int vc_), .val (.ref b19), .val (.ref b22), .val (.long ((Int32.toInt64 us_) - (Int32.toInt64 uc_))), .second, .val (.long ((Int32.toInt64 vs_) - (Int32.toInt64 vc_))), .second, .unset] [])) (fun _ k => XS.icmpNo X24.here hx rfl (hb hby at_158) rfl (XT.ii_eq_f hc28) k) ?_
          refine own_by (B := T24.setTop (mkF m 163 #[.val (.int ua), .val (.int ub), .val (.int uc), .val (.int ud), .val (.int ue), .val (.int uf), .val (.int (1 : Int32)), .val (.int ub_), .val (.int us_), .val (.int uc_), .val (.int vs_), .val (.int vc_), .val (.ref b19), .val (.ref b22), .val (.long ((Int32.toInt64 us_) - (Int32.toInt64 uc_))), .second, .val (.long ((Int32.toInt64 vs_) - (Int32.toInt64 vc_))), .second, .unset] [(.int ub_)])) (fun _ k => XS.iload X24.here hx rfl (hb hby at_161) rfl  k) ?_
          refine own_by (B := T24.setTop (mkF m 164 #[.val (.int ua), .val (.int ub), .val (.int uc), .val (.int ud), .val (.int ue), .val (.int uf), .val (.int (1 : Int32)), .val (.int ub_), .val (.int us_), .val (.int uc_), .val (.int vs_), .val (.int vc_), .val (.ref b19), .val (.ref b22), .val (.long ((Int32.toInt64 us_) - (Int32.toInt64 uc_))), .second, .val (.long ((Int32.toInt64 vs_) - (Int32.toInt64 vc_))), .second, .unset] [(.int (2 : Int32)), (.int ub_)])) (fun _ k => XS.iconst X24.here hx rfl (hb hby at_163) k) ?_
          by_cases hc29 : ub_ = (2 : Int32)
          · refine own_by (B := T24.setTop (mkF m 167 #[.val (.int ua), .val (.int ub), .val (.int uc), .val (.int ud), .val (.int ue), .val (.int uf), .val (.int (1 : Int32)), .val (.int ub_), .val (.int us_), .val (.int uc_), .val (.int vs_), .val (.int vc_), .val (.ref b19), .val (.ref b22), .val (.long ((Int32.toInt64 us_) - (Int32.toInt64 uc_))), .second, .val (.long ((Int32.toInt64 vs_) - (Int32.toInt64 vc_))), .second, .unset] [])) (fun _ k => XS.icmpNo X24.here hx rfl (hb hby at_164) rfl (XT.ii_ne_f hc29) k) ?_
            refine own_by (B := T24.setTop (mkF m 169 #[.val (.int ua), .val (.int ub), .val (.int uc), .val (.int ud), .val (.int ue), .val (.int uf), .val (.int (1 : Int32)), .val (.int ub_), .val (.int us_), .val (.int uc_), .val (.int vs_), .val (.int vc_), .val (.ref b19), .val (.ref b22), .val (.long ((Int32.toInt64 us_) - (Int32.toInt64 uc_))), .second, .val (.long ((Int32.toInt64 vs_) - (Int32.toInt64 vc_))), .second, .unset] [(.long ((Int32.toInt64 vs_) - (Int32.toInt64 vc_)))])) (fun _ k => XT.lload X24.here hx rfl (hb hby at_167) rfl  k) ?_
            refine own_by (B := T24.setTop (mkF m 172 #[.val (.int ua), .val (.int ub), .val (.int uc), .val (.int ud), .val (.int ue), .val (.int uf), .val (.int (1 : Int32)), .val (.int ub_), .val (.int us_), .val (.int uc_), .val (.int vs_), .val (.int vc_), .val (.ref b19), .val (.ref b22), .val (.long ((Int32.toInt64 us_) - (Int32.toInt64 uc_))), .second, .val (.long ((Int32.toInt64 vs_) - (Int32.toInt64 vc_))), .second, .unset] [(.long (19 : Int64)), (.long ((Int32.toInt64 vs_) - (Int32.toInt64 vc_)))])) (fun _ k => X24.ldc2J (g := (mkF m 169 #[.val (.int ua), .val (.int ub), .val (.int uc), .val (.int ud), .val (.int ue), .val (.int uf), .val (.int (1 : Int32)), .val (.int ub_), .val (.int us_), .val (.int uc_), .val (.int vs_), .val (.int vc_), .val (.ref b19), .val (.ref b22), .val (.long ((Int32.toInt64 us_) - (Int32.toInt64 uc_))), .second, .val (.long ((Int32.toInt64 vs_) - (Int32.toInt64 vc_))), .second, .unset] [(.long ((Int32.toInt64 vs_) - (Int32.toInt64 vc_)))])) hx hown (mvT hZ (hw _ (List.mem_of_getElem? (i := 81) rfl))) rfl (hb hby at_169) k) ?_
            refine own_by (B := T24.setTop (mkF m 173 #[.val (.int ua), .val (.int ub), .val (.int uc), .val (.int ud), .val (.int ue), .val (.int uf), .val (.int (1 : Int32)), .val (.int ub_), .val (.int us_), .val (.int uc_), .val (.int vs_), .val (.int vc_), .val (.ref b19), .val (.ref b22), .val (.long ((Int32.toInt64 us_) - (Int32.toInt64 uc_))), .second, .val (.long ((Int32.toInt64 vs_) - (Int32.toInt64 vc_))), .second, .unset] [(.int (XT.cmpL ((Int32.toInt64 vs_) - (Int32.toInt64 vc_)) (19 : Int64)))])) (fun _ k => XT.lcmp X24.here hx rfl (hb hby at_172) rfl k) ?_
            by_cases hc30 : ((Int32.toInt64 vs_) - (Int32.toInt64 vc_)) < (19 : Int64)
            · refine own_by (B := T24.setTop (mkF m 180 #[.val (.int ua), .val (.int ub), .val (.int uc), .val (.int ud), .val (.int ue), .val (.int uf), .val (.int (1 : Int32)), .val (.int ub_), .val (.int us_), .val (.int uc_), .val (.int vs_), .val (.int vc_), .val (.ref b19), .val (.ref b22), .val (.long ((Int32.toInt64 us_) - (Int32.toInt64 uc_))), .second, .val (.long ((Int32.toInt64 vs_) - (Int32.toInt64 vc_))), .second, .unset] [])) (fun _ k => XS.ifYes X24.here hx rfl (pc0 := 173) (pc' := 180) rfl (hb hby at_173) rfl (XT.ll_lt_t hc30) (by decide) (by decide) k) ?_
              refine own_by (B := T24.setTop (mkF m 181 #[.val (.int ua), .val (.int ub), .val (.int uc), .val (.int ud), .val (.int ue), .val (.int uf), .val (.int (1 : Int32)), .val (.int ub_), .val (.int us_), .val (.int uc_), .val (.int vs_), .val (.int vc_), .val (.ref b19), .val (.ref b22), .val (.long ((Int32.toInt64 us_) - (Int32.toInt64 uc_))), .second, .val (.long ((Int32.toInt64 vs_) - (Int32.toInt64 vc_))), .second, .unset] [(.int (0 : Int32))])) (fun _ k => XS.iconst X24.here hx rfl (hb hby at_180) k) ?_
              rw [show mv25 = (0 : Int32) from hmv25.trans (((if_neg hc27).trans  ((if_neg hc28).trans  ((if_pos hc29).trans  ((if_pos hc30).trans rfl)))))] at hj26
              exact hj26
            · refine own_by (B := T24.setTop (mkF m 176 #[.val (.int ua), .val (.int ub), .val (.int uc), .val (.int ud), .val (.int ue), .val (.int uf), .val (.int (1 : Int32)), .val (.int ub_), .val (.int us_), .val (.int uc_), .val (.int vs_), .val (.int vc_), .val (.ref b19), .val (.ref b22), .val (.long ((Int32.toInt64 us_) - (Int32.toInt64 uc_))), .second, .val (.long ((Int32.toInt64 vs_) - (Int32.toInt64 vc_))), .second, .unset] [])) (fun _ k => XS.ifNo X24.here hx rfl (hb hby at_173) rfl (XT.ll_lt_f hc30) k) ?_
              refine own_by (B := T24.setTop (mkF m 177 #[.val (.int ua), .val (.int ub), .val (.int uc), .val (.int ud), .val (.int ue), .val (.int uf), .val (.int (1 : Int32)), .val (.int ub_), .val (.int us_), .val (.int uc_), .val (.int vs_), .val (.int vc_), .val (.ref b19), .val (.ref b22), .val (.long ((Int32.toInt64 us_) - (Int32.toInt64 uc_))), .second, .val (.long ((Int32.toInt64 vs_) - (Int32.toInt64 vc_))), .second, .unset] [(.int (1 : Int32))])) (fun _ k => XS.iconst X24.here hx rfl (hb hby at_176) k) ?_
              refine own_by (B := T24.setTop (mkF m 181 #[.val (.int ua), .val (.int ub), .val (.int uc), .val (.int ud), .val (.int ue), .val (.int uf), .val (.int (1 : Int32)), .val (.int ub_), .val (.int us_), .val (.int uc_), .val (.int vs_), .val (.int vc_), .val (.ref b19), .val (.ref b22), .val (.long ((Int32.toInt64 us_) - (Int32.toInt64 uc_))), .second, .val (.long ((Int32.toInt64 vs_) - (Int32.toInt64 vc_))), .second, .unset] [(.int (1 : Int32))])) (fun _ k => XS.goto X24.here hx rfl (pc0 := 177) (pc' := 181) rfl (hb hby at_177) (by decide) (by decide) k) ?_
              rw [show mv25 = (1 : Int32) from hmv25.trans (((if_neg hc27).trans  ((if_neg hc28).trans  ((if_pos hc29).trans  ((if_neg hc30).trans rfl)))))] at hj26
              exact hj26
          · refine own_by (B := T24.setTop (mkF m 180 #[.val (.int ua), .val (.int ub), .val (.int uc), .val (.int ud), .val (.int ue), .val (.int uf), .val (.int (1 : Int32)), .val (.int ub_), .val (.int us_), .val (.int uc_), .val (.int vs_), .val (.int vc_), .val (.ref b19), .val (.ref b22), .val (.long ((Int32.toInt64 us_) - (Int32.toInt64 uc_))), .second, .val (.long ((Int32.toInt64 vs_) - (Int32.toInt64 vc_))), .second, .unset] [])) (fun _ k => XS.icmpYes X24.here hx rfl (pc0 := 164) (pc' := 180) rfl (hb hby at_164) rfl (XT.ii_ne_t hc29) (by decide) (by decide) k) ?_
            refine own_by (B := T24.setTop (mkF m 181 #[.val (.int ua), .val (.int ub), .val (.int uc), .val (.int ud), .val (.int ue), .val (.int uf), .val (.int (1 : Int32)), .val (.int ub_), .val (.int us_), .val (.int uc_), .val (.int vs_), .val (.int vc_), .val (.ref b19), .val (.ref b22), .val (.long ((Int32.toInt64 us_) - (Int32.toInt64 uc_))), .second, .val (.long ((Int32.toInt64 vs_) - (Int32.toInt64 vc_))), .second, .unset] [(.int (0 : Int32))])) (fun _ k => XS.iconst X24.here hx rfl (hb hby at_180) k) ?_
            rw [show mv25 = (0 : Int32) from hmv25.trans (((if_neg hc27).trans  ((if_neg hc28).trans  ((if_neg hc29).trans rfl))))] at hj26
            exact hj26
    refine own_by (B := T24.setTop (mkF m 183 #[.val (.int ua), .val (.int ub), .val (.int uc), .val (.int ud), .val (.int ue), .val (.int uf), .val (.int (1 : Int32)), .val (.int ub_), .val (.int us_), .val (.int uc_), .val (.int vs_), .val (.int vc_), .val (.ref b19), .val (.ref b22), .val (.long ((Int32.toInt64 us_) - (Int32.toInt64 uc_))), .second, .val (.long ((Int32.toInt64 vs_) - (Int32.toInt64 vc_))), .second, .val (.int mv25)] [])) (fun _ k => XS.istore X24.here hx rfl (hb hby at_181) rfl (l' := #[.val (.int ua), .val (.int ub), .val (.int uc), .val (.int ud), .val (.int ue), .val (.int uf), .val (.int (1 : Int32)), .val (.int ub_), .val (.int us_), .val (.int uc_), .val (.int vs_), .val (.int vc_), .val (.ref b19), .val (.ref b22), .val (.long ((Int32.toInt64 us_) - (Int32.toInt64 uc_))), .second, .val (.long ((Int32.toInt64 vs_) - (Int32.toInt64 vc_))), .second, .val (.int mv25)]) rfl k) ?_
    refine own_by (B := T24.setTop (mkF m 271 #[.val (.int ua), .val (.int ub), .val (.int uc), .val (.int ud), .val (.int ue), .val (.int uf), .val (.int (1 : Int32)), .val (.int ub_), .val (.int us_), .val (.int uc_), .val (.int vs_), .val (.int vc_), .val (.ref b19), .val (.ref b22), .val (.long ((Int32.toInt64 us_) - (Int32.toInt64 uc_))), .second, .val (.long ((Int32.toInt64 vs_) - (Int32.toInt64 vc_))), .second, .val (.int mv25)] [])) (fun _ k => XS.goto X24.here hx rfl (pc0 := 183) (pc' := 271) rfl (hb hby at_183) (by decide) (by decide) k) ?_
    refine own_by (B := T24.setTop (mkF m 273 #[.val (.int ua), .val (.int ub), .val (.int uc), .val (.int ud), .val (.int ue), .val (.int uf), .val (.int (1 : Int32)), .val (.int ub_), .val (.int us_), .val (.int uc_), .val (.int vs_), .val (.int vc_), .val (.ref b19), .val (.ref b22), .val (.long ((Int32.toInt64 us_) - (Int32.toInt64 uc_))), .second, .val (.long ((Int32.toInt64 vs_) - (Int32.toInt64 vc_))), .second, .val (.int mv25)] [(.ref b19)])) (fun _ k => XS.aload X24.here hx rfl (hb hby at_271) rfl rfl  k) ?_
    refine own_by (B := T24.setTop (mkF m 275 #[.val (.int ua), .val (.int ub), .val (.int uc), .val (.int ud), .val (.int ue), .val (.int uf), .val (.int (1 : Int32)), .val (.int ub_), .val (.int us_), .val (.int uc_), .val (.int vs_), .val (.int vc_), .val (.ref b19), .val (.ref b22), .val (.long ((Int32.toInt64 us_) - (Int32.toInt64 uc_))), .second, .val (.long ((Int32.toInt64 vs_) - (Int32.toInt64 vc_))), .second, .val (.int mv25)] [(.ref b22), (.ref b19)])) (fun _ k => XS.aload X24.here hx rfl (hb hby at_273) rfl rfl  k) ?_
    have c31 := ((EC21.ext E22).keep KC24)
    have c32 := ((FC21_0.ext E22).keep KC24 (ninS (own_ne (by omega)) nin0))
    have c33 := ((FC21_1.ext E22).keep KC24 (ninS (own_ne (by omega)) nin0))
    have c34 := ((FC21_2.ext E22).keep KC24 (ninS (own_ne (by omega)) nin0))
    have CHn : CHv Z own_EL s.vm h24 := (CHv.keep KC24 (sfS (Safe.exa hZ.alike A22 (by decide) (by decide)) sf0) (CHv.ext E22 (CHv.keep KC21 (sfS (Safe.exa hZ.alike A19 (by decide) (by decide)) sf0) (CHv.ext E19 CH0))))
    obtain ⟨cq35, kq35, qa35, qb35, qc35⟩ := isOf hZ e24 c31
    obtain ⟨_, _, ⟨T35, L35, k35, n35⟩, -, X35, hS35, hle35, ⟨Lc35, hQ35, l35, y35, z35, CR35⟩, st35⟩ := Jvm.Stand.virtualBackS X24 hx (y := (⟨"com/example/planwright/planwright/cache/LiteralType", "fits", "(Lcom/example/planwright/planwright/cache/LiteralType;)Z"⟩ : MethodName)) (z := (⟨"com/example/planwright/planwright/cache/LiteralType", "fits", "(Lcom/example/planwright/planwright/cache/LiteralType;)Z"⟩ : MethodName)) hown (mvT hZ (hw _ (List.mem_of_getElem? (i := 30) rfl))) (mvT hZ (hw _ (List.mem_of_getElem? (i := 31) rfl))) (notFace_of_selects (args := #[]) (mvT hZ (hw _ (List.mem_of_getElem? (i := 33) rfl)))) (mvT hZ (hw _ (List.mem_of_getElem? (i := 33) rfl))) (mvT hZ (hw _ (List.mem_of_getElem? (i := 32) rfl))) (by decide) (backOfSH (s := s) (vm0 := s.vm) (W := 0) (rmFitBIGINT l Z a0 hw [] a_INTEGER a_BIGINT a_VARCHAR a_DECIMAL a_DOUBLE ucs b19 b22 uk us_ uc_ vs_ vc_ h24 n0 (own_old_le O24) O24 HW c31 c32 c33 c34 EC24 FC24_0 FC24_1 FC24_2) hZ (hw _ (List.mem_of_getElem? (i := 34) rfl)) (hw _ (List.mem_of_getElem? (i := 3) rfl)) (by decide) (by decide) own_hEL CHn) qa35 qc35 (g := (mkF m 275 #[.val (.int ua), .val (.int ub), .val (.int uc), .val (.int ud), .val (.int ue), .val (.int uf), .val (.int (1 : Int32)), .val (.int ub_), .val (.int us_), .val (.int uc_), .val (.int vs_), .val (.int vc_), .val (.ref b19), .val (.ref b22), .val (.long ((Int32.toInt64 us_) - (Int32.toInt64 uc_))), .second, .val (.long ((Int32.toInt64 vs_) - (Int32.toInt64 vc_))), .second, .val (.int mv25)] [(.ref b22), (.ref b19)])) rfl (by rw [hml]; rfl) (Steps.refl _) (argsL := [(.ref b22)]) (rest := []) (lenOf pd_0__Lcom_example_planwright_planwright_cache_LiteralType__Z rfl) rfl (by show 2 * 0 + _ ≤ _; exact Nat.le_of_eq rfl) (hb hby at_275) (fun _ _ => ⟨rfl, e24, (by decide : 2 + 2 ≤ _), (by decide : 6 + 80 ≤ _)⟩)
    dsimp only [Pt.U, Pt.locs, Pt.cells, Pt.slots] at X35 l35 y35 z35 st35 hQ35 hS35 hle35 CR35
    subst l35 y35 z35
    obtain ⟨rfl, N35, KC35⟩ := hQ35
    have M35 := Fr.app N24 N35
    refine own_by (B := T35.setTop (mkF m 278 #[.val (.int ua), .val (.int ub), .val (.int uc), .val (.int ud), .val (.int ue), .val (.int uf), .val (.int (1 : Int32)), .val (.int ub_), .val (.int us_), .val (.int uc_), .val (.int vs_), .val (.int vc_), .val (.ref b19), .val (.ref b22), .val (.long ((Int32.toInt64 us_) - (Int32.toInt64 uc_))), .second, .val (.long ((Int32.toInt64 vs_) - (Int32.toInt64 vc_))), .second, .val (.int mv25)] [(.int (own_fitBIGINT uk us_ uc_ vs_ vc_ a_INTEGER a_BIGINT a_DECIMAL a_DOUBLE a_VARCHAR))])) (fun _ k => st35.trans k) ?_
    refine own_by (B := T35.setTop (mkF m 280 #[.val (.int ua), .val (.int ub), .val (.int uc), .val (.int ud), .val (.int ue), .val (.int uf), .val (.int (1 : Int32)), .val (.int ub_), .val (.int us_), .val (.int uc_), .val (.int vs_), .val (.int vc_), .val (.ref b19), .val (.ref b22), .val (.long ((Int32.toInt64 us_) - (Int32.toInt64 uc_))), .second, .val (.long ((Int32.toInt64 vs_) - (Int32.toInt64 vc_))), .second, .val (.int mv25)] [(.int mv25), (.int (own_fitBIGINT uk us_ uc_ vs_ vc_ a_INTEGER a_BIGINT a_DECIMAL a_DOUBLE a_VARCHAR))])) (fun _ k => XS.iload X35.here hx rfl (hb hby at_278) rfl  k) ?_
    refine own_by (B := T35.setTop (mkF m 283 #[.val (.int ua), .val (.int ub), .val (.int uc), .val (.int ud), .val (.int ue), .val (.int uf), .val (.int (1 : Int32)), .val (.int ub_), .val (.int us_), .val (.int uc_), .val (.int vs_), .val (.int vc_), .val (.ref b19), .val (.ref b22), .val (.long ((Int32.toInt64 us_) - (Int32.toInt64 uc_))), .second, .val (.long ((Int32.toInt64 vs_) - (Int32.toInt64 vc_))), .second, .val (.int mv25)] [])) (fun _ k => XS.icmpNo X35.here hx rfl (hb hby at_280) rfl (XT.ii_ne_f (by rw [huk]; exact own_lawBIGINT hb0 hb1 hp1 hp2 hp3 hp4 hD hmv25)) k) ?_
    refine own_by (B := T35.setTop (mkF m 284 #[.val (.int ua), .val (.int ub), .val (.int uc), .val (.int ud), .val (.int ue), .val (.int uf), .val (.int (1 : Int32)), .val (.int ub_), .val (.int us_), .val (.int uc_), .val (.int vs_), .val (.int vc_), .val (.ref b19), .val (.ref b22), .val (.long ((Int32.toInt64 us_) - (Int32.toInt64 uc_))), .second, .val (.long ((Int32.toInt64 vs_) - (Int32.toInt64 vc_))), .second, .val (.int mv25)] [(.int (1 : Int32))])) (fun _ k => XS.iconst X35.here hx rfl (hb hby at_283) k) ?_
    refine own_by (B := T35.setTop (mkF m 288 #[.val (.int ua), .val (.int ub), .val (.int uc), .val (.int ud), .val (.int ue), .val (.int uf), .val (.int (1 : Int32)), .val (.int ub_), .val (.int us_), .val (.int uc_), .val (.int vs_), .val (.int vc_), .val (.ref b19), .val (.ref b22), .val (.long ((Int32.toInt64 us_) - (Int32.toInt64 uc_))), .second, .val (.long ((Int32.toInt64 vs_) - (Int32.toInt64 vc_))), .second, .val (.int mv25)] [(.int (1 : Int32))])) (fun _ k => XS.goto X35.here hx rfl (pc0 := 284) (pc' := 288) rfl (hb hby at_284) (by decide) (by decide) k) ?_
    exact own_retZL (s := s) X35 hx hS35 (Nat.le_refl _) hrt hlk rfl (hb hby at_288) (by decide) (by decide) ⟨rfl, M35⟩
  · obtain ⟨T36, h36, X36, e36, E36, A36, D36, -, st36⟩ := newO X0 hx hZ hown (hw _ (List.mem_of_getElem? (i := 1) rfl)) (hw _ (List.mem_of_getElem? (i := 2) rfl)) (hw _ (List.mem_of_getElem? (i := 3) rfl)) e0 (g := (mkF m 42 #[.val (.int ua), .val (.int ub), .val (.int uc), .val (.int ud), .val (.int ue), .val (.int uf), .val (.int (2 : Int32)), .val (.int ub_), .val (.int us_), .val (.int uc_), .val (.int vs_), .val (.int vc_), .unset, .unset, .unset, .unset, .unset, .unset, .unset] [])) rfl (hb hby at_42) (by decide) (by decide)
    obtain ⟨b36, g36⟩ : ∃ z, z = h0.size := ⟨_, rfl⟩
    rw [← g36] at A36 D36 st36
    have sz36 := E36.1
    have gn36 : n0 ≤ b36 := g36 ▸ own_old_le O0
    have fz36 : h0.size ≤ b36 := g36 ▸ K0.1
    have lt36 := own_lt A36.lt
    have O36 := O0.ext E36
    have K36 := K0.ext E36
    have F36_kind : Fld Z h36 b36 "com/example/planwright/planwright/cache/LiteralType" "kind" "Lcom/example/planwright/planwright/cache/LiteralType$Kind;" .null := D36 (Or.inr (hw _ (List.mem_of_getElem? (i := 23) rfl))) (ty := (.object "com/example/planwright/planwright/cache/LiteralType$Kind")) (by decide)
    have F36_size : Fld Z h36 b36 "com/example/planwright/planwright/cache/LiteralType" "size" "I" (.int (0 : Int32)) := D36 (Or.inr (hw _ (List.mem_of_getElem? (i := 25) rfl))) (ty := .int) (by decide)
    have F36_scale : Fld Z h36 b36 "com/example/planwright/planwright/cache/LiteralType" "scale" "I" (.int (0 : Int32)) := D36 (Or.inr (hw _ (List.mem_of_getElem? (i := 27) rfl))) (ty := .int) (by decide)
    refine own_by (B := T36.setTop (mkF m 45 #[.val (.int ua), .val (.int ub), .val (.int uc), .val (.int ud), .val (.int ue), .val (.int uf), .val (.int (2 : Int32)), .val (.int ub_), .val (.int us_), .val (.int uc_), .val (.int vs_), .val (.int vc_), .unset, .unset, .unset, .unset, .unset, .unset, .unset] [(.ref b36)])) st36 ?_
    refine own_by (B := T36.setTop (mkF m 46 #[.val (.int ua), .val (.int ub), .val (.int uc), .val (.int ud), .val (.int ue), .val (.int uf), .val (.int (2 : Int32)), .val (.int ub_), .val (.int us_), .val (.int uc_), .val (.int vs_), .val (.int vc_), .unset, .unset, .unset, .unset, .unset, .unset, .unset] [(.ref b36), (.ref b36)])) (fun _ k => XS.dup X36.here hx rfl (hb hby at_45) rfl rfl k) ?_
    refine own_by (B := T36.setTop (mkF m 48 #[.val (.int ua), .val (.int ub), .val (.int uc), .val (.int ud), .val (.int ue), .val (.int uf), .val (.int (2 : Int32)), .val (.int ub_), .val (.int us_), .val (.int uc_), .val (.int vs_), .val (.int vc_), .unset, .unset, .unset, .unset, .unset, .unset, .unset] [(.int (2 : Int32)), (.ref b36), (.ref b36)])) (fun _ k => XS.iload X36.here hx rfl (hb hby at_46) rfl  k) ?_
    obtain ⟨_, _, ⟨T37, L37, k37, n37⟩, -, X37, ⟨Lc37, hQ37, l37, y37, z37⟩, st37⟩ := Jvm.LawKit.callS X36 hx (y := (⟨"com/example/planwright/planwright/cache/LiteralTypeFitsPinLaw", "kindOf", "(I)Lcom/example/planwright/planwright/cache/LiteralType$Kind;"⟩ : MethodName)) hown (mvT hZ (hw _ (List.mem_of_getElem? (i := 4) rfl))) (mvT hZ (hw _ (List.mem_of_getElem? (i := 5) rfl))) (mvT hZ (hw _ (List.mem_of_getElem? (i := 6) rfl))) (mvT hZ (hw _ (List.mem_of_getElem? (i := 7) rfl))) (by decide) (backOf (W := 2) (rmKo l Z a0 hw [] a_INTEGER a_BIGINT a_VARCHAR a_DECIMAL a_DOUBLE ucs (2 : Int32) h36 n0 (own_old_le O36) O36 HW) hZ (hw _ (List.mem_of_getElem? (i := 7) rfl)) (hw _ (List.mem_of_getElem? (i := 6) rfl)) (by decide) (by decide)) (g := (mkF m 48 #[.val (.int ua), .val (.int ub), .val (.int uc), .val (.int ud), .val (.int ue), .val (.int uf), .val (.int (2 : Int32)), .val (.int ub_), .val (.int us_), .val (.int uc_), .val (.int vs_), .val (.int vc_), .unset, .unset, .unset, .unset, .unset, .unset, .unset] [(.int (2 : Int32)), (.ref b36), (.ref b36)])) rfl (by rw [hml]; rfl) (argsL := [(.int (2 : Int32))]) (rest := [(.ref b36), (.ref b36)]) (lenOf pd_0__I_Lcom_example_planwright_planwright_cache_LiteralType_Kind_ rfl) rfl (by show 2 * 0 + _ ≤ _; exact Nat.le_of_eq rfl) (hb hby at_48) (fun _ _ => ⟨rfl, e36, (by decide : 1 + 0 ≤ _), (by decide : 3 + 0 ≤ _)⟩)
    dsimp only [Pt.U, Pt.locs, Pt.cells, Pt.slots] at X37 l37 y37 z37 st37 hQ37
    subst l37 y37 z37
    obtain ⟨rfl, N37, e37⟩ := hQ37
    refine own_by (B := T37.setTop (mkF m 51 #[.val (.int ua), .val (.int ub), .val (.int uc), .val (.int ud), .val (.int ue), .val (.int uf), .val (.int (2 : Int32)), .val (.int ub_), .val (.int us_), .val (.int uc_), .val (.int vs_), .val (.int vc_), .unset, .unset, .unset, .unset, .unset, .unset, .unset] [(.ref (own_ko (2 : Int32) a_INTEGER a_BIGINT a_DECIMAL a_DOUBLE a_VARCHAR)), (.ref b36), (.ref b36)])) st37 ?_
    have M37 := Fr.app N0 N37
    rw [show (own_ko (2 : Int32) a_INTEGER a_BIGINT a_DECIMAL a_DOUBLE a_VARCHAR) = a_DECIMAL from by unfold own_ko; rw [if_neg (by decide), if_neg (by decide), if_pos (by decide)]]
    refine own_by (B := T37.setTop (mkF m 53 #[.val (.int ua), .val (.int ub), .val (.int uc), .val (.int ud), .val (.int ue), .val (.int uf), .val (.int (2 : Int32)), .val (.int ub_), .val (.int us_), .val (.int uc_), .val (.int vs_), .val (.int vc_), .unset, .unset, .unset, .unset, .unset, .unset, .unset] [(.int us_), (.ref a_DECIMAL), (.ref b36), (.ref b36)])) (fun _ k => XS.iload X37.here hx rfl (hb hby at_51) rfl  k) ?_
    refine own_by (B := T37.setTop (mkF m 55 #[.val (.int ua), .val (.int ub), .val (.int uc), .val (.int ud), .val (.int ue), .val (.int uf), .val (.int (2 : Int32)), .val (.int ub_), .val (.int us_), .val (.int uc_), .val (.int vs_), .val (.int vc_), .unset, .unset, .unset, .unset, .unset, .unset, .unset] [(.int uc_), (.int us_), (.ref a_DECIMAL), (.ref b36), (.ref b36)])) (fun _ k => XS.iload X37.here hx rfl (hb hby at_53) rfl  k) ?_
    obtain ⟨_, _, ⟨T38, L38, k38, n38⟩, -, X38, ⟨Lc38, hQ38, l38, y38, z38⟩, st38⟩ := X37.specialBack hx (y := (⟨"com/example/planwright/planwright/cache/LiteralType", "<init>", "(Lcom/example/planwright/planwright/cache/LiteralType$Kind;II)V"⟩ : MethodName)) rfl hown (mvT hZ (hw _ (List.mem_of_getElem? (i := 11) rfl))) (mvT hZ (hw _ (List.mem_of_getElem? (i := 12) rfl))) (mvT hZ (hw _ (List.mem_of_getElem? (i := 13) rfl))) (by decide) (backOf (W := 1) (rmLT l Z a0 hw [] b36 a_DECIMAL us_ uc_ h36 n0 (own_old_le O36) O36 A36 F36_kind F36_size F36_scale gn36) hZ (hw _ (List.mem_of_getElem? (i := 13) rfl)) (hw _ (List.mem_of_getElem? (i := 3) rfl)) (by decide) (by decide)) (g := (mkF m 55 #[.val (.int ua), .val (.int ub), .val (.int uc), .val (.int ud), .val (.int ue), .val (.int uf), .val (.int (2 : Int32)), .val (.int ub_), .val (.int us_), .val (.int uc_), .val (.int vs_), .val (.int vc_), .unset, .unset, .unset, .unset, .unset, .unset, .unset] [(.int uc_), (.int us_), (.ref a_DECIMAL), (.ref b36), (.ref b36)])) rfl (by rw [hml]; rfl) (Steps.refl _) (a := b36) (argsL := [(.ref a_DECIMAL), (.int us_), (.int uc_)]) (rest := [(.ref b36)]) (lenOf pd_0__Lcom_example_planwright_planwright_cache_LiteralType_Kind_II_V rfl) rfl (by show 2 * 0 + _ ≤ _; exact Nat.le_of_eq rfl) (hb hby at_55) (fun _ _ => ⟨rfl, e37, (by decide : 1 + 0 ≤ _), (by decide : 3 + 0 ≤ _)⟩)
    dsimp only [Pt.U, Pt.locs, Pt.cells, Pt.slots] at X38 l38 y38 z38 st38 hQ38
    subst l38 y38 z38
    obtain ⟨rfl, NC38, KC38, EC38, FC38_0, FC38_1, FC38_2⟩ := hQ38
    refine own_by (B := T38.setTop (mkF m 58 #[.val (.int ua), .val (.int ub), .val (.int uc), .val (.int ud), .val (.int ue), .val (.int uf), .val (.int (2 : Int32)), .val (.int ub_), .val (.int us_), .val (.int uc_), .val (.int vs_), .val (.int vc_), .unset, .unset, .unset, .unset, .unset, .unset, .unset] [(.ref b36)])) (fun _ k => st38.trans k) ?_
    obtain ⟨h38, e38⟩ : ∃ z, T38.heap = z := ⟨_, rfl⟩
    rw [e38] at KC38 EC38 FC38_0 FC38_1 FC38_2
    have sz38 := KC38.1
    have O38 := O36.keep KC38 (allS gn36 all0)
    have K38 := K36.trans KC38 (allS (Or.inr fz36) all0)
    have N38 := Fr.app M37 NC38
    refine own_by (B := T38.setTop (mkF m 60 #[.val (.int ua), .val (.int ub), .val (.int uc), .val (.int ud), .val (.int ue), .val (.int uf), .val (.int (2 : Int32)), .val (.int ub_), .val (.int us_), .val (.int uc_), .val (.int vs_), .val (.int vc_), .val (.ref b36), .unset, .unset, .unset, .unset, .unset, .unset] [])) (fun _ k => XS.astore X38.here hx rfl (hb hby at_58) rfl rfl (l' := #[.val (.int ua), .val (.int ub), .val (.int uc), .val (.int ud), .val (.int ue), .val (.int uf), .val (.int (2 : Int32)), .val (.int ub_), .val (.int us_), .val (.int uc_), .val (.int vs_), .val (.int vc_), .val (.ref b36), .unset, .unset, .unset, .unset, .unset, .unset]) rfl k) ?_
    obtain ⟨T39, h39, X39, e39, E39, A39, D39, -, st39⟩ := newO X38 hx hZ hown (hw _ (List.mem_of_getElem? (i := 1) rfl)) (hw _ (List.mem_of_getElem? (i := 2) rfl)) (hw _ (List.mem_of_getElem? (i := 3) rfl)) e38 (g := (mkF m 60 #[.val (.int ua), .val (.int ub), .val (.int uc), .val (.int ud), .val (.int ue), .val (.int uf), .val (.int (2 : Int32)), .val (.int ub_), .val (.int us_), .val (.int uc_), .val (.int vs_), .val (.int vc_), .val (.ref b36), .unset, .unset, .unset, .unset, .unset, .unset] [])) rfl (hb hby at_60) (by decide) (by decide)
    obtain ⟨b39, g39⟩ : ∃ z, z = h38.size := ⟨_, rfl⟩
    rw [← g39] at A39 D39 st39
    have sz39 := E39.1
    have gn39 : n0 ≤ b39 := g39 ▸ own_old_le O38
    have fz39 : h0.size ≤ b39 := g39 ▸ K38.1
    have lt39 := own_lt A39.lt
    have O39 := O38.ext E39
    have K39 := K38.ext E39
    have F39_kind : Fld Z h39 b39 "com/example/planwright/planwright/cache/LiteralType" "kind" "Lcom/example/planwright/planwright/cache/LiteralType$Kind;" .null := D39 (Or.inr (hw _ (List.mem_of_getElem? (i := 23) rfl))) (ty := (.object "com/example/planwright/planwright/cache/LiteralType$Kind")) (by decide)
    have F39_size : Fld Z h39 b39 "com/example/planwright/planwright/cache/LiteralType" "size" "I" (.int (0 : Int32)) := D39 (Or.inr (hw _ (List.mem_of_getElem? (i := 25) rfl))) (ty := .int) (by decide)
    have F39_scale : Fld Z h39 b39 "com/example/planwright/planwright/cache/LiteralType" "scale" "I" (.int (0 : Int32)) := D39 (Or.inr (hw _ (List.mem_of_getElem? (i := 27) rfl))) (ty := .int) (by decide)
    refine own_by (B := T39.setTop (mkF m 63 #[.val (.int ua), .val (.int ub), .val (.int uc), .val (.int ud), .val (.int ue), .val (.int uf), .val (.int (2 : Int32)), .val (.int ub_), .val (.int us_), .val (.int uc_), .val (.int vs_), .val (.int vc_), .val (.ref b36), .unset, .unset, .unset, .unset, .unset, .unset] [(.ref b39)])) st39 ?_
    refine own_by (B := T39.setTop (mkF m 64 #[.val (.int ua), .val (.int ub), .val (.int uc), .val (.int ud), .val (.int ue), .val (.int uf), .val (.int (2 : Int32)), .val (.int ub_), .val (.int us_), .val (.int uc_), .val (.int vs_), .val (.int vc_), .val (.ref b36), .unset, .unset, .unset, .unset, .unset, .unset] [(.ref b39), (.ref b39)])) (fun _ k => XS.dup X39.here hx rfl (hb hby at_63) rfl rfl k) ?_
    refine own_by (B := T39.setTop (mkF m 66 #[.val (.int ua), .val (.int ub), .val (.int uc), .val (.int ud), .val (.int ue), .val (.int uf), .val (.int (2 : Int32)), .val (.int ub_), .val (.int us_), .val (.int uc_), .val (.int vs_), .val (.int vc_), .val (.ref b36), .unset, .unset, .unset, .unset, .unset, .unset] [(.int ub_), (.ref b39), (.ref b39)])) (fun _ k => XS.iload X39.here hx rfl (hb hby at_64) rfl  k) ?_
    obtain ⟨_, _, ⟨T40, L40, k40, n40⟩, -, X40, ⟨Lc40, hQ40, l40, y40, z40⟩, st40⟩ := Jvm.LawKit.callS X39 hx (y := (⟨"com/example/planwright/planwright/cache/LiteralTypeFitsPinLaw", "kindOf", "(I)Lcom/example/planwright/planwright/cache/LiteralType$Kind;"⟩ : MethodName)) hown (mvT hZ (hw _ (List.mem_of_getElem? (i := 4) rfl))) (mvT hZ (hw _ (List.mem_of_getElem? (i := 5) rfl))) (mvT hZ (hw _ (List.mem_of_getElem? (i := 6) rfl))) (mvT hZ (hw _ (List.mem_of_getElem? (i := 7) rfl))) (by decide) (backOf (W := 2) (rmKo l Z a0 hw [] a_INTEGER a_BIGINT a_VARCHAR a_DECIMAL a_DOUBLE ucs ub_ h39 n0 (own_old_le O39) O39 HW) hZ (hw _ (List.mem_of_getElem? (i := 7) rfl)) (hw _ (List.mem_of_getElem? (i := 6) rfl)) (by decide) (by decide)) (g := (mkF m 66 #[.val (.int ua), .val (.int ub), .val (.int uc), .val (.int ud), .val (.int ue), .val (.int uf), .val (.int (2 : Int32)), .val (.int ub_), .val (.int us_), .val (.int uc_), .val (.int vs_), .val (.int vc_), .val (.ref b36), .unset, .unset, .unset, .unset, .unset, .unset] [(.int ub_), (.ref b39), (.ref b39)])) rfl (by rw [hml]; rfl) (argsL := [(.int ub_)]) (rest := [(.ref b39), (.ref b39)]) (lenOf pd_0__I_Lcom_example_planwright_planwright_cache_LiteralType_Kind_ rfl) rfl (by show 2 * 0 + _ ≤ _; exact Nat.le_of_eq rfl) (hb hby at_66) (fun _ _ => ⟨rfl, e39, (by decide : 2 + 0 ≤ _), (by decide : 6 + 0 ≤ _)⟩)
    dsimp only [Pt.U, Pt.locs, Pt.cells, Pt.slots] at X40 l40 y40 z40 st40 hQ40
    subst l40 y40 z40
    obtain ⟨rfl, N40, e40⟩ := hQ40
    refine own_by (B := T40.setTop (mkF m 69 #[.val (.int ua), .val (.int ub), .val (.int uc), .val (.int ud), .val (.int ue), .val (.int uf), .val (.int (2 : Int32)), .val (.int ub_), .val (.int us_), .val (.int uc_), .val (.int vs_), .val (.int vc_), .val (.ref b36), .unset, .unset, .unset, .unset, .unset, .unset] [(.ref (own_ko ub_ a_INTEGER a_BIGINT a_DECIMAL a_DOUBLE a_VARCHAR)), (.ref b39), (.ref b39)])) st40 ?_
    have M40 := Fr.app N38 N40
    obtain ⟨uk, huk⟩ : ∃ z : Addr, z = (own_ko ub_ a_INTEGER a_BIGINT a_DECIMAL a_DOUBLE a_VARCHAR) := ⟨_, rfl⟩
    rw [← huk]
    refine own_by (B := T40.setTop (mkF m 71 #[.val (.int ua), .val (.int ub), .val (.int uc), .val (.int ud), .val (.int ue), .val (.int uf), .val (.int (2 : Int32)), .val (.int ub_), .val (.int us_), .val (.int uc_), .val (.int vs_), .val (.int vc_), .val (.ref b36), .unset, .unset, .unset, .unset, .unset, .unset] [(.int vs_), (.ref uk), (.ref b39), (.ref b39)])) (fun _ k => XS.iload X40.here hx rfl (hb hby at_69) rfl  k) ?_
    refine own_by (B := T40.setTop (mkF m 73 #[.val (.int ua), .val (.int ub), .val (.int uc), .val (.int ud), .val (.int ue), .val (.int uf), .val (.int (2 : Int32)), .val (.int ub_), .val (.int us_), .val (.int uc_), .val (.int vs_), .val (.int vc_), .val (.ref b36), .unset, .unset, .unset, .unset, .unset, .unset] [(.int vc_), (.int vs_), (.ref uk), (.ref b39), (.ref b39)])) (fun _ k => XS.iload X40.here hx rfl (hb hby at_71) rfl  k) ?_
    obtain ⟨_, _, ⟨T41, L41, k41, n41⟩, -, X41, ⟨Lc41, hQ41, l41, y41, z41⟩, st41⟩ := X40.specialBack hx (y := (⟨"com/example/planwright/planwright/cache/LiteralType", "<init>", "(Lcom/example/planwright/planwright/cache/LiteralType$Kind;II)V"⟩ : MethodName)) rfl hown (mvT hZ (hw _ (List.mem_of_getElem? (i := 11) rfl))) (mvT hZ (hw _ (List.mem_of_getElem? (i := 12) rfl))) (mvT hZ (hw _ (List.mem_of_getElem? (i := 13) rfl))) (by decide) (backOf (W := 1) (rmLT l Z a0 hw [] b39 uk vs_ vc_ h39 n0 (own_old_le O39) O39 A39 F39_kind F39_size F39_scale gn39) hZ (hw _ (List.mem_of_getElem? (i := 13) rfl)) (hw _ (List.mem_of_getElem? (i := 3) rfl)) (by decide) (by decide)) (g := (mkF m 73 #[.val (.int ua), .val (.int ub), .val (.int uc), .val (.int ud), .val (.int ue), .val (.int uf), .val (.int (2 : Int32)), .val (.int ub_), .val (.int us_), .val (.int uc_), .val (.int vs_), .val (.int vc_), .val (.ref b36), .unset, .unset, .unset, .unset, .unset, .unset] [(.int vc_), (.int vs_), (.ref uk), (.ref b39), (.ref b39)])) rfl (by rw [hml]; rfl) (Steps.refl _) (a := b39) (argsL := [(.ref uk), (.int vs_), (.int vc_)]) (rest := [(.ref b39)]) (lenOf pd_0__Lcom_example_planwright_planwright_cache_LiteralType_Kind_II_V rfl) rfl (by show 2 * 0 + _ ≤ _; exact Nat.le_of_eq rfl) (hb hby at_73) (fun _ _ => ⟨rfl, e40, (by decide : 2 + 0 ≤ _), (by decide : 6 + 0 ≤ _)⟩)
    dsimp only [Pt.U, Pt.locs, Pt.cells, Pt.slots] at X41 l41 y41 z41 st41 hQ41
    subst l41 y41 z41
    obtain ⟨rfl, NC41, KC41, EC41, FC41_0, FC41_1, FC41_2⟩ := hQ41
    refine own_by (B := T41.setTop (mkF m 76 #[.val (.int ua), .val (.int ub), .val (.int uc), .val (.int ud), .val (.int ue), .val (.int uf), .val (.int (2 : Int32)), .val (.int ub_), .val (.int us_), .val (.int uc_), .val (.int vs_), .val (.int vc_), .val (.ref b36), .unset, .unset, .unset, .unset, .unset, .unset] [(.ref b39)])) (fun _ k => st41.trans k) ?_
    obtain ⟨h41, e41⟩ : ∃ z, T41.heap = z := ⟨_, rfl⟩
    rw [e41] at KC41 EC41 FC41_0 FC41_1 FC41_2
    have sz41 := KC41.1
    have O41 := O39.keep KC41 (allS gn39 all0)
    have K41 := K39.trans KC41 (allS (Or.inr fz39) all0)
    have N41 := Fr.app M40 NC41
    refine own_by (B := T41.setTop (mkF m 78 #[.val (.int ua), .val (.int ub), .val (.int uc), .val (.int ud), .val (.int ue), .val (.int uf), .val (.int (2 : Int32)), .val (.int ub_), .val (.int us_), .val (.int uc_), .val (.int vs_), .val (.int vc_), .val (.ref b36), .val (.ref b39), .unset, .unset, .unset, .unset, .unset] [])) (fun _ k => XS.astore X41.here hx rfl (hb hby at_76) rfl rfl (l' := #[.val (.int ua), .val (.int ub), .val (.int uc), .val (.int ud), .val (.int ue), .val (.int uf), .val (.int (2 : Int32)), .val (.int ub_), .val (.int us_), .val (.int uc_), .val (.int vs_), .val (.int vc_), .val (.ref b36), .val (.ref b39), .unset, .unset, .unset, .unset, .unset]) rfl k) ?_
    refine own_by (B := T41.setTop (mkF m 80 #[.val (.int ua), .val (.int ub), .val (.int uc), .val (.int ud), .val (.int ue), .val (.int uf), .val (.int (2 : Int32)), .val (.int ub_), .val (.int us_), .val (.int uc_), .val (.int vs_), .val (.int vc_), .val (.ref b36), .val (.ref b39), .unset, .unset, .unset, .unset, .unset] [(.int us_)])) (fun _ k => XS.iload X41.here hx rfl (hb hby at_78) rfl  k) ?_
    refine own_by (B := T41.setTop (mkF m 81 #[.val (.int ua), .val (.int ub), .val (.int uc), .val (.int ud), .val (.int ue), .val (.int uf), .val (.int (2 : Int32)), .val (.int ub_), .val (.int us_), .val (.int uc_), .val (.int vs_), .val (.int vc_), .val (.ref b36), .val (.ref b39), .unset, .unset, .unset, .unset, .unset] [(.long (Int32.toInt64 us_))])) (fun _ k => XT.i2l X41.here hx rfl (hb hby at_80) rfl k) ?_
    refine own_by (B := T41.setTop (mkF m 83 #[.val (.int ua), .val (.int ub), .val (.int uc), .val (.int ud), .val (.int ue), .val (.int uf), .val (.int (2 : Int32)), .val (.int ub_), .val (.int us_), .val (.int uc_), .val (.int vs_), .val (.int vc_), .val (.ref b36), .val (.ref b39), .unset, .unset, .unset, .unset, .unset] [(.int uc_), (.long (Int32.toInt64 us_))])) (fun _ k => XS.iload X41.here hx rfl (hb hby at_81) rfl  k) ?_
    refine own_by (B := T41.setTop (mkF m 84 #[.val (.int ua), .val (.int ub), .val (.int uc), .val (.int ud), .val (.int ue), .val (.int uf), .val (.int (2 : Int32)), .val (.int ub_), .val (.int us_), .val (.int uc_), .val (.int vs_), .val (.int vc_), .val (.ref b36), .val (.ref b39), .unset, .unset, .unset, .unset, .unset] [(.long (Int32.toInt64 uc_)), (.long (Int32.toInt64 us_))])) (fun _ k => XT.i2l X41.here hx rfl (hb hby at_83) rfl k) ?_
    refine own_by (B := T41.setTop (mkF m 85 #[.val (.int ua), .val (.int ub), .val (.int uc), .val (.int ud), .val (.int ue), .val (.int uf), .val (.int (2 : Int32)), .val (.int ub_), .val (.int us_), .val (.int uc_), .val (.int vs_), .val (.int vc_), .val (.ref b36), .val (.ref b39), .unset, .unset, .unset, .unset, .unset] [(.long ((Int32.toInt64 us_) - (Int32.toInt64 uc_)))])) (fun _ k => XT.lsub X41.here hx rfl (hb hby at_84) rfl k) ?_
    refine own_by (B := T41.setTop (mkF m 87 #[.val (.int ua), .val (.int ub), .val (.int uc), .val (.int ud), .val (.int ue), .val (.int uf), .val (.int (2 : Int32)), .val (.int ub_), .val (.int us_), .val (.int uc_), .val (.int vs_), .val (.int vc_), .val (.ref b36), .val (.ref b39), .val (.long ((Int32.toInt64 us_) - (Int32.toInt64 uc_))), .second, .unset, .unset, .unset] [])) (fun _ k => XT.lstore X41.here hx rfl (hb hby at_85) rfl (l' := #[.val (.int ua), .val (.int ub), .val (.int uc), .val (.int ud), .val (.int ue), .val (.int uf), .val (.int (2 : Int32)), .val (.int ub_), .val (.int us_), .val (.int uc_), .val (.int vs_), .val (.int vc_), .val (.ref b36), .val (.ref b39), .val (.long ((Int32.toInt64 us_) - (Int32.toInt64 uc_))), .second, .unset, .unset, .unset]) rfl k) ?_
    refine own_by (B := T41.setTop (mkF m 89 #[.val (.int ua), .val (.int ub), .val (.int uc), .val (.int ud), .val (.int ue), .val (.int uf), .val (.int (2 : Int32)), .val (.int ub_), .val (.int us_), .val (.int uc_), .val (.int vs_), .val (.int vc_), .val (.ref b36), .val (.ref b39), .val (.long ((Int32.toInt64 us_) - (Int32.toInt64 uc_))), .second, .unset, .unset, .unset] [(.int vs_)])) (fun _ k => XS.iload X41.here hx rfl (hb hby at_87) rfl  k) ?_
    refine own_by (B := T41.setTop (mkF m 90 #[.val (.int ua), .val (.int ub), .val (.int uc), .val (.int ud), .val (.int ue), .val (.int uf), .val (.int (2 : Int32)), .val (.int ub_), .val (.int us_), .val (.int uc_), .val (.int vs_), .val (.int vc_), .val (.ref b36), .val (.ref b39), .val (.long ((Int32.toInt64 us_) - (Int32.toInt64 uc_))), .second, .unset, .unset, .unset] [(.long (Int32.toInt64 vs_))])) (fun _ k => XT.i2l X41.here hx rfl (hb hby at_89) rfl k) ?_
    refine own_by (B := T41.setTop (mkF m 92 #[.val (.int ua), .val (.int ub), .val (.int uc), .val (.int ud), .val (.int ue), .val (.int uf), .val (.int (2 : Int32)), .val (.int ub_), .val (.int us_), .val (.int uc_), .val (.int vs_), .val (.int vc_), .val (.ref b36), .val (.ref b39), .val (.long ((Int32.toInt64 us_) - (Int32.toInt64 uc_))), .second, .unset, .unset, .unset] [(.int vc_), (.long (Int32.toInt64 vs_))])) (fun _ k => XS.iload X41.here hx rfl (hb hby at_90) rfl  k) ?_
    refine own_by (B := T41.setTop (mkF m 93 #[.val (.int ua), .val (.int ub), .val (.int uc), .val (.int ud), .val (.int ue), .val (.int uf), .val (.int (2 : Int32)), .val (.int ub_), .val (.int us_), .val (.int uc_), .val (.int vs_), .val (.int vc_), .val (.ref b36), .val (.ref b39), .val (.long ((Int32.toInt64 us_) - (Int32.toInt64 uc_))), .second, .unset, .unset, .unset] [(.long (Int32.toInt64 vc_)), (.long (Int32.toInt64 vs_))])) (fun _ k => XT.i2l X41.here hx rfl (hb hby at_92) rfl k) ?_
    refine own_by (B := T41.setTop (mkF m 94 #[.val (.int ua), .val (.int ub), .val (.int uc), .val (.int ud), .val (.int ue), .val (.int uf), .val (.int (2 : Int32)), .val (.int ub_), .val (.int us_), .val (.int uc_), .val (.int vs_), .val (.int vc_), .val (.ref b36), .val (.ref b39), .val (.long ((Int32.toInt64 us_) - (Int32.toInt64 uc_))), .second, .unset, .unset, .unset] [(.long ((Int32.toInt64 vs_) - (Int32.toInt64 vc_)))])) (fun _ k => XT.lsub X41.here hx rfl (hb hby at_93) rfl k) ?_
    refine own_by (B := T41.setTop (mkF m 96 #[.val (.int ua), .val (.int ub), .val (.int uc), .val (.int ud), .val (.int ue), .val (.int uf), .val (.int (2 : Int32)), .val (.int ub_), .val (.int us_), .val (.int uc_), .val (.int vs_), .val (.int vc_), .val (.ref b36), .val (.ref b39), .val (.long ((Int32.toInt64 us_) - (Int32.toInt64 uc_))), .second, .val (.long ((Int32.toInt64 vs_) - (Int32.toInt64 vc_))), .second, .unset] [])) (fun _ k => XT.lstore X41.here hx rfl (hb hby at_94) rfl (l' := #[.val (.int ua), .val (.int ub), .val (.int uc), .val (.int ud), .val (.int ue), .val (.int uf), .val (.int (2 : Int32)), .val (.int ub_), .val (.int us_), .val (.int uc_), .val (.int vs_), .val (.int vc_), .val (.ref b36), .val (.ref b39), .val (.long ((Int32.toInt64 us_) - (Int32.toInt64 uc_))), .second, .val (.long ((Int32.toInt64 vs_) - (Int32.toInt64 vc_))), .second, .unset]) rfl k) ?_
    refine own_by (B := T41.setTop (mkF m 98 #[.val (.int ua), .val (.int ub), .val (.int uc), .val (.int ud), .val (.int ue), .val (.int uf), .val (.int (2 : Int32)), .val (.int ub_), .val (.int us_), .val (.int uc_), .val (.int vs_), .val (.int vc_), .val (.ref b36), .val (.ref b39), .val (.long ((Int32.toInt64 us_) - (Int32.toInt64 uc_))), .second, .val (.long ((Int32.toInt64 vs_) - (Int32.toInt64 vc_))), .second, .unset] [(.int (2 : Int32))])) (fun _ k => XS.iload X41.here hx rfl (hb hby at_96) rfl  k) ?_
    refine own_by (B := T41.setTop (mkF m 143 #[.val (.int ua), .val (.int ub), .val (.int uc), .val (.int ud), .val (.int ue), .val (.int uf), .val (.int (2 : Int32)), .val (.int ub_), .val (.int us_), .val (.int uc_), .val (.int vs_), .val (.int vc_), .val (.ref b36), .val (.ref b39), .val (.long ((Int32.toInt64 us_) - (Int32.toInt64 uc_))), .second, .val (.long ((Int32.toInt64 vs_) - (Int32.toInt64 vc_))), .second, .unset] [])) (fun _ k => XS.ifYes X41.here hx rfl (pc0 := 98) (pc' := 143) rfl (hb hby at_98) rfl (XT.i0_ne_t (by decide)) (by decide) (by decide) k) ?_
    refine own_by (B := T41.setTop (mkF m 145 #[.val (.int ua), .val (.int ub), .val (.int uc), .val (.int ud), .val (.int ue), .val (.int uf), .val (.int (2 : Int32)), .val (.int ub_), .val (.int us_), .val (.int uc_), .val (.int vs_), .val (.int vc_), .val (.ref b36), .val (.ref b39), .val (.long ((Int32.toInt64 us_) - (Int32.toInt64 uc_))), .second, .val (.long ((Int32.toInt64 vs_) - (Int32.toInt64 vc_))), .second, .unset] [(.int (2 : Int32))])) (fun _ k => XS.iload X41.here hx rfl (hb hby at_143) rfl  k) ?_
    refine own_by (B := T41.setTop (mkF m 146 #[.val (.int ua), .val (.int ub), .val (.int uc), .val (.int ud), .val (.int ue), .val (.int uf), .val (.int (2 : Int32)), .val (.int ub_), .val (.int us_), .val (.int uc_), .val (.int vs_), .val (.int vc_), .val (.ref b36), .val (.ref b39), .val (.long ((Int32.toInt64 us_) - (Int32.toInt64 uc_))), .second, .val (.long ((Int32.toInt64 vs_) - (Int32.toInt64 vc_))), .second, .unset] [(.int (1 : Int32)), (.int (2 : Int32))])) (fun _ k => XS.iconst X41.here hx rfl (hb hby at_145) k) ?_
    refine own_by (B := T41.setTop (mkF m 186 #[.val (.int ua), .val (.int ub), .val (.int uc), .val (.int ud), .val (.int ue), .val (.int uf), .val (.int (2 : Int32)), .val (.int ub_), .val (.int us_), .val (.int uc_), .val (.int vs_), .val (.int vc_), .val (.ref b36), .val (.ref b39), .val (.long ((Int32.toInt64 us_) - (Int32.toInt64 uc_))), .second, .val (.long ((Int32.toInt64 vs_) - (Int32.toInt64 vc_))), .second, .unset] [])) (fun _ k => XS.icmpYes X41.here hx rfl (pc0 := 146) (pc' := 186) rfl (hb hby at_146) rfl (XT.ii_ne_t (by decide)) (by decide) (by decide) k) ?_
    refine own_by (B := T41.setTop (mkF m 188 #[.val (.int ua), .val (.int ub), .val (.int uc), .val (.int ud), .val (.int ue), .val (.int uf), .val (.int (2 : Int32)), .val (.int ub_), .val (.int us_), .val (.int uc_), .val (.int vs_), .val (.int vc_), .val (.ref b36), .val (.ref b39), .val (.long ((Int32.toInt64 us_) - (Int32.toInt64 uc_))), .second, .val (.long ((Int32.toInt64 vs_) - (Int32.toInt64 vc_))), .second, .unset] [(.int (2 : Int32))])) (fun _ k => XS.iload X41.here hx rfl (hb hby at_186) rfl  k) ?_
    refine own_by (B := T41.setTop (mkF m 189 #[.val (.int ua), .val (.int ub), .val (.int uc), .val (.int ud), .val (.int ue), .val (.int uf), .val (.int (2 : Int32)), .val (.int ub_), .val (.int us_), .val (.int uc_), .val (.int vs_), .val (.int vc_), .val (.ref b36), .val (.ref b39), .val (.long ((Int32.toInt64 us_) - (Int32.toInt64 uc_))), .second, .val (.long ((Int32.toInt64 vs_) - (Int32.toInt64 vc_))), .second, .unset] [(.int (2 : Int32)), (.int (2 : Int32))])) (fun _ k => XS.iconst X41.here hx rfl (hb hby at_188) k) ?_
    refine own_by (B := T41.setTop (mkF m 192 #[.val (.int ua), .val (.int ub), .val (.int uc), .val (.int ud), .val (.int ue), .val (.int uf), .val (.int (2 : Int32)), .val (.int ub_), .val (.int us_), .val (.int uc_), .val (.int vs_), .val (.int vc_), .val (.ref b36), .val (.ref b39), .val (.long ((Int32.toInt64 us_) - (Int32.toInt64 uc_))), .second, .val (.long ((Int32.toInt64 vs_) - (Int32.toInt64 vc_))), .second, .unset] [])) (fun _ k => XS.icmpNo X41.here hx rfl (hb hby at_189) rfl (XT.ii_ne_f (by decide)) k) ?_
    refine own_by (B := T41.setTop (mkF m 194 #[.val (.int ua), .val (.int ub), .val (.int uc), .val (.int ud), .val (.int ue), .val (.int uf), .val (.int (2 : Int32)), .val (.int ub_), .val (.int us_), .val (.int uc_), .val (.int vs_), .val (.int vc_), .val (.ref b36), .val (.ref b39), .val (.long ((Int32.toInt64 us_) - (Int32.toInt64 uc_))), .second, .val (.long ((Int32.toInt64 vs_) - (Int32.toInt64 vc_))), .second, .unset] [(.int ub_)])) (fun _ k => XS.iload X41.here hx rfl (hb hby at_192) rfl  k) ?_
    refine own_by (B := T41.setTop (mkF m 195 #[.val (.int ua), .val (.int ub), .val (.int uc), .val (.int ud), .val (.int ue), .val (.int uf), .val (.int (2 : Int32)), .val (.int ub_), .val (.int us_), .val (.int uc_), .val (.int vs_), .val (.int vc_), .val (.ref b36), .val (.ref b39), .val (.long ((Int32.toInt64 us_) - (Int32.toInt64 uc_))), .second, .val (.long ((Int32.toInt64 vs_) - (Int32.toInt64 vc_))), .second, .unset] [(.int (3 : Int32)), (.int ub_)])) (fun _ k => XS.iconst X41.here hx rfl (hb hby at_194) k) ?_
    obtain ⟨mv42, hmv42⟩ : ∃ z : Int32, z = if ub_ = (3 : Int32) then (1 : Int32) else if ub_ = (2 : Int32) then (if vc_ < uc_ then (0 : Int32) else if ((Int32.toInt64 vs_) - (Int32.toInt64 vc_)) < ((Int32.toInt64 us_) - (Int32.toInt64 uc_)) then (0 : Int32) else (1 : Int32)) else (0 : Int32) := ⟨_, rfl⟩
    suffices hj43 : own_Go p.tables e below (own_KL s below (own_Q0 n0) 16 2176) (T41.setTop (mkF m 224 #[.val (.int ua), .val (.int ub), .val (.int uc), .val (.int ud), .val (.int ue), .val (.int uf), .val (.int (2 : Int32)), .val (.int ub_), .val (.int us_), .val (.int uc_), .val (.int vs_), .val (.int vc_), .val (.ref b36), .val (.ref b39), .val (.long ((Int32.toInt64 us_) - (Int32.toInt64 uc_))), .second, .val (.long ((Int32.toInt64 vs_) - (Int32.toInt64 vc_))), .second, .unset] [(.int mv42)])) by
      by_cases hc44 : ub_ = (3 : Int32)
      · refine own_by (B := T41.setTop (mkF m 219 #[.val (.int ua), .val (.int ub), .val (.int uc), .val (.int ud), .val (.int ue), .val (.int uf), .val (.int (2 : Int32)), .val (.int ub_), .val (.int us_), .val (.int uc_), .val (.int vs_), .val (.int vc_), .val (.ref b36), .val (.ref b39), .val (.long ((Int32.toInt64 us_) - (Int32.toInt64 uc_))), .second, .val (.long ((Int32.toInt64 vs_) - (Int32.toInt64 vc_))), .second, .unset] [])) (fun _ k => XS.icmpYes X41.here hx rfl (pc0 := 195) (pc' := 219) rfl (hb hby at_195) rfl (XT.ii_eq_t hc44) (by decide) (by decide) k) ?_
        refine own_by (B := T41.setTop (mkF m 220 #[.val (.int ua), .val (.int ub), .val (.int uc), .val (.int ud), .val (.int ue), .val (.int uf), .val (.int (2 : Int32)), .val (.int ub_), .val (.int us_), .val (.int uc_), .val (.int vs_), .val (.int vc_), .val (.ref b36), .val (.ref b39), .val (.long ((Int32.toInt64 us_) - (Int32.toInt64 uc_))), .second, .val (.long ((Int32.toInt64 vs_) - (Int32.toInt64 vc_))), .second, .unset] [(.int (1 : Int32))])) (fun _ k => XS.iconst X41.here hx rfl (hb hby at_219) k) ?_
        refine own_by (B := T41.setTop (mkF m 224 #[.val (.int ua), .val (.int ub), .val (.int uc), .val (.int ud), .val (.int ue), .val (.int uf), .val (.int (2 : Int32)), .val (.int ub_), .val (.int us_), .val (.int uc_), .val (.int vs_), .val (.int vc_), .val (.ref b36), .val (.ref b39), .val (.long ((Int32.toInt64 us_) - (Int32.toInt64 uc_))), .second, .val (.long ((Int32.toInt64 vs_) - (Int32.toInt64 vc_))), .second, .unset] [(.int (1 : Int32))])) (fun _ k => XS.goto X41.here hx rfl (pc0 := 220) (pc' := 224) rfl (hb hby at_220) (by decide) (by decide) k) ?_
        rw [show mv42 = (1 : Int32) from hmv42.trans (((if_pos hc44).trans rfl))] at hj43
        exact hj43
      · refine own_by (B := T41.setTop (mkF m 198 #[.val (.int ua), .val (.int ub), .val (.int uc), .val (.int ud), .val (.int ue), .val (.int uf), .val (.int (2 : Int32)), .val (.int ub_), .val (.int us_), .val (.int uc_), .val (.int vs_), .val (.int vc_), .val (.ref b36), .val (.ref b39), .val (.long ((Int32.toInt64 us_) - (Int32.toInt64 uc_))), .second, .val (.long ((Int32.toInt64 vs_) - (Int32.toInt64 vc_))), .second, .unset] [])) (fun _ k => XS.icmpNo X41.here hx rfl (hb hby at_195) rfl (XT.ii_eq_f hc44) k) ?_
        refine own_by (B := T41.setTop (mkF m 200 #[.val (.int ua), .val (.int ub), .val (.int uc), .val (.int ud), .val (.int ue), .val (.int uf), .val (.int (2 : Int32)), .val (.int ub_), .val (.int us_), .val (.int uc_), .val (.int vs_), .val (.int vc_), .val (.ref b36), .val (.ref b39), .val (.long ((Int32.toInt64 us_) - (Int32.toInt64 uc_))), .second, .val (.long ((Int32.toInt64 vs_) - (Int32.toInt64 vc_))), .second, .unset] [(.int ub_)])) (fun _ k => XS.iload X41.here hx rfl (hb hby at_198) rfl  k) ?_
        refine own_by (B := T41.setTop (mkF m 201 #[.val (.int ua), .val (.int ub), .val (.int uc), .val (.int ud), .val (.int ue), .val (.int uf), .val (.int (2 : Int32)), .val (.int ub_), .val (.int us_), .val (.int uc_), .val (.int vs_), .val (.int vc_), .val (.ref b36), .val (.ref b39), .val (.long ((Int32.toInt64 us_) - (Int32.toInt64 uc_))), .second, .val (.long ((Int32.toInt64 vs_) - (Int32.toInt64 vc_))), .second, .unset] [(.int (2 : Int32)), (.int ub_)])) (fun _ k => XS.iconst X41.here hx rfl (hb hby at_200) k) ?_
        by_cases hc45 : ub_ = (2 : Int32)
        · refine own_by (B := T41.setTop (mkF m 204 #[.val (.int ua), .val (.int ub), .val (.int uc), .val (.int ud), .val (.int ue), .val (.int uf), .val (.int (2 : Int32)), .val (.int ub_), .val (.int us_), .val (.int uc_), .val (.int vs_), .val (.int vc_), .val (.ref b36), .val (.ref b39), .val (.long ((Int32.toInt64 us_) - (Int32.toInt64 uc_))), .second, .val (.long ((Int32.toInt64 vs_) - (Int32.toInt64 vc_))), .second, .unset] [])) (fun _ k => XS.icmpNo X41.here hx rfl (hb hby at_201) rfl (XT.ii_ne_f hc45) k) ?_
          refine own_by (B := T41.setTop (mkF m 206 #[.val (.int ua), .val (.int ub), .val (.int uc), .val (.int ud), .val (.int ue), .val (.int uf), .val (.int (2 : Int32)), .val (.int ub_), .val (.int us_), .val (.int uc_), .val (.int vs_), .val (.int vc_), .val (.ref b36), .val (.ref b39), .val (.long ((Int32.toInt64 us_) - (Int32.toInt64 uc_))), .second, .val (.long ((Int32.toInt64 vs_) - (Int32.toInt64 vc_))), .second, .unset] [(.int uc_)])) (fun _ k => XS.iload X41.here hx rfl (hb hby at_204) rfl  k) ?_
          refine own_by (B := T41.setTop (mkF m 208 #[.val (.int ua), .val (.int ub), .val (.int uc), .val (.int ud), .val (.int ue), .val (.int uf), .val (.int (2 : Int32)), .val (.int ub_), .val (.int us_), .val (.int uc_), .val (.int vs_), .val (.int vc_), .val (.ref b36), .val (.ref b39), .val (.long ((Int32.toInt64 us_) - (Int32.toInt64 uc_))), .second, .val (.long ((Int32.toInt64 vs_) - (Int32.toInt64 vc_))), .second, .unset] [(.int vc_), (.int uc_)])) (fun _ k => XS.iload X41.here hx rfl (hb hby at_206) rfl  k) ?_
          by_cases hc46 : vc_ < uc_
          · refine own_by (B := T41.setTop (mkF m 223 #[.val (.int ua), .val (.int ub), .val (.int uc), .val (.int ud), .val (.int ue), .val (.int uf), .val (.int (2 : Int32)), .val (.int ub_), .val (.int us_), .val (.int uc_), .val (.int vs_), .val (.int vc_), .val (.ref b36), .val (.ref b39), .val (.long ((Int32.toInt64 us_) - (Int32.toInt64 uc_))), .second, .val (.long ((Int32.toInt64 vs_) - (Int32.toInt64 vc_))), .second, .unset] [])) (fun _ k => XS.icmpYes X41.here hx rfl (pc0 := 208) (pc' := 223) rfl (hb hby at_208) rfl (XT.ii_gt_t hc46) (by decide) (by decide) k) ?_
            refine own_by (B := T41.setTop (mkF m 224 #[.val (.int ua), .val (.int ub), .val (.int uc), .val (.int ud), .val (.int ue), .val (.int uf), .val (.int (2 : Int32)), .val (.int ub_), .val (.int us_), .val (.int uc_), .val (.int vs_), .val (.int vc_), .val (.ref b36), .val (.ref b39), .val (.long ((Int32.toInt64 us_) - (Int32.toInt64 uc_))), .second, .val (.long ((Int32.toInt64 vs_) - (Int32.toInt64 vc_))), .second, .unset] [(.int (0 : Int32))])) (fun _ k => XS.iconst X41.here hx rfl (hb hby at_223) k) ?_
            rw [show mv42 = (0 : Int32) from hmv42.trans (((if_neg hc44).trans  ((if_pos hc45).trans  ((if_pos hc46).trans rfl))))] at hj43
            exact hj43
          · refine own_by (B := T41.setTop (mkF m 211 #[.val (.int ua), .val (.int ub), .val (.int uc), .val (.int ud), .val (.int ue), .val (.int uf), .val (.int (2 : Int32)), .val (.int ub_), .val (.int us_), .val (.int uc_), .val (.int vs_), .val (.int vc_), .val (.ref b36), .val (.ref b39), .val (.long ((Int32.toInt64 us_) - (Int32.toInt64 uc_))), .second, .val (.long ((Int32.toInt64 vs_) - (Int32.toInt64 vc_))), .second, .unset] [])) (fun _ k => XS.icmpNo X41.here hx rfl (hb hby at_208) rfl (XT.ii_gt_f hc46) k) ?_
            refine own_by (B := T41.setTop (mkF m 213 #[.val (.int ua), .val (.int ub), .val (.int uc), .val (.int ud), .val (.int ue), .val (.int uf), .val (.int (2 : Int32)), .val (.int ub_), .val (.int us_), .val (.int uc_), .val (.int vs_), .val (.int vc_), .val (.ref b36), .val (.ref b39), .val (.long ((Int32.toInt64 us_) - (Int32.toInt64 uc_))), .second, .val (.long ((Int32.toInt64 vs_) - (Int32.toInt64 vc_))), .second, .unset] [(.long ((Int32.toInt64 us_) - (Int32.toInt64 uc_)))])) (fun _ k => XT.lload X41.here hx rfl (hb hby at_211) rfl  k) ?_
            refine own_by (B := T41.setTop (mkF m 215 #[.val (.int ua), .val (.int ub), .val (.int uc), .val (.int ud), .val (.int ue), .val (.int uf), .val (.int (2 : Int32)), .val (.int ub_), .val (.int us_), .val (.int uc_), .val (.int vs_), .val (.int vc_), .val (.ref b36), .val (.ref b39), .val (.long ((Int32.toInt64 us_) - (Int32.toInt64 uc_))), .second, .val (.long ((Int32.toInt64 vs_) - (Int32.toInt64 vc_))), .second, .unset] [(.long ((Int32.toInt64 vs_) - (Int32.toInt64 vc_))), (.long ((Int32.toInt64 us_) - (Int32.toInt64 uc_)))])) (fun _ k => XT.lload X41.here hx rfl (hb hby at_213) rfl  k) ?_
            refine own_by (B := T41.setTop (mkF m 216 #[.val (.int ua), .val (.int ub), .val (.int uc), .val (.int ud), .val (.int ue), .val (.int uf), .val (.int (2 : Int32)), .val (.int ub_), .val (.int us_), .val (.int uc_), .val (.int vs_), .val (.int vc_), .val (.ref b36), .val (.ref b39), .val (.long ((Int32.toInt64 us_) - (Int32.toInt64 uc_))), .second, .val (.long ((Int32.toInt64 vs_) - (Int32.toInt64 vc_))), .second, .unset] [(.int (XT.cmpL ((Int32.toInt64 us_) - (Int32.toInt64 uc_)) ((Int32.toInt64 vs_) - (Int32.toInt64 vc_))))])) (fun _ k => XT.lcmp X41.here hx rfl (hb hby at_215) rfl k) ?_
            by_cases hc47 : ((Int32.toInt64 vs_) - (Int32.toInt64 vc_)) < ((Int32.toInt64 us_) - (Int32.toInt64 uc_))
            · refine own_by (B := T41.setTop (mkF m 223 #[.val (.int ua), .val (.int ub), .val (.int uc), .val (.int ud), .val (.int ue), .val (.int uf), .val (.int (2 : Int32)), .val (.int ub_), .val (.int us_), .val (.int uc_), .val (.int vs_), .val (.int vc_), .val (.ref b36), .val (.ref b39), .val (.long ((Int32.toInt64 us_) - (Int32.toInt64 uc_))), .second, .val (.long ((Int32.toInt64 vs_) - (Int32.toInt64 vc_))), .second, .unset] [])) (fun _ k => XS.ifYes X41.here hx rfl (pc0 := 216) (pc' := 223) rfl (hb hby at_216) rfl (XT.ll_gt_t hc47) (by decide) (by decide) k) ?_
              refine own_by (B := T41.setTop (mkF m 224 #[.val (.int ua), .val (.int ub), .val (.int uc), .val (.int ud), .val (.int ue), .val (.int uf), .val (.int (2 : Int32)), .val (.int ub_), .val (.int us_), .val (.int uc_), .val (.int vs_), .val (.int vc_), .val (.ref b36), .val (.ref b39), .val (.long ((Int32.toInt64 us_) - (Int32.toInt64 uc_))), .second, .val (.long ((Int32.toInt64 vs_) - (Int32.toInt64 vc_))), .second, .unset] [(.int (0 : Int32))])) (fun _ k => XS.iconst X41.here hx rfl (hb hby at_223) k) ?_
              rw [show mv42 = (0 : Int32) from hmv42.trans (((if_neg hc44).trans  ((if_pos hc45).trans  ((if_neg hc46).trans  ((if_pos hc47).trans rfl)))))] at hj43
              exact hj43
            · refine own_by (B := T41.setTop (mkF m 219 #[.val (.int ua), .val (.int ub), .val (.int uc), .val (.int ud), .val (.int ue), .val (.int uf), .val (.int (2 : Int32)), .val (.int ub_), .val (.int us_), .val (.int uc_), .val (.int vs_), .val (.int vc_), .val (.ref b36), .val (.ref b39), .val (.long ((Int32.toInt64 us_) - (Int32.toInt64 uc_))), .second, .val (.long ((Int32.toInt64 vs_) - (Int32.toInt64 vc_))), .second, .unset] [])) (fun _ k => XS.ifNo X41.here hx rfl (hb hby at_216) rfl (XT.ll_gt_f hc47) k) ?_
              refine own_by (B := T41.setTop (mkF m 220 #[.val (.int ua), .val (.int ub), .val (.int uc), .val (.int ud), .val (.int ue), .val (.int uf), .val (.int (2 : Int32)), .val (.int ub_), .val (.int us_), .val (.int uc_), .val (.int vs_), .val (.int vc_), .val (.ref b36), .val (.ref b39), .val (.long ((Int32.toInt64 us_) - (Int32.toInt64 uc_))), .second, .val (.long ((Int32.toInt64 vs_) - (Int32.toInt64 vc_))), .second, .unset] [(.int (1 : Int32))])) (fun _ k => XS.iconst X41.here hx rfl (hb hby at_219) k) ?_
              refine own_by (B := T41.setTop (mkF m 224 #[.val (.int ua), .val (.int ub), .val (.int uc), .val (.int ud), .val (.int ue), .val (.int uf), .val (.int (2 : Int32)), .val (.int ub_), .val (.int us_), .val (.int uc_), .val (.int vs_), .val (.int vc_), .val (.ref b36), .val (.ref b39), .val (.long ((Int32.toInt64 us_) - (Int32.toInt64 uc_))), .second, .val (.long ((Int32.toInt64 vs_) - (Int32.toInt64 vc_))), .second, .unset] [(.int (1 : Int32))])) (fun _ k => XS.goto X41.here hx rfl (pc0 := 220) (pc' := 224) rfl (hb hby at_220) (by decide) (by decide) k) ?_
              rw [show mv42 = (1 : Int32) from hmv42.trans (((if_neg hc44).trans  ((if_pos hc45).trans  ((if_neg hc46).trans  ((if_neg hc47).trans rfl)))))] at hj43
              exact hj43
        · refine own_by (B := T41.setTop (mkF m 223 #[.val (.int ua), .val (.int ub), .val (.int uc), .val (.int ud), .val (.int ue), .val (.int uf), .val (.int (2 : Int32)), .val (.int ub_), .val (.int us_), .val (.int uc_), .val (.int vs_), .val (.int vc_), .val (.ref b36), .val (.ref b39), .val (.long ((Int32.toInt64 us_) - (Int32.toInt64 uc_))), .second, .val (.long ((Int32.toInt64 vs_) - (Int32.toInt64 vc_))), .second, .unset] [])) (fun _ k => XS.icmpYes X41.here hx rfl (pc0 := 201) (pc' := 223) rfl (hb hby at_201) rfl (XT.ii_ne_t hc45) (by decide) (by decide) k) ?_
          refine own_by (B := T41.setTop (mkF m 224 #[.val (.int ua), .val (.int ub), .val (.int uc), .val (.int ud), .val (.int ue), .val (.int uf), .val (.int (2 : Int32)), .val (.int ub_), .val (.int us_), .val (.int uc_), .val (.int vs_), .val (.int vc_), .val (.ref b36), .val (.ref b39), .val (.long ((Int32.toInt64 us_) - (Int32.toInt64 uc_))), .second, .val (.long ((Int32.toInt64 vs_) - (Int32.toInt64 vc_))), .second, .unset] [(.int (0 : Int32))])) (fun _ k => XS.iconst X41.here hx rfl (hb hby at_223) k) ?_
          rw [show mv42 = (0 : Int32) from hmv42.trans (((if_neg hc44).trans  ((if_neg hc45).trans rfl)))] at hj43
          exact hj43
    refine own_by (B := T41.setTop (mkF m 226 #[.val (.int ua), .val (.int ub), .val (.int uc), .val (.int ud), .val (.int ue), .val (.int uf), .val (.int (2 : Int32)), .val (.int ub_), .val (.int us_), .val (.int uc_), .val (.int vs_), .val (.int vc_), .val (.ref b36), .val (.ref b39), .val (.long ((Int32.toInt64 us_) - (Int32.toInt64 uc_))), .second, .val (.long ((Int32.toInt64 vs_) - (Int32.toInt64 vc_))), .second, .val (.int mv42)] [])) (fun _ k => XS.istore X41.here hx rfl (hb hby at_224) rfl (l' := #[.val (.int ua), .val (.int ub), .val (.int uc), .val (.int ud), .val (.int ue), .val (.int uf), .val (.int (2 : Int32)), .val (.int ub_), .val (.int us_), .val (.int uc_), .val (.int vs_), .val (.int vc_), .val (.ref b36), .val (.ref b39), .val (.long ((Int32.toInt64 us_) - (Int32.toInt64 uc_))), .second, .val (.long ((Int32.toInt64 vs_) - (Int32.toInt64 vc_))), .second, .val (.int mv42)]) rfl k) ?_
    refine own_by (B := T41.setTop (mkF m 271 #[.val (.int ua), .val (.int ub), .val (.int uc), .val (.int ud), .val (.int ue), .val (.int uf), .val (.int (2 : Int32)), .val (.int ub_), .val (.int us_), .val (.int uc_), .val (.int vs_), .val (.int vc_), .val (.ref b36), .val (.ref b39), .val (.long ((Int32.toInt64 us_) - (Int32.toInt64 uc_))), .second, .val (.long ((Int32.toInt64 vs_) - (Int32.toInt64 vc_))), .second, .val (.int mv42)] [])) (fun _ k => XS.goto X41.here hx rfl (pc0 := 226) (pc' := 271) rfl (hb hby at_226) (by decide) (by decide) k) ?_
    refine own_by (B := T41.setTop (mkF m 273 #[.val (.int ua), .val (.int ub), .val (.int uc), .val (.int ud), .val (.int ue), .val (.int uf), .val (.int (2 : Int32)), .val (.int ub_), .val (.int us_), .val (.int uc_), .val (.int vs_), .val (.int vc_), .val (.ref b36), .val (.ref b39), .val (.long ((Int32.toInt64 us_) - (Int32.toInt64 uc_))), .second, .val (.long ((Int32.toInt64 vs_) - (Int32.toInt64 vc_))), .second, .val (.int mv42)] [(.ref b36)])) (fun _ k => XS.aload X41.here hx rfl (hb hby at_271) rfl rfl  k) ?_
    refine own_by (B := T41.setTop (mkF m 275 #[.val (.int ua), .val (.int ub), .val (.int uc), .val (.int ud), .val (.int ue), .val (.int uf), .val (.int (2 : Int32)), .val (.int ub_), .val (.int us_), .val (.int uc_), .val (.int vs_), .val (.int vc_), .val (.ref b36), .val (.ref b39), .val (.long ((Int32.toInt64 us_) - (Int32.toInt64 uc_))), .second, .val (.long ((Int32.toInt64 vs_) - (Int32.toInt64 vc_))), .second, .val (.int mv42)] [(.ref b39), (.ref b36)])) (fun _ k => XS.aload X41.here hx rfl (hb hby at_273) rfl rfl  k) ?_
    have c48 := ((EC38.ext E39).keep KC41)
    have c49 := ((FC38_0.ext E39).keep KC41 (ninS (own_ne (by omega)) nin0))
    have c50 := ((FC38_1.ext E39).keep KC41 (ninS (own_ne (by omega)) nin0))
    have c51 := ((FC38_2.ext E39).keep KC41 (ninS (own_ne (by omega)) nin0))
    have CHn : CHv Z own_EL s.vm h41 := (CHv.keep KC41 (sfS (Safe.exa hZ.alike A39 (by decide) (by decide)) sf0) (CHv.ext E39 (CHv.keep KC38 (sfS (Safe.exa hZ.alike A36 (by decide) (by decide)) sf0) (CHv.ext E36 CH0))))
    obtain ⟨cq52, kq52, qa52, qb52, qc52⟩ := isOf hZ e41 c48
    obtain ⟨_, _, ⟨T52, L52, k52, n52⟩, -, X52, hS52, hle52, ⟨Lc52, hQ52, l52, y52, z52, CR52⟩, st52⟩ := Jvm.Stand.virtualBackS X41 hx (y := (⟨"com/example/planwright/planwright/cache/LiteralType", "fits", "(Lcom/example/planwright/planwright/cache/LiteralType;)Z"⟩ : MethodName)) (z := (⟨"com/example/planwright/planwright/cache/LiteralType", "fits", "(Lcom/example/planwright/planwright/cache/LiteralType;)Z"⟩ : MethodName)) hown (mvT hZ (hw _ (List.mem_of_getElem? (i := 30) rfl))) (mvT hZ (hw _ (List.mem_of_getElem? (i := 31) rfl))) (notFace_of_selects (args := #[]) (mvT hZ (hw _ (List.mem_of_getElem? (i := 33) rfl)))) (mvT hZ (hw _ (List.mem_of_getElem? (i := 33) rfl))) (mvT hZ (hw _ (List.mem_of_getElem? (i := 32) rfl))) (by decide) (backOfSH (s := s) (vm0 := s.vm) (W := 0) (rmFitDECIMAL l Z a0 hw [] a_INTEGER a_BIGINT a_VARCHAR a_DECIMAL a_DOUBLE ucs b36 b39 uk us_ uc_ vs_ vc_ h41 n0 (own_old_le O41) O41 HW c48 c49 c50 c51 EC41 FC41_0 FC41_1 FC41_2) hZ (hw _ (List.mem_of_getElem? (i := 34) rfl)) (hw _ (List.mem_of_getElem? (i := 3) rfl)) (by decide) (by decide) own_hEL CHn) qa52 qc52 (g := (mkF m 275 #[.val (.int ua), .val (.int ub), .val (.int uc), .val (.int ud), .val (.int ue), .val (.int uf), .val (.int (2 : Int32)), .val (.int ub_), .val (.int us_), .val (.int uc_), .val (.int vs_), .val (.int vc_), .val (.ref b36), .val (.ref b39), .val (.long ((Int32.toInt64 us_) - (Int32.toInt64 uc_))), .second, .val (.long ((Int32.toInt64 vs_) - (Int32.toInt64 vc_))), .second, .val (.int mv42)] [(.ref b39), (.ref b36)])) rfl (by rw [hml]; rfl) (Steps.refl _) (argsL := [(.ref b39)]) (rest := []) (lenOf pd_0__Lcom_example_planwright_planwright_cache_LiteralType__Z rfl) rfl (by show 2 * 0 + _ ≤ _; exact Nat.le_of_eq rfl) (hb hby at_275) (fun _ _ => ⟨rfl, e41, (by decide : 2 + 0 ≤ _), (by decide : 6 + 0 ≤ _)⟩)
    dsimp only [Pt.U, Pt.locs, Pt.cells, Pt.slots] at X52 l52 y52 z52 st52 hQ52 hS52 hle52 CR52
    subst l52 y52 z52
    obtain ⟨rfl, N52, KC52⟩ := hQ52
    have M52 := Fr.app N41 N52
    refine own_by (B := T52.setTop (mkF m 278 #[.val (.int ua), .val (.int ub), .val (.int uc), .val (.int ud), .val (.int ue), .val (.int uf), .val (.int (2 : Int32)), .val (.int ub_), .val (.int us_), .val (.int uc_), .val (.int vs_), .val (.int vc_), .val (.ref b36), .val (.ref b39), .val (.long ((Int32.toInt64 us_) - (Int32.toInt64 uc_))), .second, .val (.long ((Int32.toInt64 vs_) - (Int32.toInt64 vc_))), .second, .val (.int mv42)] [(.int (own_fitDECIMAL uk us_ uc_ vs_ vc_ a_INTEGER a_BIGINT a_DECIMAL a_DOUBLE a_VARCHAR))])) (fun _ k => st52.trans k) ?_
    refine own_by (B := T52.setTop (mkF m 280 #[.val (.int ua), .val (.int ub), .val (.int uc), .val (.int ud), .val (.int ue), .val (.int uf), .val (.int (2 : Int32)), .val (.int ub_), .val (.int us_), .val (.int uc_), .val (.int vs_), .val (.int vc_), .val (.ref b36), .val (.ref b39), .val (.long ((Int32.toInt64 us_) - (Int32.toInt64 uc_))), .second, .val (.long ((Int32.toInt64 vs_) - (Int32.toInt64 vc_))), .second, .val (.int mv42)] [(.int mv42), (.int (own_fitDECIMAL uk us_ uc_ vs_ vc_ a_INTEGER a_BIGINT a_DECIMAL a_DOUBLE a_VARCHAR))])) (fun _ k => XS.iload X52.here hx rfl (hb hby at_278) rfl  k) ?_
    refine own_by (B := T52.setTop (mkF m 283 #[.val (.int ua), .val (.int ub), .val (.int uc), .val (.int ud), .val (.int ue), .val (.int uf), .val (.int (2 : Int32)), .val (.int ub_), .val (.int us_), .val (.int uc_), .val (.int vs_), .val (.int vc_), .val (.ref b36), .val (.ref b39), .val (.long ((Int32.toInt64 us_) - (Int32.toInt64 uc_))), .second, .val (.long ((Int32.toInt64 vs_) - (Int32.toInt64 vc_))), .second, .val (.int mv42)] [])) (fun _ k => XS.icmpNo X52.here hx rfl (hb hby at_280) rfl (XT.ii_ne_f (by rw [huk]; exact own_lawDECIMAL hb0 hb1 hp1 hp2 hp3 hp4 hD hmv42)) k) ?_
    refine own_by (B := T52.setTop (mkF m 284 #[.val (.int ua), .val (.int ub), .val (.int uc), .val (.int ud), .val (.int ue), .val (.int uf), .val (.int (2 : Int32)), .val (.int ub_), .val (.int us_), .val (.int uc_), .val (.int vs_), .val (.int vc_), .val (.ref b36), .val (.ref b39), .val (.long ((Int32.toInt64 us_) - (Int32.toInt64 uc_))), .second, .val (.long ((Int32.toInt64 vs_) - (Int32.toInt64 vc_))), .second, .val (.int mv42)] [(.int (1 : Int32))])) (fun _ k => XS.iconst X52.here hx rfl (hb hby at_283) k) ?_
    refine own_by (B := T52.setTop (mkF m 288 #[.val (.int ua), .val (.int ub), .val (.int uc), .val (.int ud), .val (.int ue), .val (.int uf), .val (.int (2 : Int32)), .val (.int ub_), .val (.int us_), .val (.int uc_), .val (.int vs_), .val (.int vc_), .val (.ref b36), .val (.ref b39), .val (.long ((Int32.toInt64 us_) - (Int32.toInt64 uc_))), .second, .val (.long ((Int32.toInt64 vs_) - (Int32.toInt64 vc_))), .second, .val (.int mv42)] [(.int (1 : Int32))])) (fun _ k => XS.goto X52.here hx rfl (pc0 := 284) (pc' := 288) rfl (hb hby at_284) (by decide) (by decide) k) ?_
    exact own_retZL (s := s) X52 hx hS52 (Nat.le_refl _) hrt hlk rfl (hb hby at_288) (by decide) (by decide) ⟨rfl, M52⟩
  · obtain ⟨T53, h53, X53, e53, E53, A53, D53, -, st53⟩ := newO X0 hx hZ hown (hw _ (List.mem_of_getElem? (i := 1) rfl)) (hw _ (List.mem_of_getElem? (i := 2) rfl)) (hw _ (List.mem_of_getElem? (i := 3) rfl)) e0 (g := (mkF m 42 #[.val (.int ua), .val (.int ub), .val (.int uc), .val (.int ud), .val (.int ue), .val (.int uf), .val (.int (3 : Int32)), .val (.int ub_), .val (.int us_), .val (.int uc_), .val (.int vs_), .val (.int vc_), .unset, .unset, .unset, .unset, .unset, .unset, .unset] [])) rfl (hb hby at_42) (by decide) (by decide)
    obtain ⟨b53, g53⟩ : ∃ z, z = h0.size := ⟨_, rfl⟩
    rw [← g53] at A53 D53 st53
    have sz53 := E53.1
    have gn53 : n0 ≤ b53 := g53 ▸ own_old_le O0
    have fz53 : h0.size ≤ b53 := g53 ▸ K0.1
    have lt53 := own_lt A53.lt
    have O53 := O0.ext E53
    have K53 := K0.ext E53
    have F53_kind : Fld Z h53 b53 "com/example/planwright/planwright/cache/LiteralType" "kind" "Lcom/example/planwright/planwright/cache/LiteralType$Kind;" .null := D53 (Or.inr (hw _ (List.mem_of_getElem? (i := 23) rfl))) (ty := (.object "com/example/planwright/planwright/cache/LiteralType$Kind")) (by decide)
    have F53_size : Fld Z h53 b53 "com/example/planwright/planwright/cache/LiteralType" "size" "I" (.int (0 : Int32)) := D53 (Or.inr (hw _ (List.mem_of_getElem? (i := 25) rfl))) (ty := .int) (by decide)
    have F53_scale : Fld Z h53 b53 "com/example/planwright/planwright/cache/LiteralType" "scale" "I" (.int (0 : Int32)) := D53 (Or.inr (hw _ (List.mem_of_getElem? (i := 27) rfl))) (ty := .int) (by decide)
    refine own_by (B := T53.setTop (mkF m 45 #[.val (.int ua), .val (.int ub), .val (.int uc), .val (.int ud), .val (.int ue), .val (.int uf), .val (.int (3 : Int32)), .val (.int ub_), .val (.int us_), .val (.int uc_), .val (.int vs_), .val (.int vc_), .unset, .unset, .unset, .unset, .unset, .unset, .unset] [(.ref b53)])) st53 ?_
    refine own_by (B := T53.setTop (mkF m 46 #[.val (.int ua), .val (.int ub), .val (.int uc), .val (.int ud), .val (.int ue), .val (.int uf), .val (.int (3 : Int32)), .val (.int ub_), .val (.int us_), .val (.int uc_), .val (.int vs_), .val (.int vc_), .unset, .unset, .unset, .unset, .unset, .unset, .unset] [(.ref b53), (.ref b53)])) (fun _ k => XS.dup X53.here hx rfl (hb hby at_45) rfl rfl k) ?_
    refine own_by (B := T53.setTop (mkF m 48 #[.val (.int ua), .val (.int ub), .val (.int uc), .val (.int ud), .val (.int ue), .val (.int uf), .val (.int (3 : Int32)), .val (.int ub_), .val (.int us_), .val (.int uc_), .val (.int vs_), .val (.int vc_), .unset, .unset, .unset, .unset, .unset, .unset, .unset] [(.int (3 : Int32)), (.ref b53), (.ref b53)])) (fun _ k => XS.iload X53.here hx rfl (hb hby at_46) rfl  k) ?_
    obtain ⟨_, _, ⟨T54, L54, k54, n54⟩, -, X54, ⟨Lc54, hQ54, l54, y54, z54⟩, st54⟩ := Jvm.LawKit.callS X53 hx (y := (⟨"com/example/planwright/planwright/cache/LiteralTypeFitsPinLaw", "kindOf", "(I)Lcom/example/planwright/planwright/cache/LiteralType$Kind;"⟩ : MethodName)) hown (mvT hZ (hw _ (List.mem_of_getElem? (i := 4) rfl))) (mvT hZ (hw _ (List.mem_of_getElem? (i := 5) rfl))) (mvT hZ (hw _ (List.mem_of_getElem? (i := 6) rfl))) (mvT hZ (hw _ (List.mem_of_getElem? (i := 7) rfl))) (by decide) (backOf (W := 2) (rmKo l Z a0 hw [] a_INTEGER a_BIGINT a_VARCHAR a_DECIMAL a_DOUBLE ucs (3 : Int32) h53 n0 (own_old_le O53) O53 HW) hZ (hw _ (List.mem_of_getElem? (i := 7) rfl)) (hw _ (List.mem_of_getElem? (i := 6) rfl)) (by decide) (by decide)) (g := (mkF m 48 #[.val (.int ua), .val (.int ub), .val (.int uc), .val (.int ud), .val (.int ue), .val (.int uf), .val (.int (3 : Int32)), .val (.int ub_), .val (.int us_), .val (.int uc_), .val (.int vs_), .val (.int vc_), .unset, .unset, .unset, .unset, .unset, .unset, .unset] [(.int (3 : Int32)), (.ref b53), (.ref b53)])) rfl (by rw [hml]; rfl) (argsL := [(.int (3 : Int32))]) (rest := [(.ref b53), (.ref b53)]) (lenOf pd_0__I_Lcom_example_planwright_planwright_cache_LiteralType_Kind_ rfl) rfl (by show 2 * 0 + _ ≤ _; exact Nat.le_of_eq rfl) (hb hby at_48) (fun _ _ => ⟨rfl, e53, (by decide : 1 + 0 ≤ _), (by decide : 3 + 0 ≤ _)⟩)
    dsimp only [Pt.U, Pt.locs, Pt.cells, Pt.slots] at X54 l54 y54 z54 st54 hQ54
    subst l54 y54 z54
    obtain ⟨rfl, N54, e54⟩ := hQ54
    refine own_by (B := T54.setTop (mkF m 51 #[.val (.int ua), .val (.int ub), .val (.int uc), .val (.int ud), .val (.int ue), .val (.int uf), .val (.int (3 : Int32)), .val (.int ub_), .val (.int us_), .val (.int uc_), .val (.int vs_), .val (.int vc_), .unset, .unset, .unset, .unset, .unset, .unset, .unset] [(.ref (own_ko (3 : Int32) a_INTEGER a_BIGINT a_DECIMAL a_DOUBLE a_VARCHAR)), (.ref b53), (.ref b53)])) st54 ?_
    have M54 := Fr.app N0 N54
    rw [show (own_ko (3 : Int32) a_INTEGER a_BIGINT a_DECIMAL a_DOUBLE a_VARCHAR) = a_DOUBLE from by unfold own_ko; rw [if_neg (by decide), if_neg (by decide), if_neg (by decide), if_pos (by decide)]]
    refine own_by (B := T54.setTop (mkF m 53 #[.val (.int ua), .val (.int ub), .val (.int uc), .val (.int ud), .val (.int ue), .val (.int uf), .val (.int (3 : Int32)), .val (.int ub_), .val (.int us_), .val (.int uc_), .val (.int vs_), .val (.int vc_), .unset, .unset, .unset, .unset, .unset, .unset, .unset] [(.int us_), (.ref a_DOUBLE), (.ref b53), (.ref b53)])) (fun _ k => XS.iload X54.here hx rfl (hb hby at_51) rfl  k) ?_
    refine own_by (B := T54.setTop (mkF m 55 #[.val (.int ua), .val (.int ub), .val (.int uc), .val (.int ud), .val (.int ue), .val (.int uf), .val (.int (3 : Int32)), .val (.int ub_), .val (.int us_), .val (.int uc_), .val (.int vs_), .val (.int vc_), .unset, .unset, .unset, .unset, .unset, .unset, .unset] [(.int uc_), (.int us_), (.ref a_DOUBLE), (.ref b53), (.ref b53)])) (fun _ k => XS.iload X54.here hx rfl (hb hby at_53) rfl  k) ?_
    obtain ⟨_, _, ⟨T55, L55, k55, n55⟩, -, X55, ⟨Lc55, hQ55, l55, y55, z55⟩, st55⟩ := X54.specialBack hx (y := (⟨"com/example/planwright/planwright/cache/LiteralType", "<init>", "(Lcom/example/planwright/planwright/cache/LiteralType$Kind;II)V"⟩ : MethodName)) rfl hown (mvT hZ (hw _ (List.mem_of_getElem? (i := 11) rfl))) (mvT hZ (hw _ (List.mem_of_getElem? (i := 12) rfl))) (mvT hZ (hw _ (List.mem_of_getElem? (i := 13) rfl))) (by decide) (backOf (W := 1) (rmLT l Z a0 hw [] b53 a_DOUBLE us_ uc_ h53 n0 (own_old_le O53) O53 A53 F53_kind F53_size F53_scale gn53) hZ (hw _ (List.mem_of_getElem? (i := 13) rfl)) (hw _ (List.mem_of_getElem? (i := 3) rfl)) (by decide) (by decide)) (g := (mkF m 55 #[.val (.int ua), .val (.int ub), .val (.int uc), .val (.int ud), .val (.int ue), .val (.int uf), .val (.int (3 : Int32)), .val (.int ub_), .val (.int us_), .val (.int uc_), .val (.int vs_), .val (.int vc_), .unset, .unset, .unset, .unset, .unset, .unset, .unset] [(.int uc_), (.int us_), (.ref a_DOUBLE), (.ref b53), (.ref b53)])) rfl (by rw [hml]; rfl) (Steps.refl _) (a := b53) (argsL := [(.ref a_DOUBLE), (.int us_), (.int uc_)]) (rest := [(.ref b53)]) (lenOf pd_0__Lcom_example_planwright_planwright_cache_LiteralType_Kind_II_V rfl) rfl (by show 2 * 0 + _ ≤ _; exact Nat.le_of_eq rfl) (hb hby at_55) (fun _ _ => ⟨rfl, e54, (by decide : 1 + 0 ≤ _), (by decide : 3 + 0 ≤ _)⟩)
    dsimp only [Pt.U, Pt.locs, Pt.cells, Pt.slots] at X55 l55 y55 z55 st55 hQ55
    subst l55 y55 z55
    obtain ⟨rfl, NC55, KC55, EC55, FC55_0, FC55_1, FC55_2⟩ := hQ55
    refine own_by (B := T55.setTop (mkF m 58 #[.val (.int ua), .val (.int ub), .val (.int uc), .val (.int ud), .val (.int ue), .val (.int uf), .val (.int (3 : Int32)), .val (.int ub_), .val (.int us_), .val (.int uc_), .val (.int vs_), .val (.int vc_), .unset, .unset, .unset, .unset, .unset, .unset, .unset] [(.ref b53)])) (fun _ k => st55.trans k) ?_
    obtain ⟨h55, e55⟩ : ∃ z, T55.heap = z := ⟨_, rfl⟩
    rw [e55] at KC55 EC55 FC55_0 FC55_1 FC55_2
    have sz55 := KC55.1
    have O55 := O53.keep KC55 (allS gn53 all0)
    have K55 := K53.trans KC55 (allS (Or.inr fz53) all0)
    have N55 := Fr.app M54 NC55
    refine own_by (B := T55.setTop (mkF m 60 #[.val (.int ua), .val (.int ub), .val (.int uc), .val (.int ud), .val (.int ue), .val (.int uf), .val (.int (3 : Int32)), .val (.int ub_), .val (.int us_), .val (.int uc_), .val (.int vs_), .val (.int vc_), .val (.ref b53), .unset, .unset, .unset, .unset, .unset, .unset] [])) (fun _ k => XS.astore X55.here hx rfl (hb hby at_58) rfl rfl (l' := #[.val (.int ua), .val (.int ub), .val (.int uc), .val (.int ud), .val (.int ue), .val (.int uf), .val (.int (3 : Int32)), .val (.int ub_), .val (.int us_), .val (.int uc_), .val (.int vs_), .val (.int vc_), .val (.ref b53), .unset, .unset, .unset, .unset, .unset, .unset]) rfl k) ?_
    obtain ⟨T56, h56, X56, e56, E56, A56, D56, -, st56⟩ := newO X55 hx hZ hown (hw _ (List.mem_of_getElem? (i := 1) rfl)) (hw _ (List.mem_of_getElem? (i := 2) rfl)) (hw _ (List.mem_of_getElem? (i := 3) rfl)) e55 (g := (mkF m 60 #[.val (.int ua), .val (.int ub), .val (.int uc), .val (.int ud), .val (.int ue), .val (.int uf), .val (.int (3 : Int32)), .val (.int ub_), .val (.int us_), .val (.int uc_), .val (.int vs_), .val (.int vc_), .val (.ref b53), .unset, .unset, .unset, .unset, .unset, .unset] [])) rfl (hb hby at_60) (by decide) (by decide)
    obtain ⟨b56, g56⟩ : ∃ z, z = h55.size := ⟨_, rfl⟩
    rw [← g56] at A56 D56 st56
    have sz56 := E56.1
    have gn56 : n0 ≤ b56 := g56 ▸ own_old_le O55
    have fz56 : h0.size ≤ b56 := g56 ▸ K55.1
    have lt56 := own_lt A56.lt
    have O56 := O55.ext E56
    have K56 := K55.ext E56
    have F56_kind : Fld Z h56 b56 "com/example/planwright/planwright/cache/LiteralType" "kind" "Lcom/example/planwright/planwright/cache/LiteralType$Kind;" .null := D56 (Or.inr (hw _ (List.mem_of_getElem? (i := 23) rfl))) (ty := (.object "com/example/planwright/planwright/cache/LiteralType$Kind")) (by decide)
    have F56_size : Fld Z h56 b56 "com/example/planwright/planwright/cache/LiteralType" "size" "I" (.int (0 : Int32)) := D56 (Or.inr (hw _ (List.mem_of_getElem? (i := 25) rfl))) (ty := .int) (by decide)
    have F56_scale : Fld Z h56 b56 "com/example/planwright/planwright/cache/LiteralType" "scale" "I" (.int (0 : Int32)) := D56 (Or.inr (hw _ (List.mem_of_getElem? (i := 27) rfl))) (ty := .int) (by decide)
    refine own_by (B := T56.setTop (mkF m 63 #[.val (.int ua), .val (.int ub), .val (.int uc), .val (.int ud), .val (.int ue), .val (.int uf), .val (.int (3 : Int32)), .val (.int ub_), .val (.int us_), .val (.int uc_), .val (.int vs_), .val (.int vc_), .val (.ref b53), .unset, .unset, .unset, .unset, .unset, .unset] [(.ref b56)])) st56 ?_
    refine own_by (B := T56.setTop (mkF m 64 #[.val (.int ua), .val (.int ub), .val (.int uc), .val (.int ud), .val (.int ue), .val (.int uf), .val (.int (3 : Int32)), .val (.int ub_), .val (.int us_), .val (.int uc_), .val (.int vs_), .val (.int vc_), .val (.ref b53), .unset, .unset, .unset, .unset, .unset, .unset] [(.ref b56), (.ref b56)])) (fun _ k => XS.dup X56.here hx rfl (hb hby at_63) rfl rfl k) ?_
    refine own_by (B := T56.setTop (mkF m 66 #[.val (.int ua), .val (.int ub), .val (.int uc), .val (.int ud), .val (.int ue), .val (.int uf), .val (.int (3 : Int32)), .val (.int ub_), .val (.int us_), .val (.int uc_), .val (.int vs_), .val (.int vc_), .val (.ref b53), .unset, .unset, .unset, .unset, .unset, .unset] [(.int ub_), (.ref b56), (.ref b56)])) (fun _ k => XS.iload X56.here hx rfl (hb hby at_64) rfl  k) ?_
    obtain ⟨_, _, ⟨T57, L57, k57, n57⟩, -, X57, ⟨Lc57, hQ57, l57, y57, z57⟩, st57⟩ := Jvm.LawKit.callS X56 hx (y := (⟨"com/example/planwright/planwright/cache/LiteralTypeFitsPinLaw", "kindOf", "(I)Lcom/example/planwright/planwright/cache/LiteralType$Kind;"⟩ : MethodName)) hown (mvT hZ (hw _ (List.mem_of_getElem? (i := 4) rfl))) (mvT hZ (hw _ (List.mem_of_getElem? (i := 5) rfl))) (mvT hZ (hw _ (List.mem_of_getElem? (i := 6) rfl))) (mvT hZ (hw _ (List.mem_of_getElem? (i := 7) rfl))) (by decide) (backOf (W := 2) (rmKo l Z a0 hw [] a_INTEGER a_BIGINT a_VARCHAR a_DECIMAL a_DOUBLE ucs ub_ h56 n0 (own_old_le O56) O56 HW) hZ (hw _ (List.mem_of_getElem? (i := 7) rfl)) (hw _ (List.mem_of_getElem? (i := 6) rfl)) (by decide) (by decide)) (g := (mkF m 66 #[.val (.int ua), .val (.int ub), .val (.int uc), .val (.int ud), .val (.int ue), .val (.int uf), .val (.int (3 : Int32)), .val (.int ub_), .val (.int us_), .val (.int uc_), .val (.int vs_), .val (.int vc_), .val (.ref b53), .unset, .unset, .unset, .unset, .unset, .unset] [(.int ub_), (.ref b56), (.ref b56)])) rfl (by rw [hml]; rfl) (argsL := [(.int ub_)]) (rest := [(.ref b56), (.ref b56)]) (lenOf pd_0__I_Lcom_example_planwright_planwright_cache_LiteralType_Kind_ rfl) rfl (by show 2 * 0 + _ ≤ _; exact Nat.le_of_eq rfl) (hb hby at_66) (fun _ _ => ⟨rfl, e56, (by decide : 2 + 0 ≤ _), (by decide : 6 + 0 ≤ _)⟩)
    dsimp only [Pt.U, Pt.locs, Pt.cells, Pt.slots] at X57 l57 y57 z57 st57 hQ57
    subst l57 y57 z57
    obtain ⟨rfl, N57, e57⟩ := hQ57
    refine own_by (B := T57.setTop (mkF m 69 #[.val (.int ua), .val (.int ub), .val (.int uc), .val (.int ud), .val (.int ue), .val (.int uf), .val (.int (3 : Int32)), .val (.int ub_), .val (.int us_), .val (.int uc_), .val (.int vs_), .val (.int vc_), .val (.ref b53), .unset, .unset, .unset, .unset, .unset, .unset] [(.ref (own_ko ub_ a_INTEGER a_BIGINT a_DECIMAL a_DOUBLE a_VARCHAR)), (.ref b56), (.ref b56)])) st57 ?_
    have M57 := Fr.app N55 N57
    obtain ⟨uk, huk⟩ : ∃ z : Addr, z = (own_ko ub_ a_INTEGER a_BIGINT a_DECIMAL a_DOUBLE a_VARCHAR) := ⟨_, rfl⟩
    rw [← huk]
    refine own_by (B := T57.setTop (mkF m 71 #[.val (.int ua), .val (.int ub), .val (.int uc), .val (.int ud), .val (.int ue), .val (.int uf), .val (.int (3 : Int32)), .val (.int ub_), .val (.int us_), .val (.int uc_), .val (.int vs_), .val (.int vc_), .val (.ref b53), .unset, .unset, .unset, .unset, .unset, .unset] [(.int vs_), (.ref uk), (.ref b56), (.ref b56)])) (fun _ k => XS.iload X57.here hx rfl (hb hby at_69) rfl  k) ?_
    refine own_by (B := T57.setTop (mkF m 73 #[.val (.int ua), .val (.int ub), .val (.int uc), .val (.int ud), .val (.int ue), .val (.int uf), .val (.int (3 : Int32)), .val (.int ub_), .val (.int us_), .val (.int uc_), .val (.int vs_), .val (.int vc_), .val (.ref b53), .unset, .unset, .unset, .unset, .unset, .unset] [(.int vc_), (.int vs_), (.ref uk), (.ref b56), (.ref b56)])) (fun _ k => XS.iload X57.here hx rfl (hb hby at_71) rfl  k) ?_
    obtain ⟨_, _, ⟨T58, L58, k58, n58⟩, -, X58, ⟨Lc58, hQ58, l58, y58, z58⟩, st58⟩ := X57.specialBack hx (y := (⟨"com/example/planwright/planwright/cache/LiteralType", "<init>", "(Lcom/example/planwright/planwright/cache/LiteralType$Kind;II)V"⟩ : MethodName)) rfl hown (mvT hZ (hw _ (List.mem_of_getElem? (i := 11) rfl))) (mvT hZ (hw _ (List.mem_of_getElem? (i := 12) rfl))) (mvT hZ (hw _ (List.mem_of_getElem? (i := 13) rfl))) (by decide) (backOf (W := 1) (rmLT l Z a0 hw [] b56 uk vs_ vc_ h56 n0 (own_old_le O56) O56 A56 F56_kind F56_size F56_scale gn56) hZ (hw _ (List.mem_of_getElem? (i := 13) rfl)) (hw _ (List.mem_of_getElem? (i := 3) rfl)) (by decide) (by decide)) (g := (mkF m 73 #[.val (.int ua), .val (.int ub), .val (.int uc), .val (.int ud), .val (.int ue), .val (.int uf), .val (.int (3 : Int32)), .val (.int ub_), .val (.int us_), .val (.int uc_), .val (.int vs_), .val (.int vc_), .val (.ref b53), .unset, .unset, .unset, .unset, .unset, .unset] [(.int vc_), (.int vs_), (.ref uk), (.ref b56), (.ref b56)])) rfl (by rw [hml]; rfl) (Steps.refl _) (a := b56) (argsL := [(.ref uk), (.int vs_), (.int vc_)]) (rest := [(.ref b56)]) (lenOf pd_0__Lcom_example_planwright_planwright_cache_LiteralType_Kind_II_V rfl) rfl (by show 2 * 0 + _ ≤ _; exact Nat.le_of_eq rfl) (hb hby at_73) (fun _ _ => ⟨rfl, e57, (by decide : 2 + 0 ≤ _), (by decide : 6 + 0 ≤ _)⟩)
    dsimp only [Pt.U, Pt.locs, Pt.cells, Pt.slots] at X58 l58 y58 z58 st58 hQ58
    subst l58 y58 z58
    obtain ⟨rfl, NC58, KC58, EC58, FC58_0, FC58_1, FC58_2⟩ := hQ58
    refine own_by (B := T58.setTop (mkF m 76 #[.val (.int ua), .val (.int ub), .val (.int uc), .val (.int ud), .val (.int ue), .val (.int uf), .val (.int (3 : Int32)), .val (.int ub_), .val (.int us_), .val (.int uc_), .val (.int vs_), .val (.int vc_), .val (.ref b53), .unset, .unset, .unset, .unset, .unset, .unset] [(.ref b56)])) (fun _ k => st58.trans k) ?_
    obtain ⟨h58, e58⟩ : ∃ z, T58.heap = z := ⟨_, rfl⟩
    rw [e58] at KC58 EC58 FC58_0 FC58_1 FC58_2
    have sz58 := KC58.1
    have O58 := O56.keep KC58 (allS gn56 all0)
    have K58 := K56.trans KC58 (allS (Or.inr fz56) all0)
    have N58 := Fr.app M57 NC58
    refine own_by (B := T58.setTop (mkF m 78 #[.val (.int ua), .val (.int ub), .val (.int uc), .val (.int ud), .val (.int ue), .val (.int uf), .val (.int (3 : Int32)), .val (.int ub_), .val (.int us_), .val (.int uc_), .val (.int vs_), .val (.int vc_), .val (.ref b53), .val (.ref b56), .unset, .unset, .unset, .unset, .unset] [])) (fun _ k => XS.astore X58.here hx rfl (hb hby at_76) rfl rfl (l' := #[.val (.int ua), .val (.int ub), .val (.int uc), .val (.int ud), .val (.int ue), .val (.int uf), .val (.int (3 : Int32)), .val (.int ub_), .val (.int us_), .val (.int uc_), .val (.int vs_), .val (.int vc_), .val (.ref b53), .val (.ref b56), .unset, .unset, .unset, .unset, .unset]) rfl k) ?_
    refine own_by (B := T58.setTop (mkF m 80 #[.val (.int ua), .val (.int ub), .val (.int uc), .val (.int ud), .val (.int ue), .val (.int uf), .val (.int (3 : Int32)), .val (.int ub_), .val (.int us_), .val (.int uc_), .val (.int vs_), .val (.int vc_), .val (.ref b53), .val (.ref b56), .unset, .unset, .unset, .unset, .unset] [(.int us_)])) (fun _ k => XS.iload X58.here hx rfl (hb hby at_78) rfl  k) ?_
    refine own_by (B := T58.setTop (mkF m 81 #[.val (.int ua), .val (.int ub), .val (.int uc), .val (.int ud), .val (.int ue), .val (.int uf), .val (.int (3 : Int32)), .val (.int ub_), .val (.int us_), .val (.int uc_), .val (.int vs_), .val (.int vc_), .val (.ref b53), .val (.ref b56), .unset, .unset, .unset, .unset, .unset] [(.long (Int32.toInt64 us_))])) (fun _ k => XT.i2l X58.here hx rfl (hb hby at_80) rfl k) ?_
    refine own_by (B := T58.setTop (mkF m 83 #[.val (.int ua), .val (.int ub), .val (.int uc), .val (.int ud), .val (.int ue), .val (.int uf), .val (.int (3 : Int32)), .val (.int ub_), .val (.int us_), .val (.int uc_), .val (.int vs_), .val (.int vc_), .val (.ref b53), .val (.ref b56), .unset, .unset, .unset, .unset, .unset] [(.int uc_), (.long (Int32.toInt64 us_))])) (fun _ k => XS.iload X58.here hx rfl (hb hby at_81) rfl  k) ?_
    refine own_by (B := T58.setTop (mkF m 84 #[.val (.int ua), .val (.int ub), .val (.int uc), .val (.int ud), .val (.int ue), .val (.int uf), .val (.int (3 : Int32)), .val (.int ub_), .val (.int us_), .val (.int uc_), .val (.int vs_), .val (.int vc_), .val (.ref b53), .val (.ref b56), .unset, .unset, .unset, .unset, .unset] [(.long (Int32.toInt64 uc_)), (.long (Int32.toInt64 us_))])) (fun _ k => XT.i2l X58.here hx rfl (hb hby at_83) rfl k) ?_
    refine own_by (B := T58.setTop (mkF m 85 #[.val (.int ua), .val (.int ub), .val (.int uc), .val (.int ud), .val (.int ue), .val (.int uf), .val (.int (3 : Int32)), .val (.int ub_), .val (.int us_), .val (.int uc_), .val (.int vs_), .val (.int vc_), .val (.ref b53), .val (.ref b56), .unset, .unset, .unset, .unset, .unset] [(.long ((Int32.toInt64 us_) - (Int32.toInt64 uc_)))])) (fun _ k => XT.lsub X58.here hx rfl (hb hby at_84) rfl k) ?_
    refine own_by (B := T58.setTop (mkF m 87 #[.val (.int ua), .val (.int ub), .val (.int uc), .val (.int ud), .val (.int ue), .val (.int uf), .val (.int (3 : Int32)), .val (.int ub_), .val (.int us_), .val (.int uc_), .val (.int vs_), .val (.int vc_), .val (.ref b53), .val (.ref b56), .val (.long ((Int32.toInt64 us_) - (Int32.toInt64 uc_))), .second, .unset, .unset, .unset] [])) (fun _ k => XT.lstore X58.here hx rfl (hb hby at_85) rfl (l' := #[.val (.int ua), .val (.int ub), .val (.int uc), .val (.int ud), .val (.int ue), .val (.int uf), .val (.int (3 : Int32)), .val (.int ub_), .val (.int us_), .val (.int uc_), .val (.int vs_), .val (.int vc_), .val (.ref b53), .val (.ref b56), .val (.long ((Int32.toInt64 us_) - (Int32.toInt64 uc_))), .second, .unset, .unset, .unset]) rfl k) ?_
    refine own_by (B := T58.setTop (mkF m 89 #[.val (.int ua), .val (.int ub), .val (.int uc), .val (.int ud), .val (.int ue), .val (.int uf), .val (.int (3 : Int32)), .val (.int ub_), .val (.int us_), .val (.int uc_), .val (.int vs_), .val (.int vc_), .val (.ref b53), .val (.ref b56), .val (.long ((Int32.toInt64 us_) - (Int32.toInt64 uc_))), .second, .unset, .unset, .unset] [(.int vs_)])) (fun _ k => XS.iload X58.here hx rfl (hb hby at_87) rfl  k) ?_
    refine own_by (B := T58.setTop (mkF m 90 #[.val (.int ua), .val (.int ub), .val (.int uc), .val (.int ud), .val (.int ue), .val (.int uf), .val (.int (3 : Int32)), .val (.int ub_), .val (.int us_), .val (.int uc_), .val (.int vs_), .val (.int vc_), .val (.ref b53), .val (.ref b56), .val (.long ((Int32.toInt64 us_) - (Int32.toInt64 uc_))), .second, .unset, .unset, .unset] [(.long (Int32.toInt64 vs_))])) (fun _ k => XT.i2l X58.here hx rfl (hb hby at_89) rfl k) ?_
    refine own_by (B := T58.setTop (mkF m 92 #[.val (.int ua), .val (.int ub), .val (.int uc), .val (.int ud), .val (.int ue), .val (.int uf), .val (.int (3 : Int32)), .val (.int ub_), .val (.int us_), .val (.int uc_), .val (.int vs_), .val (.int vc_), .val (.ref b53), .val (.ref b56), .val (.long ((Int32.toInt64 us_) - (Int32.toInt64 uc_))), .second, .unset, .unset, .unset] [(.int vc_), (.long (Int32.toInt64 vs_))])) (fun _ k => XS.iload X58.here hx rfl (hb hby at_90) rfl  k) ?_
    refine own_by (B := T58.setTop (mkF m 93 #[.val (.int ua), .val (.int ub), .val (.int uc), .val (.int ud), .val (.int ue), .val (.int uf), .val (.int (3 : Int32)), .val (.int ub_), .val (.int us_), .val (.int uc_), .val (.int vs_), .val (.int vc_), .val (.ref b53), .val (.ref b56), .val (.long ((Int32.toInt64 us_) - (Int32.toInt64 uc_))), .second, .unset, .unset, .unset] [(.long (Int32.toInt64 vc_)), (.long (Int32.toInt64 vs_))])) (fun _ k => XT.i2l X58.here hx rfl (hb hby at_92) rfl k) ?_
    refine own_by (B := T58.setTop (mkF m 94 #[.val (.int ua), .val (.int ub), .val (.int uc), .val (.int ud), .val (.int ue), .val (.int uf), .val (.int (3 : Int32)), .val (.int ub_), .val (.int us_), .val (.int uc_), .val (.int vs_), .val (.int vc_), .val (.ref b53), .val (.ref b56), .val (.long ((Int32.toInt64 us_) - (Int32.toInt64 uc_))), .second, .unset, .unset, .unset] [(.long ((Int32.toInt64 vs_) - (Int32.toInt64 vc_)))])) (fun _ k => XT.lsub X58.here hx rfl (hb hby at_93) rfl k) ?_
    refine own_by (B := T58.setTop (mkF m 96 #[.val (.int ua), .val (.int ub), .val (.int uc), .val (.int ud), .val (.int ue), .val (.int uf), .val (.int (3 : Int32)), .val (.int ub_), .val (.int us_), .val (.int uc_), .val (.int vs_), .val (.int vc_), .val (.ref b53), .val (.ref b56), .val (.long ((Int32.toInt64 us_) - (Int32.toInt64 uc_))), .second, .val (.long ((Int32.toInt64 vs_) - (Int32.toInt64 vc_))), .second, .unset] [])) (fun _ k => XT.lstore X58.here hx rfl (hb hby at_94) rfl (l' := #[.val (.int ua), .val (.int ub), .val (.int uc), .val (.int ud), .val (.int ue), .val (.int uf), .val (.int (3 : Int32)), .val (.int ub_), .val (.int us_), .val (.int uc_), .val (.int vs_), .val (.int vc_), .val (.ref b53), .val (.ref b56), .val (.long ((Int32.toInt64 us_) - (Int32.toInt64 uc_))), .second, .val (.long ((Int32.toInt64 vs_) - (Int32.toInt64 vc_))), .second, .unset]) rfl k) ?_
    refine own_by (B := T58.setTop (mkF m 98 #[.val (.int ua), .val (.int ub), .val (.int uc), .val (.int ud), .val (.int ue), .val (.int uf), .val (.int (3 : Int32)), .val (.int ub_), .val (.int us_), .val (.int uc_), .val (.int vs_), .val (.int vc_), .val (.ref b53), .val (.ref b56), .val (.long ((Int32.toInt64 us_) - (Int32.toInt64 uc_))), .second, .val (.long ((Int32.toInt64 vs_) - (Int32.toInt64 vc_))), .second, .unset] [(.int (3 : Int32))])) (fun _ k => XS.iload X58.here hx rfl (hb hby at_96) rfl  k) ?_
    refine own_by (B := T58.setTop (mkF m 143 #[.val (.int ua), .val (.int ub), .val (.int uc), .val (.int ud), .val (.int ue), .val (.int uf), .val (.int (3 : Int32)), .val (.int ub_), .val (.int us_), .val (.int uc_), .val (.int vs_), .val (.int vc_), .val (.ref b53), .val (.ref b56), .val (.long ((Int32.toInt64 us_) - (Int32.toInt64 uc_))), .second, .val (.long ((Int32.toInt64 vs_) - (Int32.toInt64 vc_))), .second, .unset] [])) (fun _ k => XS.ifYes X58.here hx rfl (pc0 := 98) (pc' := 143) rfl (hb hby at_98) rfl (XT.i0_ne_t (by decide)) (by decide) (by decide) k) ?_
    refine own_by (B := T58.setTop (mkF m 145 #[.val (.int ua), .val (.int ub), .val (.int uc), .val (.int ud), .val (.int ue), .val (.int uf), .val (.int (3 : Int32)), .val (.int ub_), .val (.int us_), .val (.int uc_), .val (.int vs_), .val (.int vc_), .val (.ref b53), .val (.ref b56), .val (.long ((Int32.toInt64 us_) - (Int32.toInt64 uc_))), .second, .val (.long ((Int32.toInt64 vs_) - (Int32.toInt64 vc_))), .second, .unset] [(.int (3 : Int32))])) (fun _ k => XS.iload X58.here hx rfl (hb hby at_143) rfl  k) ?_
    refine own_by (B := T58.setTop (mkF m 146 #[.val (.int ua), .val (.int ub), .val (.int uc), .val (.int ud), .val (.int ue), .val (.int uf), .val (.int (3 : Int32)), .val (.int ub_), .val (.int us_), .val (.int uc_), .val (.int vs_), .val (.int vc_), .val (.ref b53), .val (.ref b56), .val (.long ((Int32.toInt64 us_) - (Int32.toInt64 uc_))), .second, .val (.long ((Int32.toInt64 vs_) - (Int32.toInt64 vc_))), .second, .unset] [(.int (1 : Int32)), (.int (3 : Int32))])) (fun _ k => XS.iconst X58.here hx rfl (hb hby at_145) k) ?_
    refine own_by (B := T58.setTop (mkF m 186 #[.val (.int ua), .val (.int ub), .val (.int uc), .val (.int ud), .val (.int ue), .val (.int uf), .val (.int (3 : Int32)), .val (.int ub_), .val (.int us_), .val (.int uc_), .val (.int vs_), .val (.int vc_), .val (.ref b53), .val (.ref b56), .val (.long ((Int32.toInt64 us_) - (Int32.toInt64 uc_))), .second, .val (.long ((Int32.toInt64 vs_) - (Int32.toInt64 vc_))), .second, .unset] [])) (fun _ k => XS.icmpYes X58.here hx rfl (pc0 := 146) (pc' := 186) rfl (hb hby at_146) rfl (XT.ii_ne_t (by decide)) (by decide) (by decide) k) ?_
    refine own_by (B := T58.setTop (mkF m 188 #[.val (.int ua), .val (.int ub), .val (.int uc), .val (.int ud), .val (.int ue), .val (.int uf), .val (.int (3 : Int32)), .val (.int ub_), .val (.int us_), .val (.int uc_), .val (.int vs_), .val (.int vc_), .val (.ref b53), .val (.ref b56), .val (.long ((Int32.toInt64 us_) - (Int32.toInt64 uc_))), .second, .val (.long ((Int32.toInt64 vs_) - (Int32.toInt64 vc_))), .second, .unset] [(.int (3 : Int32))])) (fun _ k => XS.iload X58.here hx rfl (hb hby at_186) rfl  k) ?_
    refine own_by (B := T58.setTop (mkF m 189 #[.val (.int ua), .val (.int ub), .val (.int uc), .val (.int ud), .val (.int ue), .val (.int uf), .val (.int (3 : Int32)), .val (.int ub_), .val (.int us_), .val (.int uc_), .val (.int vs_), .val (.int vc_), .val (.ref b53), .val (.ref b56), .val (.long ((Int32.toInt64 us_) - (Int32.toInt64 uc_))), .second, .val (.long ((Int32.toInt64 vs_) - (Int32.toInt64 vc_))), .second, .unset] [(.int (2 : Int32)), (.int (3 : Int32))])) (fun _ k => XS.iconst X58.here hx rfl (hb hby at_188) k) ?_
    refine own_by (B := T58.setTop (mkF m 229 #[.val (.int ua), .val (.int ub), .val (.int uc), .val (.int ud), .val (.int ue), .val (.int uf), .val (.int (3 : Int32)), .val (.int ub_), .val (.int us_), .val (.int uc_), .val (.int vs_), .val (.int vc_), .val (.ref b53), .val (.ref b56), .val (.long ((Int32.toInt64 us_) - (Int32.toInt64 uc_))), .second, .val (.long ((Int32.toInt64 vs_) - (Int32.toInt64 vc_))), .second, .unset] [])) (fun _ k => XS.icmpYes X58.here hx rfl (pc0 := 189) (pc' := 229) rfl (hb hby at_189) rfl (XT.ii_ne_t (by decide)) (by decide) (by decide) k) ?_
    refine own_by (B := T58.setTop (mkF m 231 #[.val (.int ua), .val (.int ub), .val (.int uc), .val (.int ud), .val (.int ue), .val (.int uf), .val (.int (3 : Int32)), .val (.int ub_), .val (.int us_), .val (.int uc_), .val (.int vs_), .val (.int vc_), .val (.ref b53), .val (.ref b56), .val (.long ((Int32.toInt64 us_) - (Int32.toInt64 uc_))), .second, .val (.long ((Int32.toInt64 vs_) - (Int32.toInt64 vc_))), .second, .unset] [(.int (3 : Int32))])) (fun _ k => XS.iload X58.here hx rfl (hb hby at_229) rfl  k) ?_
    refine own_by (B := T58.setTop (mkF m 232 #[.val (.int ua), .val (.int ub), .val (.int uc), .val (.int ud), .val (.int ue), .val (.int uf), .val (.int (3 : Int32)), .val (.int ub_), .val (.int us_), .val (.int uc_), .val (.int vs_), .val (.int vc_), .val (.ref b53), .val (.ref b56), .val (.long ((Int32.toInt64 us_) - (Int32.toInt64 uc_))), .second, .val (.long ((Int32.toInt64 vs_) - (Int32.toInt64 vc_))), .second, .unset] [(.int (3 : Int32)), (.int (3 : Int32))])) (fun _ k => XS.iconst X58.here hx rfl (hb hby at_231) k) ?_
    refine own_by (B := T58.setTop (mkF m 235 #[.val (.int ua), .val (.int ub), .val (.int uc), .val (.int ud), .val (.int ue), .val (.int uf), .val (.int (3 : Int32)), .val (.int ub_), .val (.int us_), .val (.int uc_), .val (.int vs_), .val (.int vc_), .val (.ref b53), .val (.ref b56), .val (.long ((Int32.toInt64 us_) - (Int32.toInt64 uc_))), .second, .val (.long ((Int32.toInt64 vs_) - (Int32.toInt64 vc_))), .second, .unset] [])) (fun _ k => XS.icmpNo X58.here hx rfl (hb hby at_232) rfl (XT.ii_ne_f (by decide)) k) ?_
    refine own_by (B := T58.setTop (mkF m 237 #[.val (.int ua), .val (.int ub), .val (.int uc), .val (.int ud), .val (.int ue), .val (.int uf), .val (.int (3 : Int32)), .val (.int ub_), .val (.int us_), .val (.int uc_), .val (.int vs_), .val (.int vc_), .val (.ref b53), .val (.ref b56), .val (.long ((Int32.toInt64 us_) - (Int32.toInt64 uc_))), .second, .val (.long ((Int32.toInt64 vs_) - (Int32.toInt64 vc_))), .second, .unset] [(.int ub_)])) (fun _ k => XS.iload X58.here hx rfl (hb hby at_235) rfl  k) ?_
    refine own_by (B := T58.setTop (mkF m 238 #[.val (.int ua), .val (.int ub), .val (.int uc), .val (.int ud), .val (.int ue), .val (.int uf), .val (.int (3 : Int32)), .val (.int ub_), .val (.int us_), .val (.int uc_), .val (.int vs_), .val (.int vc_), .val (.ref b53), .val (.ref b56), .val (.long ((Int32.toInt64 us_) - (Int32.toInt64 uc_))), .second, .val (.long ((Int32.toInt64 vs_) - (Int32.toInt64 vc_))), .second, .unset] [(.int (3 : Int32)), (.int ub_)])) (fun _ k => XS.iconst X58.here hx rfl (hb hby at_237) k) ?_
    obtain ⟨mv59, hmv59⟩ : ∃ z : Int32, z = if ub_ = (3 : Int32) then (1 : Int32) else (0 : Int32) := ⟨_, rfl⟩
    suffices hj60 : own_Go p.tables e below (own_KL s below (own_Q0 n0) 16 2176) (T58.setTop (mkF m 246 #[.val (.int ua), .val (.int ub), .val (.int uc), .val (.int ud), .val (.int ue), .val (.int uf), .val (.int (3 : Int32)), .val (.int ub_), .val (.int us_), .val (.int uc_), .val (.int vs_), .val (.int vc_), .val (.ref b53), .val (.ref b56), .val (.long ((Int32.toInt64 us_) - (Int32.toInt64 uc_))), .second, .val (.long ((Int32.toInt64 vs_) - (Int32.toInt64 vc_))), .second, .unset] [(.int mv59)])) by
      by_cases hc61 : ub_ = (3 : Int32)
      · refine own_by (B := T58.setTop (mkF m 241 #[.val (.int ua), .val (.int ub), .val (.int uc), .val (.int ud), .val (.int ue), .val (.int uf), .val (.int (3 : Int32)), .val (.int ub_), .val (.int us_), .val (.int uc_), .val (.int vs_), .val (.int vc_), .val (.ref b53), .val (.ref b56), .val (.long ((Int32.toInt64 us_) - (Int32.toInt64 uc_))), .second, .val (.long ((Int32.toInt64 vs_) - (Int32.toInt64 vc_))), .second, .unset] [])) (fun _ k => XS.icmpNo X58.here hx rfl (hb hby at_238) rfl (XT.ii_ne_f hc61) k) ?_
        refine own_by (B := T58.setTop (mkF m 242 #[.val (.int ua), .val (.int ub), .val (.int uc), .val (.int ud), .val (.int ue), .val (.int uf), .val (.int (3 : Int32)), .val (.int ub_), .val (.int us_), .val (.int uc_), .val (.int vs_), .val (.int vc_), .val (.ref b53), .val (.ref b56), .val (.long ((Int32.toInt64 us_) - (Int32.toInt64 uc_))), .second, .val (.long ((Int32.toInt64 vs_) - (Int32.toInt64 vc_))), .second, .unset] [(.int (1 : Int32))])) (fun _ k => XS.iconst X58.here hx rfl (hb hby at_241) k) ?_
        refine own_by (B := T58.setTop (mkF m 246 #[.val (.int ua), .val (.int ub), .val (.int uc), .val (.int ud), .val (.int ue), .val (.int uf), .val (.int (3 : Int32)), .val (.int ub_), .val (.int us_), .val (.int uc_), .val (.int vs_), .val (.int vc_), .val (.ref b53), .val (.ref b56), .val (.long ((Int32.toInt64 us_) - (Int32.toInt64 uc_))), .second, .val (.long ((Int32.toInt64 vs_) - (Int32.toInt64 vc_))), .second, .unset] [(.int (1 : Int32))])) (fun _ k => XS.goto X58.here hx rfl (pc0 := 242) (pc' := 246) rfl (hb hby at_242) (by decide) (by decide) k) ?_
        rw [show mv59 = (1 : Int32) from hmv59.trans (((if_pos hc61).trans rfl))] at hj60
        exact hj60
      · refine own_by (B := T58.setTop (mkF m 245 #[.val (.int ua), .val (.int ub), .val (.int uc), .val (.int ud), .val (.int ue), .val (.int uf), .val (.int (3 : Int32)), .val (.int ub_), .val (.int us_), .val (.int uc_), .val (.int vs_), .val (.int vc_), .val (.ref b53), .val (.ref b56), .val (.long ((Int32.toInt64 us_) - (Int32.toInt64 uc_))), .second, .val (.long ((Int32.toInt64 vs_) - (Int32.toInt64 vc_))), .second, .unset] [])) (fun _ k => XS.icmpYes X58.here hx rfl (pc0 := 238) (pc' := 245) rfl (hb hby at_238) rfl (XT.ii_ne_t hc61) (by decide) (by decide) k) ?_
        refine own_by (B := T58.setTop (mkF m 246 #[.val (.int ua), .val (.int ub), .val (.int uc), .val (.int ud), .val (.int ue), .val (.int uf), .val (.int (3 : Int32)), .val (.int ub_), .val (.int us_), .val (.int uc_), .val (.int vs_), .val (.int vc_), .val (.ref b53), .val (.ref b56), .val (.long ((Int32.toInt64 us_) - (Int32.toInt64 uc_))), .second, .val (.long ((Int32.toInt64 vs_) - (Int32.toInt64 vc_))), .second, .unset] [(.int (0 : Int32))])) (fun _ k => XS.iconst X58.here hx rfl (hb hby at_245) k) ?_
        rw [show mv59 = (0 : Int32) from hmv59.trans (((if_neg hc61).trans rfl))] at hj60
        exact hj60
    refine own_by (B := T58.setTop (mkF m 248 #[.val (.int ua), .val (.int ub), .val (.int uc), .val (.int ud), .val (.int ue), .val (.int uf), .val (.int (3 : Int32)), .val (.int ub_), .val (.int us_), .val (.int uc_), .val (.int vs_), .val (.int vc_), .val (.ref b53), .val (.ref b56), .val (.long ((Int32.toInt64 us_) - (Int32.toInt64 uc_))), .second, .val (.long ((Int32.toInt64 vs_) - (Int32.toInt64 vc_))), .second, .val (.int mv59)] [])) (fun _ k => XS.istore X58.here hx rfl (hb hby at_246) rfl (l' := #[.val (.int ua), .val (.int ub), .val (.int uc), .val (.int ud), .val (.int ue), .val (.int uf), .val (.int (3 : Int32)), .val (.int ub_), .val (.int us_), .val (.int uc_), .val (.int vs_), .val (.int vc_), .val (.ref b53), .val (.ref b56), .val (.long ((Int32.toInt64 us_) - (Int32.toInt64 uc_))), .second, .val (.long ((Int32.toInt64 vs_) - (Int32.toInt64 vc_))), .second, .val (.int mv59)]) rfl k) ?_
    refine own_by (B := T58.setTop (mkF m 271 #[.val (.int ua), .val (.int ub), .val (.int uc), .val (.int ud), .val (.int ue), .val (.int uf), .val (.int (3 : Int32)), .val (.int ub_), .val (.int us_), .val (.int uc_), .val (.int vs_), .val (.int vc_), .val (.ref b53), .val (.ref b56), .val (.long ((Int32.toInt64 us_) - (Int32.toInt64 uc_))), .second, .val (.long ((Int32.toInt64 vs_) - (Int32.toInt64 vc_))), .second, .val (.int mv59)] [])) (fun _ k => XS.goto X58.here hx rfl (pc0 := 248) (pc' := 271) rfl (hb hby at_248) (by decide) (by decide) k) ?_
    refine own_by (B := T58.setTop (mkF m 273 #[.val (.int ua), .val (.int ub), .val (.int uc), .val (.int ud), .val (.int ue), .val (.int uf), .val (.int (3 : Int32)), .val (.int ub_), .val (.int us_), .val (.int uc_), .val (.int vs_), .val (.int vc_), .val (.ref b53), .val (.ref b56), .val (.long ((Int32.toInt64 us_) - (Int32.toInt64 uc_))), .second, .val (.long ((Int32.toInt64 vs_) - (Int32.toInt64 vc_))), .second, .val (.int mv59)] [(.ref b53)])) (fun _ k => XS.aload X58.here hx rfl (hb hby at_271) rfl rfl  k) ?_
    refine own_by (B := T58.setTop (mkF m 275 #[.val (.int ua), .val (.int ub), .val (.int uc), .val (.int ud), .val (.int ue), .val (.int uf), .val (.int (3 : Int32)), .val (.int ub_), .val (.int us_), .val (.int uc_), .val (.int vs_), .val (.int vc_), .val (.ref b53), .val (.ref b56), .val (.long ((Int32.toInt64 us_) - (Int32.toInt64 uc_))), .second, .val (.long ((Int32.toInt64 vs_) - (Int32.toInt64 vc_))), .second, .val (.int mv59)] [(.ref b56), (.ref b53)])) (fun _ k => XS.aload X58.here hx rfl (hb hby at_273) rfl rfl  k) ?_
    have c62 := ((EC55.ext E56).keep KC58)
    have c63 := ((FC55_0.ext E56).keep KC58 (ninS (own_ne (by omega)) nin0))
    have c64 := ((FC55_1.ext E56).keep KC58 (ninS (own_ne (by omega)) nin0))
    have c65 := ((FC55_2.ext E56).keep KC58 (ninS (own_ne (by omega)) nin0))
    have CHn : CHv Z own_EL s.vm h58 := (CHv.keep KC58 (sfS (Safe.exa hZ.alike A56 (by decide) (by decide)) sf0) (CHv.ext E56 (CHv.keep KC55 (sfS (Safe.exa hZ.alike A53 (by decide) (by decide)) sf0) (CHv.ext E53 CH0))))
    obtain ⟨cq66, kq66, qa66, qb66, qc66⟩ := isOf hZ e58 c62
    obtain ⟨_, _, ⟨T66, L66, k66, n66⟩, -, X66, hS66, hle66, ⟨Lc66, hQ66, l66, y66, z66, CR66⟩, st66⟩ := Jvm.Stand.virtualBackS X58 hx (y := (⟨"com/example/planwright/planwright/cache/LiteralType", "fits", "(Lcom/example/planwright/planwright/cache/LiteralType;)Z"⟩ : MethodName)) (z := (⟨"com/example/planwright/planwright/cache/LiteralType", "fits", "(Lcom/example/planwright/planwright/cache/LiteralType;)Z"⟩ : MethodName)) hown (mvT hZ (hw _ (List.mem_of_getElem? (i := 30) rfl))) (mvT hZ (hw _ (List.mem_of_getElem? (i := 31) rfl))) (notFace_of_selects (args := #[]) (mvT hZ (hw _ (List.mem_of_getElem? (i := 33) rfl)))) (mvT hZ (hw _ (List.mem_of_getElem? (i := 33) rfl))) (mvT hZ (hw _ (List.mem_of_getElem? (i := 32) rfl))) (by decide) (backOfSH (s := s) (vm0 := s.vm) (W := 0) (rmFitDOUBLE l Z a0 hw [] a_INTEGER a_BIGINT a_VARCHAR a_DECIMAL a_DOUBLE ucs b53 b56 uk us_ uc_ vs_ vc_ h58 n0 (own_old_le O58) O58 HW c62 c63 c64 c65 EC58 FC58_0 FC58_1 FC58_2) hZ (hw _ (List.mem_of_getElem? (i := 34) rfl)) (hw _ (List.mem_of_getElem? (i := 3) rfl)) (by decide) (by decide) own_hEL CHn) qa66 qc66 (g := (mkF m 275 #[.val (.int ua), .val (.int ub), .val (.int uc), .val (.int ud), .val (.int ue), .val (.int uf), .val (.int (3 : Int32)), .val (.int ub_), .val (.int us_), .val (.int uc_), .val (.int vs_), .val (.int vc_), .val (.ref b53), .val (.ref b56), .val (.long ((Int32.toInt64 us_) - (Int32.toInt64 uc_))), .second, .val (.long ((Int32.toInt64 vs_) - (Int32.toInt64 vc_))), .second, .val (.int mv59)] [(.ref b56), (.ref b53)])) rfl (by rw [hml]; rfl) (Steps.refl _) (argsL := [(.ref b56)]) (rest := []) (lenOf pd_0__Lcom_example_planwright_planwright_cache_LiteralType__Z rfl) rfl (by show 2 * 0 + _ ≤ _; exact Nat.le_of_eq rfl) (hb hby at_275) (fun _ _ => ⟨rfl, e58, (by decide : 2 + 0 ≤ _), (by decide : 6 + 0 ≤ _)⟩)
    dsimp only [Pt.U, Pt.locs, Pt.cells, Pt.slots] at X66 l66 y66 z66 st66 hQ66 hS66 hle66 CR66
    subst l66 y66 z66
    obtain ⟨rfl, N66, KC66⟩ := hQ66
    have M66 := Fr.app N58 N66
    refine own_by (B := T66.setTop (mkF m 278 #[.val (.int ua), .val (.int ub), .val (.int uc), .val (.int ud), .val (.int ue), .val (.int uf), .val (.int (3 : Int32)), .val (.int ub_), .val (.int us_), .val (.int uc_), .val (.int vs_), .val (.int vc_), .val (.ref b53), .val (.ref b56), .val (.long ((Int32.toInt64 us_) - (Int32.toInt64 uc_))), .second, .val (.long ((Int32.toInt64 vs_) - (Int32.toInt64 vc_))), .second, .val (.int mv59)] [(.int (own_fitDOUBLE uk us_ uc_ vs_ vc_ a_INTEGER a_BIGINT a_DECIMAL a_DOUBLE a_VARCHAR))])) (fun _ k => st66.trans k) ?_
    refine own_by (B := T66.setTop (mkF m 280 #[.val (.int ua), .val (.int ub), .val (.int uc), .val (.int ud), .val (.int ue), .val (.int uf), .val (.int (3 : Int32)), .val (.int ub_), .val (.int us_), .val (.int uc_), .val (.int vs_), .val (.int vc_), .val (.ref b53), .val (.ref b56), .val (.long ((Int32.toInt64 us_) - (Int32.toInt64 uc_))), .second, .val (.long ((Int32.toInt64 vs_) - (Int32.toInt64 vc_))), .second, .val (.int mv59)] [(.int mv59), (.int (own_fitDOUBLE uk us_ uc_ vs_ vc_ a_INTEGER a_BIGINT a_DECIMAL a_DOUBLE a_VARCHAR))])) (fun _ k => XS.iload X66.here hx rfl (hb hby at_278) rfl  k) ?_
    refine own_by (B := T66.setTop (mkF m 283 #[.val (.int ua), .val (.int ub), .val (.int uc), .val (.int ud), .val (.int ue), .val (.int uf), .val (.int (3 : Int32)), .val (.int ub_), .val (.int us_), .val (.int uc_), .val (.int vs_), .val (.int vc_), .val (.ref b53), .val (.ref b56), .val (.long ((Int32.toInt64 us_) - (Int32.toInt64 uc_))), .second, .val (.long ((Int32.toInt64 vs_) - (Int32.toInt64 vc_))), .second, .val (.int mv59)] [])) (fun _ k => XS.icmpNo X66.here hx rfl (hb hby at_280) rfl (XT.ii_ne_f (by rw [huk]; exact own_lawDOUBLE hb0 hb1 hp1 hp2 hp3 hp4 hD hmv59)) k) ?_
    refine own_by (B := T66.setTop (mkF m 284 #[.val (.int ua), .val (.int ub), .val (.int uc), .val (.int ud), .val (.int ue), .val (.int uf), .val (.int (3 : Int32)), .val (.int ub_), .val (.int us_), .val (.int uc_), .val (.int vs_), .val (.int vc_), .val (.ref b53), .val (.ref b56), .val (.long ((Int32.toInt64 us_) - (Int32.toInt64 uc_))), .second, .val (.long ((Int32.toInt64 vs_) - (Int32.toInt64 vc_))), .second, .val (.int mv59)] [(.int (1 : Int32))])) (fun _ k => XS.iconst X66.here hx rfl (hb hby at_283) k) ?_
    refine own_by (B := T66.setTop (mkF m 288 #[.val (.int ua), .val (.int ub), .val (.int uc), .val (.int ud), .val (.int ue), .val (.int uf), .val (.int (3 : Int32)), .val (.int ub_), .val (.int us_), .val (.int uc_), .val (.int vs_), .val (.int vc_), .val (.ref b53), .val (.ref b56), .val (.long ((Int32.toInt64 us_) - (Int32.toInt64 uc_))), .second, .val (.long ((Int32.toInt64 vs_) - (Int32.toInt64 vc_))), .second, .val (.int mv59)] [(.int (1 : Int32))])) (fun _ k => XS.goto X66.here hx rfl (pc0 := 284) (pc' := 288) rfl (hb hby at_284) (by decide) (by decide) k) ?_
    exact own_retZL (s := s) X66 hx hS66 (Nat.le_refl _) hrt hlk rfl (hb hby at_288) (by decide) (by decide) ⟨rfl, M66⟩
  · obtain ⟨T67, h67, X67, e67, E67, A67, D67, -, st67⟩ := newO X0 hx hZ hown (hw _ (List.mem_of_getElem? (i := 1) rfl)) (hw _ (List.mem_of_getElem? (i := 2) rfl)) (hw _ (List.mem_of_getElem? (i := 3) rfl)) e0 (g := (mkF m 42 #[.val (.int ua), .val (.int ub), .val (.int uc), .val (.int ud), .val (.int ue), .val (.int uf), .val (.int (4 : Int32)), .val (.int ub_), .val (.int us_), .val (.int uc_), .val (.int vs_), .val (.int vc_), .unset, .unset, .unset, .unset, .unset, .unset, .unset] [])) rfl (hb hby at_42) (by decide) (by decide)
    obtain ⟨b67, g67⟩ : ∃ z, z = h0.size := ⟨_, rfl⟩
    rw [← g67] at A67 D67 st67
    have sz67 := E67.1
    have gn67 : n0 ≤ b67 := g67 ▸ own_old_le O0
    have fz67 : h0.size ≤ b67 := g67 ▸ K0.1
    have lt67 := own_lt A67.lt
    have O67 := O0.ext E67
    have K67 := K0.ext E67
    have F67_kind : Fld Z h67 b67 "com/example/planwright/planwright/cache/LiteralType" "kind" "Lcom/example/planwright/planwright/cache/LiteralType$Kind;" .null := D67 (Or.inr (hw _ (List.mem_of_getElem? (i := 23) rfl))) (ty := (.object "com/example/planwright/planwright/cache/LiteralType$Kind")) (by decide)
    have F67_size : Fld Z h67 b67 "com/example/planwright/planwright/cache/LiteralType" "size" "I" (.int (0 : Int32)) := D67 (Or.inr (hw _ (List.mem_of_getElem? (i := 25) rfl))) (ty := .int) (by decide)
    have F67_scale : Fld Z h67 b67 "com/example/planwright/planwright/cache/LiteralType" "scale" "I" (.int (0 : Int32)) := D67 (Or.inr (hw _ (List.mem_of_getElem? (i := 27) rfl))) (ty := .int) (by decide)
    refine own_by (B := T67.setTop (mkF m 45 #[.val (.int ua), .val (.int ub), .val (.int uc), .val (.int ud), .val (.int ue), .val (.int uf), .val (.int (4 : Int32)), .val (.int ub_), .val (.int us_), .val (.int uc_), .val (.int vs_), .val (.int vc_), .unset, .unset, .unset, .unset, .unset, .unset, .unset] [(.ref b67)])) st67 ?_
    refine own_by (B := T67.setTop (mkF m 46 #[.val (.int ua), .val (.int ub), .val (.int uc), .val (.int ud), .val (.int ue), .val (.int uf), .val (.int (4 : Int32)), .val (.int ub_), .val (.int us_), .val (.int uc_), .val (.int vs_), .val (.int vc_), .unset, .unset, .unset, .unset, .unset, .unset, .unset] [(.ref b67), (.ref b67)])) (fun _ k => XS.dup X67.here hx rfl (hb hby at_45) rfl rfl k) ?_
    refine own_by (B := T67.setTop (mkF m 48 #[.val (.int ua), .val (.int ub), .val (.int uc), .val (.int ud), .val (.int ue), .val (.int uf), .val (.int (4 : Int32)), .val (.int ub_), .val (.int us_), .val (.int uc_), .val (.int vs_), .val (.int vc_), .unset, .unset, .unset, .unset, .unset, .unset, .unset] [(.int (4 : Int32)), (.ref b67), (.ref b67)])) (fun _ k => XS.iload X67.here hx rfl (hb hby at_46) rfl  k) ?_
    obtain ⟨_, _, ⟨T68, L68, k68, n68⟩, -, X68, ⟨Lc68, hQ68, l68, y68, z68⟩, st68⟩ := Jvm.LawKit.callS X67 hx (y := (⟨"com/example/planwright/planwright/cache/LiteralTypeFitsPinLaw", "kindOf", "(I)Lcom/example/planwright/planwright/cache/LiteralType$Kind;"⟩ : MethodName)) hown (mvT hZ (hw _ (List.mem_of_getElem? (i := 4) rfl))) (mvT hZ (hw _ (List.mem_of_getElem? (i := 5) rfl))) (mvT hZ (hw _ (List.mem_of_getElem? (i := 6) rfl))) (mvT hZ (hw _ (List.mem_of_getElem? (i := 7) rfl))) (by decide) (backOf (W := 2) (rmKo l Z a0 hw [] a_INTEGER a_BIGINT a_VARCHAR a_DECIMAL a_DOUBLE ucs (4 : Int32) h67 n0 (own_old_le O67) O67 HW) hZ (hw _ (List.mem_of_getElem? (i := 7) rfl)) (hw _ (List.mem_of_getElem? (i := 6) rfl)) (by decide) (by decide)) (g := (mkF m 48 #[.val (.int ua), .val (.int ub), .val (.int uc), .val (.int ud), .val (.int ue), .val (.int uf), .val (.int (4 : Int32)), .val (.int ub_), .val (.int us_), .val (.int uc_), .val (.int vs_), .val (.int vc_), .unset, .unset, .unset, .unset, .unset, .unset, .unset] [(.int (4 : Int32)), (.ref b67), (.ref b67)])) rfl (by rw [hml]; rfl) (argsL := [(.int (4 : Int32))]) (rest := [(.ref b67), (.ref b67)]) (lenOf pd_0__I_Lcom_example_planwright_planwright_cache_LiteralType_Kind_ rfl) rfl (by show 2 * 0 + _ ≤ _; exact Nat.le_of_eq rfl) (hb hby at_48) (fun _ _ => ⟨rfl, e67, (by decide : 1 + 0 ≤ _), (by decide : 3 + 0 ≤ _)⟩)
    dsimp only [Pt.U, Pt.locs, Pt.cells, Pt.slots] at X68 l68 y68 z68 st68 hQ68
    subst l68 y68 z68
    obtain ⟨rfl, N68, e68⟩ := hQ68
    refine own_by (B := T68.setTop (mkF m 51 #[.val (.int ua), .val (.int ub), .val (.int uc), .val (.int ud), .val (.int ue), .val (.int uf), .val (.int (4 : Int32)), .val (.int ub_), .val (.int us_), .val (.int uc_), .val (.int vs_), .val (.int vc_), .unset, .unset, .unset, .unset, .unset, .unset, .unset] [(.ref (own_ko (4 : Int32) a_INTEGER a_BIGINT a_DECIMAL a_DOUBLE a_VARCHAR)), (.ref b67), (.ref b67)])) st68 ?_
    have M68 := Fr.app N0 N68
    rw [show (own_ko (4 : Int32) a_INTEGER a_BIGINT a_DECIMAL a_DOUBLE a_VARCHAR) = a_VARCHAR from by unfold own_ko; rw [if_neg (by decide), if_neg (by decide), if_neg (by decide), if_neg (by decide)]]
    refine own_by (B := T68.setTop (mkF m 53 #[.val (.int ua), .val (.int ub), .val (.int uc), .val (.int ud), .val (.int ue), .val (.int uf), .val (.int (4 : Int32)), .val (.int ub_), .val (.int us_), .val (.int uc_), .val (.int vs_), .val (.int vc_), .unset, .unset, .unset, .unset, .unset, .unset, .unset] [(.int us_), (.ref a_VARCHAR), (.ref b67), (.ref b67)])) (fun _ k => XS.iload X68.here hx rfl (hb hby at_51) rfl  k) ?_
    refine own_by (B := T68.setTop (mkF m 55 #[.val (.int ua), .val (.int ub), .val (.int uc), .val (.int ud), .val (.int ue), .val (.int uf), .val (.int (4 : Int32)), .val (.int ub_), .val (.int us_), .val (.int uc_), .val (.int vs_), .val (.int vc_), .unset, .unset, .unset, .unset, .unset, .unset, .unset] [(.int uc_), (.int us_), (.ref a_VARCHAR), (.ref b67), (.ref b67)])) (fun _ k => XS.iload X68.here hx rfl (hb hby at_53) rfl  k) ?_
    obtain ⟨_, _, ⟨T69, L69, k69, n69⟩, -, X69, ⟨Lc69, hQ69, l69, y69, z69⟩, st69⟩ := X68.specialBack hx (y := (⟨"com/example/planwright/planwright/cache/LiteralType", "<init>", "(Lcom/example/planwright/planwright/cache/LiteralType$Kind;II)V"⟩ : MethodName)) rfl hown (mvT hZ (hw _ (List.mem_of_getElem? (i := 11) rfl))) (mvT hZ (hw _ (List.mem_of_getElem? (i := 12) rfl))) (mvT hZ (hw _ (List.mem_of_getElem? (i := 13) rfl))) (by decide) (backOf (W := 1) (rmLT l Z a0 hw [] b67 a_VARCHAR us_ uc_ h67 n0 (own_old_le O67) O67 A67 F67_kind F67_size F67_scale gn67) hZ (hw _ (List.mem_of_getElem? (i := 13) rfl)) (hw _ (List.mem_of_getElem? (i := 3) rfl)) (by decide) (by decide)) (g := (mkF m 55 #[.val (.int ua), .val (.int ub), .val (.int uc), .val (.int ud), .val (.int ue), .val (.int uf), .val (.int (4 : Int32)), .val (.int ub_), .val (.int us_), .val (.int uc_), .val (.int vs_), .val (.int vc_), .unset, .unset, .unset, .unset, .unset, .unset, .unset] [(.int uc_), (.int us_), (.ref a_VARCHAR), (.ref b67), (.ref b67)])) rfl (by rw [hml]; rfl) (Steps.refl _) (a := b67) (argsL := [(.ref a_VARCHAR), (.int us_), (.int uc_)]) (rest := [(.ref b67)]) (lenOf pd_0__Lcom_example_planwright_planwright_cache_LiteralType_Kind_II_V rfl) rfl (by show 2 * 0 + _ ≤ _; exact Nat.le_of_eq rfl) (hb hby at_55) (fun _ _ => ⟨rfl, e68, (by decide : 1 + 0 ≤ _), (by decide : 3 + 0 ≤ _)⟩)
    dsimp only [Pt.U, Pt.locs, Pt.cells, Pt.slots] at X69 l69 y69 z69 st69 hQ69
    subst l69 y69 z69
    obtain ⟨rfl, NC69, KC69, EC69, FC69_0, FC69_1, FC69_2⟩ := hQ69
    refine own_by (B := T69.setTop (mkF m 58 #[.val (.int ua), .val (.int ub), .val (.int uc), .val (.int ud), .val (.int ue), .val (.int uf), .val (.int (4 : Int32)), .val (.int ub_), .val (.int us_), .val (.int uc_), .val (.int vs_), .val (.int vc_), .unset, .unset, .unset, .unset, .unset, .unset, .unset] [(.ref b67)])) (fun _ k => st69.trans k) ?_
    obtain ⟨h69, e69⟩ : ∃ z, T69.heap = z := ⟨_, rfl⟩
    rw [e69] at KC69 EC69 FC69_0 FC69_1 FC69_2
    have sz69 := KC69.1
    have O69 := O67.keep KC69 (allS gn67 all0)
    have K69 := K67.trans KC69 (allS (Or.inr fz67) all0)
    have N69 := Fr.app M68 NC69
    refine own_by (B := T69.setTop (mkF m 60 #[.val (.int ua), .val (.int ub), .val (.int uc), .val (.int ud), .val (.int ue), .val (.int uf), .val (.int (4 : Int32)), .val (.int ub_), .val (.int us_), .val (.int uc_), .val (.int vs_), .val (.int vc_), .val (.ref b67), .unset, .unset, .unset, .unset, .unset, .unset] [])) (fun _ k => XS.astore X69.here hx rfl (hb hby at_58) rfl rfl (l' := #[.val (.int ua), .val (.int ub), .val (.int uc), .val (.int ud), .val (.int ue), .val (.int uf), .val (.int (4 : Int32)), .val (.int ub_), .val (.int us_), .val (.int uc_), .val (.int vs_), .val (.int vc_), .val (.ref b67), .unset, .unset, .unset, .unset, .unset, .unset]) rfl k) ?_
    obtain ⟨T70, h70, X70, e70, E70, A70, D70, -, st70⟩ := newO X69 hx hZ hown (hw _ (List.mem_of_getElem? (i := 1) rfl)) (hw _ (List.mem_of_getElem? (i := 2) rfl)) (hw _ (List.mem_of_getElem? (i := 3) rfl)) e69 (g := (mkF m 60 #[.val (.int ua), .val (.int ub), .val (.int uc), .val (.int ud), .val (.int ue), .val (.int uf), .val (.int (4 : Int32)), .val (.int ub_), .val (.int us_), .val (.int uc_), .val (.int vs_), .val (.int vc_), .val (.ref b67), .unset, .unset, .unset, .unset, .unset, .unset] [])) rfl (hb hby at_60) (by decide) (by decide)
    obtain ⟨b70, g70⟩ : ∃ z, z = h69.size := ⟨_, rfl⟩
    rw [← g70] at A70 D70 st70
    have sz70 := E70.1
    have gn70 : n0 ≤ b70 := g70 ▸ own_old_le O69
    have fz70 : h0.size ≤ b70 := g70 ▸ K69.1
    have lt70 := own_lt A70.lt
    have O70 := O69.ext E70
    have K70 := K69.ext E70
    have F70_kind : Fld Z h70 b70 "com/example/planwright/planwright/cache/LiteralType" "kind" "Lcom/example/planwright/planwright/cache/LiteralType$Kind;" .null := D70 (Or.inr (hw _ (List.mem_of_getElem? (i := 23) rfl))) (ty := (.object "com/example/planwright/planwright/cache/LiteralType$Kind")) (by decide)
    have F70_size : Fld Z h70 b70 "com/example/planwright/planwright/cache/LiteralType" "size" "I" (.int (0 : Int32)) := D70 (Or.inr (hw _ (List.mem_of_getElem? (i := 25) rfl))) (ty := .int) (by decide)
    have F70_scale : Fld Z h70 b70 "com/example/planwright/planwright/cache/LiteralType" "scale" "I" (.int (0 : Int32)) := D70 (Or.inr (hw _ (List.mem_of_getElem? (i := 27) rfl))) (ty := .int) (by decide)
    refine own_by (B := T70.setTop (mkF m 63 #[.val (.int ua), .val (.int ub), .val (.int uc), .val (.int ud), .val (.int ue), .val (.int uf), .val (.int (4 : Int32)), .val (.int ub_), .val (.int us_), .val (.int uc_), .val (.int vs_), .val (.int vc_), .val (.ref b67), .unset, .unset, .unset, .unset, .unset, .unset] [(.ref b70)])) st70 ?_
    refine own_by (B := T70.setTop (mkF m 64 #[.val (.int ua), .val (.int ub), .val (.int uc), .val (.int ud), .val (.int ue), .val (.int uf), .val (.int (4 : Int32)), .val (.int ub_), .val (.int us_), .val (.int uc_), .val (.int vs_), .val (.int vc_), .val (.ref b67), .unset, .unset, .unset, .unset, .unset, .unset] [(.ref b70), (.ref b70)])) (fun _ k => XS.dup X70.here hx rfl (hb hby at_63) rfl rfl k) ?_
    refine own_by (B := T70.setTop (mkF m 66 #[.val (.int ua), .val (.int ub), .val (.int uc), .val (.int ud), .val (.int ue), .val (.int uf), .val (.int (4 : Int32)), .val (.int ub_), .val (.int us_), .val (.int uc_), .val (.int vs_), .val (.int vc_), .val (.ref b67), .unset, .unset, .unset, .unset, .unset, .unset] [(.int ub_), (.ref b70), (.ref b70)])) (fun _ k => XS.iload X70.here hx rfl (hb hby at_64) rfl  k) ?_
    obtain ⟨_, _, ⟨T71, L71, k71, n71⟩, -, X71, ⟨Lc71, hQ71, l71, y71, z71⟩, st71⟩ := Jvm.LawKit.callS X70 hx (y := (⟨"com/example/planwright/planwright/cache/LiteralTypeFitsPinLaw", "kindOf", "(I)Lcom/example/planwright/planwright/cache/LiteralType$Kind;"⟩ : MethodName)) hown (mvT hZ (hw _ (List.mem_of_getElem? (i := 4) rfl))) (mvT hZ (hw _ (List.mem_of_getElem? (i := 5) rfl))) (mvT hZ (hw _ (List.mem_of_getElem? (i := 6) rfl))) (mvT hZ (hw _ (List.mem_of_getElem? (i := 7) rfl))) (by decide) (backOf (W := 2) (rmKo l Z a0 hw [] a_INTEGER a_BIGINT a_VARCHAR a_DECIMAL a_DOUBLE ucs ub_ h70 n0 (own_old_le O70) O70 HW) hZ (hw _ (List.mem_of_getElem? (i := 7) rfl)) (hw _ (List.mem_of_getElem? (i := 6) rfl)) (by decide) (by decide)) (g := (mkF m 66 #[.val (.int ua), .val (.int ub), .val (.int uc), .val (.int ud), .val (.int ue), .val (.int uf), .val (.int (4 : Int32)), .val (.int ub_), .val (.int us_), .val (.int uc_), .val (.int vs_), .val (.int vc_), .val (.ref b67), .unset, .unset, .unset, .unset, .unset, .unset] [(.int ub_), (.ref b70), (.ref b70)])) rfl (by rw [hml]; rfl) (argsL := [(.int ub_)]) (rest := [(.ref b70), (.ref b70)]) (lenOf pd_0__I_Lcom_example_planwright_planwright_cache_LiteralType_Kind_ rfl) rfl (by show 2 * 0 + _ ≤ _; exact Nat.le_of_eq rfl) (hb hby at_66) (fun _ _ => ⟨rfl, e70, (by decide : 2 + 0 ≤ _), (by decide : 6 + 0 ≤ _)⟩)
    dsimp only [Pt.U, Pt.locs, Pt.cells, Pt.slots] at X71 l71 y71 z71 st71 hQ71
    subst l71 y71 z71
    obtain ⟨rfl, N71, e71⟩ := hQ71
    refine own_by (B := T71.setTop (mkF m 69 #[.val (.int ua), .val (.int ub), .val (.int uc), .val (.int ud), .val (.int ue), .val (.int uf), .val (.int (4 : Int32)), .val (.int ub_), .val (.int us_), .val (.int uc_), .val (.int vs_), .val (.int vc_), .val (.ref b67), .unset, .unset, .unset, .unset, .unset, .unset] [(.ref (own_ko ub_ a_INTEGER a_BIGINT a_DECIMAL a_DOUBLE a_VARCHAR)), (.ref b70), (.ref b70)])) st71 ?_
    have M71 := Fr.app N69 N71
    obtain ⟨uk, huk⟩ : ∃ z : Addr, z = (own_ko ub_ a_INTEGER a_BIGINT a_DECIMAL a_DOUBLE a_VARCHAR) := ⟨_, rfl⟩
    rw [← huk]
    refine own_by (B := T71.setTop (mkF m 71 #[.val (.int ua), .val (.int ub), .val (.int uc), .val (.int ud), .val (.int ue), .val (.int uf), .val (.int (4 : Int32)), .val (.int ub_), .val (.int us_), .val (.int uc_), .val (.int vs_), .val (.int vc_), .val (.ref b67), .unset, .unset, .unset, .unset, .unset, .unset] [(.int vs_), (.ref uk), (.ref b70), (.ref b70)])) (fun _ k => XS.iload X71.here hx rfl (hb hby at_69) rfl  k) ?_
    refine own_by (B := T71.setTop (mkF m 73 #[.val (.int ua), .val (.int ub), .val (.int uc), .val (.int ud), .val (.int ue), .val (.int uf), .val (.int (4 : Int32)), .val (.int ub_), .val (.int us_), .val (.int uc_), .val (.int vs_), .val (.int vc_), .val (.ref b67), .unset, .unset, .unset, .unset, .unset, .unset] [(.int vc_), (.int vs_), (.ref uk), (.ref b70), (.ref b70)])) (fun _ k => XS.iload X71.here hx rfl (hb hby at_71) rfl  k) ?_
    obtain ⟨_, _, ⟨T72, L72, k72, n72⟩, -, X72, ⟨Lc72, hQ72, l72, y72, z72⟩, st72⟩ := X71.specialBack hx (y := (⟨"com/example/planwright/planwright/cache/LiteralType", "<init>", "(Lcom/example/planwright/planwright/cache/LiteralType$Kind;II)V"⟩ : MethodName)) rfl hown (mvT hZ (hw _ (List.mem_of_getElem? (i := 11) rfl))) (mvT hZ (hw _ (List.mem_of_getElem? (i := 12) rfl))) (mvT hZ (hw _ (List.mem_of_getElem? (i := 13) rfl))) (by decide) (backOf (W := 1) (rmLT l Z a0 hw [] b70 uk vs_ vc_ h70 n0 (own_old_le O70) O70 A70 F70_kind F70_size F70_scale gn70) hZ (hw _ (List.mem_of_getElem? (i := 13) rfl)) (hw _ (List.mem_of_getElem? (i := 3) rfl)) (by decide) (by decide)) (g := (mkF m 73 #[.val (.int ua), .val (.int ub), .val (.int uc), .val (.int ud), .val (.int ue), .val (.int uf), .val (.int (4 : Int32)), .val (.int ub_), .val (.int us_), .val (.int uc_), .val (.int vs_), .val (.int vc_), .val (.ref b67), .unset, .unset, .unset, .unset, .unset, .unset] [(.int vc_), (.int vs_), (.ref uk), (.ref b70), (.ref b70)])) rfl (by rw [hml]; rfl) (Steps.refl _) (a := b70) (argsL := [(.ref uk), (.int vs_), (.int vc_)]) (rest := [(.ref b70)]) (lenOf pd_0__Lcom_example_planwright_planwright_cache_LiteralType_Kind_II_V rfl) rfl (by show 2 * 0 + _ ≤ _; exact Nat.le_of_eq rfl) (hb hby at_73) (fun _ _ => ⟨rfl, e71, (by decide : 2 + 0 ≤ _), (by decide : 6 + 0 ≤ _)⟩)
    dsimp only [Pt.U, Pt.locs, Pt.cells, Pt.slots] at X72 l72 y72 z72 st72 hQ72
    subst l72 y72 z72
    obtain ⟨rfl, NC72, KC72, EC72, FC72_0, FC72_1, FC72_2⟩ := hQ72
    refine own_by (B := T72.setTop (mkF m 76 #[.val (.int ua), .val (.int ub), .val (.int uc), .val (.int ud), .val (.int ue), .val (.int uf), .val (.int (4 : Int32)), .val (.int ub_), .val (.int us_), .val (.int uc_), .val (.int vs_), .val (.int vc_), .val (.ref b67), .unset, .unset, .unset, .unset, .unset, .unset] [(.ref b70)])) (fun _ k => st72.trans k) ?_
    obtain ⟨h72, e72⟩ : ∃ z, T72.heap = z := ⟨_, rfl⟩
    rw [e72] at KC72 EC72 FC72_0 FC72_1 FC72_2
    have sz72 := KC72.1
    have O72 := O70.keep KC72 (allS gn70 all0)
    have K72 := K70.trans KC72 (allS (Or.inr fz70) all0)
    have N72 := Fr.app M71 NC72
    refine own_by (B := T72.setTop (mkF m 78 #[.val (.int ua), .val (.int ub), .val (.int uc), .val (.int ud), .val (.int ue), .val (.int uf), .val (.int (4 : Int32)), .val (.int ub_), .val (.int us_), .val (.int uc_), .val (.int vs_), .val (.int vc_), .val (.ref b67), .val (.ref b70), .unset, .unset, .unset, .unset, .unset] [])) (fun _ k => XS.astore X72.here hx rfl (hb hby at_76) rfl rfl (l' := #[.val (.int ua), .val (.int ub), .val (.int uc), .val (.int ud), .val (.int ue), .val (.int uf), .val (.int (4 : Int32)), .val (.int ub_), .val (.int us_), .val (.int uc_), .val (.int vs_), .val (.int vc_), .val (.ref b67), .val (.ref b70), .unset, .unset, .unset, .unset, .unset]) rfl k) ?_
    refine own_by (B := T72.setTop (mkF m 80 #[.val (.int ua), .val (.int ub), .val (.int uc), .val (.int ud), .val (.int ue), .val (.int uf), .val (.int (4 : Int32)), .val (.int ub_), .val (.int us_), .val (.int uc_), .val (.int vs_), .val (.int vc_), .val (.ref b67), .val (.ref b70), .unset, .unset, .unset, .unset, .unset] [(.int us_)])) (fun _ k => XS.iload X72.here hx rfl (hb hby at_78) rfl  k) ?_
    refine own_by (B := T72.setTop (mkF m 81 #[.val (.int ua), .val (.int ub), .val (.int uc), .val (.int ud), .val (.int ue), .val (.int uf), .val (.int (4 : Int32)), .val (.int ub_), .val (.int us_), .val (.int uc_), .val (.int vs_), .val (.int vc_), .val (.ref b67), .val (.ref b70), .unset, .unset, .unset, .unset, .unset] [(.long (Int32.toInt64 us_))])) (fun _ k => XT.i2l X72.here hx rfl (hb hby at_80) rfl k) ?_
    refine own_by (B := T72.setTop (mkF m 83 #[.val (.int ua), .val (.int ub), .val (.int uc), .val (.int ud), .val (.int ue), .val (.int uf), .val (.int (4 : Int32)), .val (.int ub_), .val (.int us_), .val (.int uc_), .val (.int vs_), .val (.int vc_), .val (.ref b67), .val (.ref b70), .unset, .unset, .unset, .unset, .unset] [(.int uc_), (.long (Int32.toInt64 us_))])) (fun _ k => XS.iload X72.here hx rfl (hb hby at_81) rfl  k) ?_
    refine own_by (B := T72.setTop (mkF m 84 #[.val (.int ua), .val (.int ub), .val (.int uc), .val (.int ud), .val (.int ue), .val (.int uf), .val (.int (4 : Int32)), .val (.int ub_), .val (.int us_), .val (.int uc_), .val (.int vs_), .val (.int vc_), .val (.ref b67), .val (.ref b70), .unset, .unset, .unset, .unset, .unset] [(.long (Int32.toInt64 uc_)), (.long (Int32.toInt64 us_))])) (fun _ k => XT.i2l X72.here hx rfl (hb hby at_83) rfl k) ?_
    refine own_by (B := T72.setTop (mkF m 85 #[.val (.int ua), .val (.int ub), .val (.int uc), .val (.int ud), .val (.int ue), .val (.int uf), .val (.int (4 : Int32)), .val (.int ub_), .val (.int us_), .val (.int uc_), .val (.int vs_), .val (.int vc_), .val (.ref b67), .val (.ref b70), .unset, .unset, .unset, .unset, .unset] [(.long ((Int32.toInt64 us_) - (Int32.toInt64 uc_)))])) (fun _ k => XT.lsub X72.here hx rfl (hb hby at_84) rfl k) ?_
    refine own_by (B := T72.setTop (mkF m 87 #[.val (.int ua), .val (.int ub), .val (.int uc), .val (.int ud), .val (.int ue), .val (.int uf), .val (.int (4 : Int32)), .val (.int ub_), .val (.int us_), .val (.int uc_), .val (.int vs_), .val (.int vc_), .val (.ref b67), .val (.ref b70), .val (.long ((Int32.toInt64 us_) - (Int32.toInt64 uc_))), .second, .unset, .unset, .unset] [])) (fun _ k => XT.lstore X72.here hx rfl (hb hby at_85) rfl (l' := #[.val (.int ua), .val (.int ub), .val (.int uc), .val (.int ud), .val (.int ue), .val (.int uf), .val (.int (4 : Int32)), .val (.int ub_), .val (.int us_), .val (.int uc_), .val (.int vs_), .val (.int vc_), .val (.ref b67), .val (.ref b70), .val (.long ((Int32.toInt64 us_) - (Int32.toInt64 uc_))), .second, .unset, .unset, .unset]) rfl k) ?_
    refine own_by (B := T72.setTop (mkF m 89 #[.val (.int ua), .val (.int ub), .val (.int uc), .val (.int ud), .val (.int ue), .val (.int uf), .val (.int (4 : Int32)), .val (.int ub_), .val (.int us_), .val (.int uc_), .val (.int vs_), .val (.int vc_), .val (.ref b67), .val (.ref b70), .val (.long ((Int32.toInt64 us_) - (Int32.toInt64 uc_))), .second, .unset, .unset, .unset] [(.int vs_)])) (fun _ k => XS.iload X72.here hx rfl (hb hby at_87) rfl  k) ?_
    refine own_by (B := T72.setTop (mkF m 90 #[.val (.int ua), .val (.int ub), .val (.int uc), .val (.int ud), .val (.int ue), .val (.int uf), .val (.int (4 : Int32)), .val (.int ub_), .val (.int us_), .val (.int uc_), .val (.int vs_), .val (.int vc_), .val (.ref b67), .val (.ref b70), .val (.long ((Int32.toInt64 us_) - (Int32.toInt64 uc_))), .second, .unset, .unset, .unset] [(.long (Int32.toInt64 vs_))])) (fun _ k => XT.i2l X72.here hx rfl (hb hby at_89) rfl k) ?_
    refine own_by (B := T72.setTop (mkF m 92 #[.val (.int ua), .val (.int ub), .val (.int uc), .val (.int ud), .val (.int ue), .val (.int uf), .val (.int (4 : Int32)), .val (.int ub_), .val (.int us_), .val (.int uc_), .val (.int vs_), .val (.int vc_), .val (.ref b67), .val (.ref b70), .val (.long ((Int32.toInt64 us_) - (Int32.toInt64 uc_))), .second, .unset, .unset, .unset] [(.int vc_), (.long (Int32.toInt64 vs_))])) (fun _ k => XS.iload X72.here hx rfl (hb hby at_90) rfl  k) ?_
    refine own_by (B := T72.setTop (mkF m 93 #[.val (.int ua), .val (.int ub), .val (.int uc), .val (.int ud), .val (.int ue), .val (.int uf), .val (.int (4 : Int32)), .val (.int ub_), .val (.int us_), .val (.int uc_), .val (.int vs_), .val (.int vc_), .val (.ref b67), .val (.ref b70), .val (.long ((Int32.toInt64 us_) - (Int32.toInt64 uc_))), .second, .unset, .unset, .unset] [(.long (Int32.toInt64 vc_)), (.long (Int32.toInt64 vs_))])) (fun _ k => XT.i2l X72.here hx rfl (hb hby at_92) rfl k) ?_
    refine own_by (B := T72.setTop (mkF m 94 #[.val (.int ua), .val (.int ub), .val (.int uc), .val (.int ud), .val (.int ue), .val (.int uf), .val (.int (4 : Int32)), .val (.int ub_), .val (.int us_), .val (.int uc_), .val (.int vs_), .val (.int vc_), .val (.ref b67), .val (.ref b70), .val (.long ((Int32.toInt64 us_) - (Int32.toInt64 uc_))), .second, .unset, .unset, .unset] [(.long ((Int32.toInt64 vs_) - (Int32.toInt64 vc_)))])) (fun _ k => XT.lsub X72.here hx rfl (hb hby at_93) rfl k) ?_
    refine own_by (B := T72.setTop (mkF m 96 #[.val (.int ua), .val (.int ub), .val (.int uc), .val (.int ud), .val (.int ue), .val (.int uf), .val (.int (4 : Int32)), .val (.int ub_), .val (.int us_), .val (.int uc_), .val (.int vs_), .val (.int vc_), .val (.ref b67), .val (.ref b70), .val (.long ((Int32.toInt64 us_) - (Int32.toInt64 uc_))), .second, .val (.long ((Int32.toInt64 vs_) - (Int32.toInt64 vc_))), .second, .unset] [])) (fun _ k => XT.lstore X72.here hx rfl (hb hby at_94) rfl (l' := #[.val (.int ua), .val (.int ub), .val (.int uc), .val (.int ud), .val (.int ue), .val (.int uf), .val (.int (4 : Int32)), .val (.int ub_), .val (.int us_), .val (.int uc_), .val (.int vs_), .val (.int vc_), .val (.ref b67), .val (.ref b70), .val (.long ((Int32.toInt64 us_) - (Int32.toInt64 uc_))), .second, .val (.long ((Int32.toInt64 vs_) - (Int32.toInt64 vc_))), .second, .unset]) rfl k) ?_
    refine own_by (B := T72.setTop (mkF m 98 #[.val (.int ua), .val (.int ub), .val (.int uc), .val (.int ud), .val (.int ue), .val (.int uf), .val (.int (4 : Int32)), .val (.int ub_), .val (.int us_), .val (.int uc_), .val (.int vs_), .val (.int vc_), .val (.ref b67), .val (.ref b70), .val (.long ((Int32.toInt64 us_) - (Int32.toInt64 uc_))), .second, .val (.long ((Int32.toInt64 vs_) - (Int32.toInt64 vc_))), .second, .unset] [(.int (4 : Int32))])) (fun _ k => XS.iload X72.here hx rfl (hb hby at_96) rfl  k) ?_
    refine own_by (B := T72.setTop (mkF m 143 #[.val (.int ua), .val (.int ub), .val (.int uc), .val (.int ud), .val (.int ue), .val (.int uf), .val (.int (4 : Int32)), .val (.int ub_), .val (.int us_), .val (.int uc_), .val (.int vs_), .val (.int vc_), .val (.ref b67), .val (.ref b70), .val (.long ((Int32.toInt64 us_) - (Int32.toInt64 uc_))), .second, .val (.long ((Int32.toInt64 vs_) - (Int32.toInt64 vc_))), .second, .unset] [])) (fun _ k => XS.ifYes X72.here hx rfl (pc0 := 98) (pc' := 143) rfl (hb hby at_98) rfl (XT.i0_ne_t (by decide)) (by decide) (by decide) k) ?_
    refine own_by (B := T72.setTop (mkF m 145 #[.val (.int ua), .val (.int ub), .val (.int uc), .val (.int ud), .val (.int ue), .val (.int uf), .val (.int (4 : Int32)), .val (.int ub_), .val (.int us_), .val (.int uc_), .val (.int vs_), .val (.int vc_), .val (.ref b67), .val (.ref b70), .val (.long ((Int32.toInt64 us_) - (Int32.toInt64 uc_))), .second, .val (.long ((Int32.toInt64 vs_) - (Int32.toInt64 vc_))), .second, .unset] [(.int (4 : Int32))])) (fun _ k => XS.iload X72.here hx rfl (hb hby at_143) rfl  k) ?_
    refine own_by (B := T72.setTop (mkF m 146 #[.val (.int ua), .val (.int ub), .val (.int uc), .val (.int ud), .val (.int ue), .val (.int uf), .val (.int (4 : Int32)), .val (.int ub_), .val (.int us_), .val (.int uc_), .val (.int vs_), .val (.int vc_), .val (.ref b67), .val (.ref b70), .val (.long ((Int32.toInt64 us_) - (Int32.toInt64 uc_))), .second, .val (.long ((Int32.toInt64 vs_) - (Int32.toInt64 vc_))), .second, .unset] [(.int (1 : Int32)), (.int (4 : Int32))])) (fun _ k => XS.iconst X72.here hx rfl (hb hby at_145) k) ?_
    refine own_by (B := T72.setTop (mkF m 186 #[.val (.int ua), .val (.int ub), .val (.int uc), .val (.int ud), .val (.int ue), .val (.int uf), .val (.int (4 : Int32)), .val (.int ub_), .val (.int us_), .val (.int uc_), .val (.int vs_), .val (.int vc_), .val (.ref b67), .val (.ref b70), .val (.long ((Int32.toInt64 us_) - (Int32.toInt64 uc_))), .second, .val (.long ((Int32.toInt64 vs_) - (Int32.toInt64 vc_))), .second, .unset] [])) (fun _ k => XS.icmpYes X72.here hx rfl (pc0 := 146) (pc' := 186) rfl (hb hby at_146) rfl (XT.ii_ne_t (by decide)) (by decide) (by decide) k) ?_
    refine own_by (B := T72.setTop (mkF m 188 #[.val (.int ua), .val (.int ub), .val (.int uc), .val (.int ud), .val (.int ue), .val (.int uf), .val (.int (4 : Int32)), .val (.int ub_), .val (.int us_), .val (.int uc_), .val (.int vs_), .val (.int vc_), .val (.ref b67), .val (.ref b70), .val (.long ((Int32.toInt64 us_) - (Int32.toInt64 uc_))), .second, .val (.long ((Int32.toInt64 vs_) - (Int32.toInt64 vc_))), .second, .unset] [(.int (4 : Int32))])) (fun _ k => XS.iload X72.here hx rfl (hb hby at_186) rfl  k) ?_
    refine own_by (B := T72.setTop (mkF m 189 #[.val (.int ua), .val (.int ub), .val (.int uc), .val (.int ud), .val (.int ue), .val (.int uf), .val (.int (4 : Int32)), .val (.int ub_), .val (.int us_), .val (.int uc_), .val (.int vs_), .val (.int vc_), .val (.ref b67), .val (.ref b70), .val (.long ((Int32.toInt64 us_) - (Int32.toInt64 uc_))), .second, .val (.long ((Int32.toInt64 vs_) - (Int32.toInt64 vc_))), .second, .unset] [(.int (2 : Int32)), (.int (4 : Int32))])) (fun _ k => XS.iconst X72.here hx rfl (hb hby at_188) k) ?_
    refine own_by (B := T72.setTop (mkF m 229 #[.val (.int ua), .val (.int ub), .val (.int uc), .val (.int ud), .val (.int ue), .val (.int uf), .val (.int (4 : Int32)), .val (.int ub_), .val (.int us_), .val (.int uc_), .val (.int vs_), .val (.int vc_), .val (.ref b67), .val (.ref b70), .val (.long ((Int32.toInt64 us_) - (Int32.toInt64 uc_))), .second, .val (.long ((Int32.toInt64 vs_) - (Int32.toInt64 vc_))), .second, .unset] [])) (fun _ k => XS.icmpYes X72.here hx rfl (pc0 := 189) (pc' := 229) rfl (hb hby at_189) rfl (XT.ii_ne_t (by decide)) (by decide) (by decide) k) ?_
    refine own_by (B := T72.setTop (mkF m 231 #[.val (.int ua), .val (.int ub), .val (.int uc), .val (.int ud), .val (.int ue), .val (.int uf), .val (.int (4 : Int32)), .val (.int ub_), .val (.int us_), .val (.int uc_), .val (.int vs_), .val (.int vc_), .val (.ref b67), .val (.ref b70), .val (.long ((Int32.toInt64 us_) - (Int32.toInt64 uc_))), .second, .val (.long ((Int32.toInt64 vs_) - (Int32.toInt64 vc_))), .second, .unset] [(.int (4 : Int32))])) (fun _ k => XS.iload X72.here hx rfl (hb hby at_229) rfl  k) ?_
    refine own_by (B := T72.setTop (mkF m 232 #[.val (.int ua), .val (.int ub), .val (.int uc), .val (.int ud), .val (.int ue), .val (.int uf), .val (.int (4 : Int32)), .val (.int ub_), .val (.int us_), .val (.int uc_), .val (.int vs_), .val (.int vc_), .val (.ref b67), .val (.ref b70), .val (.long ((Int32.toInt64 us_) - (Int32.toInt64 uc_))), .second, .val (.long ((Int32.toInt64 vs_) - (Int32.toInt64 vc_))), .second, .unset] [(.int (3 : Int32)), (.int (4 : Int32))])) (fun _ k => XS.iconst X72.here hx rfl (hb hby at_231) k) ?_
    refine own_by (B := T72.setTop (mkF m 251 #[.val (.int ua), .val (.int ub), .val (.int uc), .val (.int ud), .val (.int ue), .val (.int uf), .val (.int (4 : Int32)), .val (.int ub_), .val (.int us_), .val (.int uc_), .val (.int vs_), .val (.int vc_), .val (.ref b67), .val (.ref b70), .val (.long ((Int32.toInt64 us_) - (Int32.toInt64 uc_))), .second, .val (.long ((Int32.toInt64 vs_) - (Int32.toInt64 vc_))), .second, .unset] [])) (fun _ k => XS.icmpYes X72.here hx rfl (pc0 := 232) (pc' := 251) rfl (hb hby at_232) rfl (XT.ii_ne_t (by decide)) (by decide) (by decide) k) ?_
    refine own_by (B := T72.setTop (mkF m 253 #[.val (.int ua), .val (.int ub), .val (.int uc), .val (.int ud), .val (.int ue), .val (.int uf), .val (.int (4 : Int32)), .val (.int ub_), .val (.int us_), .val (.int uc_), .val (.int vs_), .val (.int vc_), .val (.ref b67), .val (.ref b70), .val (.long ((Int32.toInt64 us_) - (Int32.toInt64 uc_))), .second, .val (.long ((Int32.toInt64 vs_) - (Int32.toInt64 vc_))), .second, .unset] [(.int ub_)])) (fun _ k => XS.iload X72.here hx rfl (hb hby at_251) rfl  k) ?_
    refine own_by (B := T72.setTop (mkF m 254 #[.val (.int ua), .val (.int ub), .val (.int uc), .val (.int ud), .val (.int ue), .val (.int uf), .val (.int (4 : Int32)), .val (.int ub_), .val (.int us_), .val (.int uc_), .val (.int vs_), .val (.int vc_), .val (.ref b67), .val (.ref b70), .val (.long ((Int32.toInt64 us_) - (Int32.toInt64 uc_))), .second, .val (.long ((Int32.toInt64 vs_) - (Int32.toInt64 vc_))), .second, .unset] [(.int (4 : Int32)), (.int ub_)])) (fun _ k => XS.iconst X72.here hx rfl (hb hby at_253) k) ?_
    obtain ⟨mv73, hmv73⟩ : ∃ z : Int32, z = if ub_ = (4 : Int32) then (if vs_ < us_ then (0 : Int32) else (1 : Int32)) else (0 : Int32) := ⟨_, rfl⟩
    suffices hj74 : own_Go p.tables e below (own_KL s below (own_Q0 n0) 16 2176) (T72.setTop (mkF m 269 #[.val (.int ua), .val (.int ub), .val (.int uc), .val (.int ud), .val (.int ue), .val (.int uf), .val (.int (4 : Int32)), .val (.int ub_), .val (.int us_), .val (.int uc_), .val (.int vs_), .val (.int vc_), .val (.ref b67), .val (.ref b70), .val (.long ((Int32.toInt64 us_) - (Int32.toInt64 uc_))), .second, .val (.long ((Int32.toInt64 vs_) - (Int32.toInt64 vc_))), .second, .unset] [(.int mv73)])) by
      by_cases hc75 : ub_ = (4 : Int32)
      · refine own_by (B := T72.setTop (mkF m 257 #[.val (.int ua), .val (.int ub), .val (.int uc), .val (.int ud), .val (.int ue), .val (.int uf), .val (.int (4 : Int32)), .val (.int ub_), .val (.int us_), .val (.int uc_), .val (.int vs_), .val (.int vc_), .val (.ref b67), .val (.ref b70), .val (.long ((Int32.toInt64 us_) - (Int32.toInt64 uc_))), .second, .val (.long ((Int32.toInt64 vs_) - (Int32.toInt64 vc_))), .second, .unset] [])) (fun _ k => XS.icmpNo X72.here hx rfl (hb hby at_254) rfl (XT.ii_ne_f hc75) k) ?_
        refine own_by (B := T72.setTop (mkF m 259 #[.val (.int ua), .val (.int ub), .val (.int uc), .val (.int ud), .val (.int ue), .val (.int uf), .val (.int (4 : Int32)), .val (.int ub_), .val (.int us_), .val (.int uc_), .val (.int vs_), .val (.int vc_), .val (.ref b67), .val (.ref b70), .val (.long ((Int32.toInt64 us_) - (Int32.toInt64 uc_))), .second, .val (.long ((Int32.toInt64 vs_) - (Int32.toInt64 vc_))), .second, .unset] [(.int us_)])) (fun _ k => XS.iload X72.here hx rfl (hb hby at_257) rfl  k) ?_
        refine own_by (B := T72.setTop (mkF m 261 #[.val (.int ua), .val (.int ub), .val (.int uc), .val (.int ud), .val (.int ue), .val (.int uf), .val (.int (4 : Int32)), .val (.int ub_), .val (.int us_), .val (.int uc_), .val (.int vs_), .val (.int vc_), .val (.ref b67), .val (.ref b70), .val (.long ((Int32.toInt64 us_) - (Int32.toInt64 uc_))), .second, .val (.long ((Int32.toInt64 vs_) - (Int32.toInt64 vc_))), .second, .unset] [(.int vs_), (.int us_)])) (fun _ k => XS.iload X72.here hx rfl (hb hby at_259) rfl  k) ?_
        by_cases hc76 : vs_ < us_
        · refine own_by (B := T72.setTop (mkF m 268 #[.val (.int ua), .val (.int ub), .val (.int uc), .val (.int ud), .val (.int ue), .val (.int uf), .val (.int (4 : Int32)), .val (.int ub_), .val (.int us_), .val (.int uc_), .val (.int vs_), .val (.int vc_), .val (.ref b67), .val (.ref b70), .val (.long ((Int32.toInt64 us_) - (Int32.toInt64 uc_))), .second, .val (.long ((Int32.toInt64 vs_) - (Int32.toInt64 vc_))), .second, .unset] [])) (fun _ k => XS.icmpYes X72.here hx rfl (pc0 := 261) (pc' := 268) rfl (hb hby at_261) rfl (XT.ii_gt_t hc76) (by decide) (by decide) k) ?_
          refine own_by (B := T72.setTop (mkF m 269 #[.val (.int ua), .val (.int ub), .val (.int uc), .val (.int ud), .val (.int ue), .val (.int uf), .val (.int (4 : Int32)), .val (.int ub_), .val (.int us_), .val (.int uc_), .val (.int vs_), .val (.int vc_), .val (.ref b67), .val (.ref b70), .val (.long ((Int32.toInt64 us_) - (Int32.toInt64 uc_))), .second, .val (.long ((Int32.toInt64 vs_) - (Int32.toInt64 vc_))), .second, .unset] [(.int (0 : Int32))])) (fun _ k => XS.iconst X72.here hx rfl (hb hby at_268) k) ?_
          rw [show mv73 = (0 : Int32) from hmv73.trans (((if_pos hc75).trans  ((if_pos hc76).trans rfl)))] at hj74
          exact hj74
        · refine own_by (B := T72.setTop (mkF m 264 #[.val (.int ua), .val (.int ub), .val (.int uc), .val (.int ud), .val (.int ue), .val (.int uf), .val (.int (4 : Int32)), .val (.int ub_), .val (.int us_), .val (.int uc_), .val (.int vs_), .val (.int vc_), .val (.ref b67), .val (.ref b70), .val (.long ((Int32.toInt64 us_) - (Int32.toInt64 uc_))), .second, .val (.long ((Int32.toInt64 vs_) - (Int32.toInt64 vc_))), .second, .unset] [])) (fun _ k => XS.icmpNo X72.here hx rfl (hb hby at_261) rfl (XT.ii_gt_f hc76) k) ?_
          refine own_by (B := T72.setTop (mkF m 265 #[.val (.int ua), .val (.int ub), .val (.int uc), .val (.int ud), .val (.int ue), .val (.int uf), .val (.int (4 : Int32)), .val (.int ub_), .val (.int us_), .val (.int uc_), .val (.int vs_), .val (.int vc_), .val (.ref b67), .val (.ref b70), .val (.long ((Int32.toInt64 us_) - (Int32.toInt64 uc_))), .second, .val (.long ((Int32.toInt64 vs_) - (Int32.toInt64 vc_))), .second, .unset] [(.int (1 : Int32))])) (fun _ k => XS.iconst X72.here hx rfl (hb hby at_264) k) ?_
          refine own_by (B := T72.setTop (mkF m 269 #[.val (.int ua), .val (.int ub), .val (.int uc), .val (.int ud), .val (.int ue), .val (.int uf), .val (.int (4 : Int32)), .val (.int ub_), .val (.int us_), .val (.int uc_), .val (.int vs_), .val (.int vc_), .val (.ref b67), .val (.ref b70), .val (.long ((Int32.toInt64 us_) - (Int32.toInt64 uc_))), .second, .val (.long ((Int32.toInt64 vs_) - (Int32.toInt64 vc_))), .second, .unset] [(.int (1 : Int32))])) (fun _ k => XS.goto X72.here hx rfl (pc0 := 265) (pc' := 269) rfl (hb hby at_265) (by decide) (by decide) k) ?_
          rw [show mv73 = (1 : Int32) from hmv73.trans (((if_pos hc75).trans  ((if_neg hc76).trans rfl)))] at hj74
          exact hj74
      · refine own_by (B := T72.setTop (mkF m 268 #[.val (.int ua), .val (.int ub), .val (.int uc), .val (.int ud), .val (.int ue), .val (.int uf), .val (.int (4 : Int32)), .val (.int ub_), .val (.int us_), .val (.int uc_), .val (.int vs_), .val (.int vc_), .val (.ref b67), .val (.ref b70), .val (.long ((Int32.toInt64 us_) - (Int32.toInt64 uc_))), .second, .val (.long ((Int32.toInt64 vs_) - (Int32.toInt64 vc_))), .second, .unset] [])) (fun _ k => XS.icmpYes X72.here hx rfl (pc0 := 254) (pc' := 268) rfl (hb hby at_254) rfl (XT.ii_ne_t hc75) (by decide) (by decide) k) ?_
        refine own_by (B := T72.setTop (mkF m 269 #[.val (.int ua), .val (.int ub), .val (.int uc), .val (.int ud), .val (.int ue), .val (.int uf), .val (.int (4 : Int32)), .val (.int ub_), .val (.int us_), .val (.int uc_), .val (.int vs_), .val (.int vc_), .val (.ref b67), .val (.ref b70), .val (.long ((Int32.toInt64 us_) - (Int32.toInt64 uc_))), .second, .val (.long ((Int32.toInt64 vs_) - (Int32.toInt64 vc_))), .second, .unset] [(.int (0 : Int32))])) (fun _ k => XS.iconst X72.here hx rfl (hb hby at_268) k) ?_
        rw [show mv73 = (0 : Int32) from hmv73.trans (((if_neg hc75).trans rfl))] at hj74
        exact hj74
    refine own_by (B := T72.setTop (mkF m 271 #[.val (.int ua), .val (.int ub), .val (.int uc), .val (.int ud), .val (.int ue), .val (.int uf), .val (.int (4 : Int32)), .val (.int ub_), .val (.int us_), .val (.int uc_), .val (.int vs_), .val (.int vc_), .val (.ref b67), .val (.ref b70), .val (.long ((Int32.toInt64 us_) - (Int32.toInt64 uc_))), .second, .val (.long ((Int32.toInt64 vs_) - (Int32.toInt64 vc_))), .second, .val (.int mv73)] [])) (fun _ k => XS.istore X72.here hx rfl (hb hby at_269) rfl (l' := #[.val (.int ua), .val (.int ub), .val (.int uc), .val (.int ud), .val (.int ue), .val (.int uf), .val (.int (4 : Int32)), .val (.int ub_), .val (.int us_), .val (.int uc_), .val (.int vs_), .val (.int vc_), .val (.ref b67), .val (.ref b70), .val (.long ((Int32.toInt64 us_) - (Int32.toInt64 uc_))), .second, .val (.long ((Int32.toInt64 vs_) - (Int32.toInt64 vc_))), .second, .val (.int mv73)]) rfl k) ?_
    refine own_by (B := T72.setTop (mkF m 273 #[.val (.int ua), .val (.int ub), .val (.int uc), .val (.int ud), .val (.int ue), .val (.int uf), .val (.int (4 : Int32)), .val (.int ub_), .val (.int us_), .val (.int uc_), .val (.int vs_), .val (.int vc_), .val (.ref b67), .val (.ref b70), .val (.long ((Int32.toInt64 us_) - (Int32.toInt64 uc_))), .second, .val (.long ((Int32.toInt64 vs_) - (Int32.toInt64 vc_))), .second, .val (.int mv73)] [(.ref b67)])) (fun _ k => XS.aload X72.here hx rfl (hb hby at_271) rfl rfl  k) ?_
    refine own_by (B := T72.setTop (mkF m 275 #[.val (.int ua), .val (.int ub), .val (.int uc), .val (.int ud), .val (.int ue), .val (.int uf), .val (.int (4 : Int32)), .val (.int ub_), .val (.int us_), .val (.int uc_), .val (.int vs_), .val (.int vc_), .val (.ref b67), .val (.ref b70), .val (.long ((Int32.toInt64 us_) - (Int32.toInt64 uc_))), .second, .val (.long ((Int32.toInt64 vs_) - (Int32.toInt64 vc_))), .second, .val (.int mv73)] [(.ref b70), (.ref b67)])) (fun _ k => XS.aload X72.here hx rfl (hb hby at_273) rfl rfl  k) ?_
    have c77 := ((EC69.ext E70).keep KC72)
    have c78 := ((FC69_0.ext E70).keep KC72 (ninS (own_ne (by omega)) nin0))
    have c79 := ((FC69_1.ext E70).keep KC72 (ninS (own_ne (by omega)) nin0))
    have c80 := ((FC69_2.ext E70).keep KC72 (ninS (own_ne (by omega)) nin0))
    have CHn : CHv Z own_EL s.vm h72 := (CHv.keep KC72 (sfS (Safe.exa hZ.alike A70 (by decide) (by decide)) sf0) (CHv.ext E70 (CHv.keep KC69 (sfS (Safe.exa hZ.alike A67 (by decide) (by decide)) sf0) (CHv.ext E67 CH0))))
    obtain ⟨cq81, kq81, qa81, qb81, qc81⟩ := isOf hZ e72 c77
    obtain ⟨_, _, ⟨T81, L81, k81, n81⟩, -, X81, hS81, hle81, ⟨Lc81, hQ81, l81, y81, z81, CR81⟩, st81⟩ := Jvm.Stand.virtualBackS X72 hx (y := (⟨"com/example/planwright/planwright/cache/LiteralType", "fits", "(Lcom/example/planwright/planwright/cache/LiteralType;)Z"⟩ : MethodName)) (z := (⟨"com/example/planwright/planwright/cache/LiteralType", "fits", "(Lcom/example/planwright/planwright/cache/LiteralType;)Z"⟩ : MethodName)) hown (mvT hZ (hw _ (List.mem_of_getElem? (i := 30) rfl))) (mvT hZ (hw _ (List.mem_of_getElem? (i := 31) rfl))) (notFace_of_selects (args := #[]) (mvT hZ (hw _ (List.mem_of_getElem? (i := 33) rfl)))) (mvT hZ (hw _ (List.mem_of_getElem? (i := 33) rfl))) (mvT hZ (hw _ (List.mem_of_getElem? (i := 32) rfl))) (by decide) (backOfSH (s := s) (vm0 := s.vm) (W := 0) (rmFitVARCHAR l Z a0 hw [] a_INTEGER a_BIGINT a_VARCHAR a_DECIMAL a_DOUBLE ucs b67 b70 uk us_ uc_ vs_ vc_ h72 n0 (own_old_le O72) O72 HW c77 c78 c79 c80 EC72 FC72_0 FC72_1 FC72_2) hZ (hw _ (List.mem_of_getElem? (i := 34) rfl)) (hw _ (List.mem_of_getElem? (i := 3) rfl)) (by decide) (by decide) own_hEL CHn) qa81 qc81 (g := (mkF m 275 #[.val (.int ua), .val (.int ub), .val (.int uc), .val (.int ud), .val (.int ue), .val (.int uf), .val (.int (4 : Int32)), .val (.int ub_), .val (.int us_), .val (.int uc_), .val (.int vs_), .val (.int vc_), .val (.ref b67), .val (.ref b70), .val (.long ((Int32.toInt64 us_) - (Int32.toInt64 uc_))), .second, .val (.long ((Int32.toInt64 vs_) - (Int32.toInt64 vc_))), .second, .val (.int mv73)] [(.ref b70), (.ref b67)])) rfl (by rw [hml]; rfl) (Steps.refl _) (argsL := [(.ref b70)]) (rest := []) (lenOf pd_0__Lcom_example_planwright_planwright_cache_LiteralType__Z rfl) rfl (by show 2 * 0 + _ ≤ _; exact Nat.le_of_eq rfl) (hb hby at_275) (fun _ _ => ⟨rfl, e72, (by decide : 2 + 0 ≤ _), (by decide : 6 + 0 ≤ _)⟩)
    dsimp only [Pt.U, Pt.locs, Pt.cells, Pt.slots] at X81 l81 y81 z81 st81 hQ81 hS81 hle81 CR81
    subst l81 y81 z81
    obtain ⟨rfl, N81, KC81⟩ := hQ81
    have M81 := Fr.app N72 N81
    refine own_by (B := T81.setTop (mkF m 278 #[.val (.int ua), .val (.int ub), .val (.int uc), .val (.int ud), .val (.int ue), .val (.int uf), .val (.int (4 : Int32)), .val (.int ub_), .val (.int us_), .val (.int uc_), .val (.int vs_), .val (.int vc_), .val (.ref b67), .val (.ref b70), .val (.long ((Int32.toInt64 us_) - (Int32.toInt64 uc_))), .second, .val (.long ((Int32.toInt64 vs_) - (Int32.toInt64 vc_))), .second, .val (.int mv73)] [(.int (own_fitVARCHAR uk us_ uc_ vs_ vc_ a_INTEGER a_BIGINT a_DECIMAL a_DOUBLE a_VARCHAR))])) (fun _ k => st81.trans k) ?_
    refine own_by (B := T81.setTop (mkF m 280 #[.val (.int ua), .val (.int ub), .val (.int uc), .val (.int ud), .val (.int ue), .val (.int uf), .val (.int (4 : Int32)), .val (.int ub_), .val (.int us_), .val (.int uc_), .val (.int vs_), .val (.int vc_), .val (.ref b67), .val (.ref b70), .val (.long ((Int32.toInt64 us_) - (Int32.toInt64 uc_))), .second, .val (.long ((Int32.toInt64 vs_) - (Int32.toInt64 vc_))), .second, .val (.int mv73)] [(.int mv73), (.int (own_fitVARCHAR uk us_ uc_ vs_ vc_ a_INTEGER a_BIGINT a_DECIMAL a_DOUBLE a_VARCHAR))])) (fun _ k => XS.iload X81.here hx rfl (hb hby at_278) rfl  k) ?_
    refine own_by (B := T81.setTop (mkF m 283 #[.val (.int ua), .val (.int ub), .val (.int uc), .val (.int ud), .val (.int ue), .val (.int uf), .val (.int (4 : Int32)), .val (.int ub_), .val (.int us_), .val (.int uc_), .val (.int vs_), .val (.int vc_), .val (.ref b67), .val (.ref b70), .val (.long ((Int32.toInt64 us_) - (Int32.toInt64 uc_))), .second, .val (.long ((Int32.toInt64 vs_) - (Int32.toInt64 vc_))), .second, .val (.int mv73)] [])) (fun _ k => XS.icmpNo X81.here hx rfl (hb hby at_280) rfl (XT.ii_ne_f (by rw [huk]; exact own_lawVARCHAR hb0 hb1 hp1 hp2 hp3 hp4 hD hmv73)) k) ?_
    refine own_by (B := T81.setTop (mkF m 284 #[.val (.int ua), .val (.int ub), .val (.int uc), .val (.int ud), .val (.int ue), .val (.int uf), .val (.int (4 : Int32)), .val (.int ub_), .val (.int us_), .val (.int uc_), .val (.int vs_), .val (.int vc_), .val (.ref b67), .val (.ref b70), .val (.long ((Int32.toInt64 us_) - (Int32.toInt64 uc_))), .second, .val (.long ((Int32.toInt64 vs_) - (Int32.toInt64 vc_))), .second, .val (.int mv73)] [(.int (1 : Int32))])) (fun _ k => XS.iconst X81.here hx rfl (hb hby at_283) k) ?_
    refine own_by (B := T81.setTop (mkF m 288 #[.val (.int ua), .val (.int ub), .val (.int uc), .val (.int ud), .val (.int ue), .val (.int uf), .val (.int (4 : Int32)), .val (.int ub_), .val (.int us_), .val (.int uc_), .val (.int vs_), .val (.int vc_), .val (.ref b67), .val (.ref b70), .val (.long ((Int32.toInt64 us_) - (Int32.toInt64 uc_))), .second, .val (.long ((Int32.toInt64 vs_) - (Int32.toInt64 vc_))), .second, .val (.int mv73)] [(.int (1 : Int32))])) (fun _ k => XS.goto X81.here hx rfl (pc0 := 284) (pc' := 288) rfl (hb hby at_284) (by decide) (by decide) k) ?_
    exact own_retZL (s := s) X81 hx hS81 (Nat.le_refl _) hrt hlk rfl (hb hby at_288) (by decide) (by decide) ⟨rfl, M81⟩

set_option maxRecDepth 65536 in
set_option maxHeartbeats 40000000 in
theorem comes_1 {Post : Tables → Env → Array Value → State → Outcome → State → Prop} (hpost : ∀ tb e args s v u, (limb_1_1.after args s (.returned v) u = true ∧ limb_1_2.after args s (.returned v) u = true ∧ True) → ReturnedEndW s (.returned v) u (Jvm.fieldLocs frame_1_writes args s ++ Jvm.arrayLocs frame_1_arrays args s ++ Jvm.staticLocs frame_1_statics s) 16 2176 → Post tb e args s (.returned v) u) :
    ArmFor flags0 classFile x code maxLocals ret World_1 tables_1 room_1 Calls_1 rest_1 Pre_1 Post := by
  intro l hfl _ _ p e ha hc hk s m args below hf hA hF happ hP
  obtain ⟨hcalls, hrest, hpre⟩ := hP
  obtain ⟨-, -, -, hnamed, -, -, -, hat⟩ := (Spec.applies_iff hf).mp happ
  obtain ⟨hg, hn⟩ := and_e (Cond.before_iff.mp (show (Jvm.Cond.and given_1 narrow_1).before args s = true from hpre))
  obtain ⟨hg1a, hg1b⟩ := and_e hg
  obtain ⟨hg2a, hg2b⟩ := and_e hg1b
  obtain ⟨hg3a, hg3b⟩ := and_e hg2b
  obtain ⟨hg4a, hg4b⟩ := and_e hg3b
  obtain ⟨hg5a, hg5b⟩ := and_e hg4b
  obtain ⟨hg6a, hg6b⟩ := and_e hg5b
  obtain ⟨w0, w1, w2, w3, w4, w5, rfl⟩ : ∃ w0 w1 w2 w3 w4 w5 : Value, args = #[w0, w1, w2, w3, w4, w5] := by
    have hs : args.size = 6 := by simpa [Cond.value, given_1] using hg1a
    obtain ⟨L⟩ := args
    match L, hs with
    | [w0, w1, w2, w3, w4, w5], _ => exact ⟨w0, w1, w2, w3, w4, w5, rfl⟩
  have hw := fun d (hd : d ∈ tables_1) => atoms_spec (ws := Jvm.Cond.code x code maxLocals ret :: tables_1) hat d (List.mem_cons_of_mem _ hd)
  have hfit : Fit s := fun {y c} hc i hi => by
    obtain ⟨ha, rfl⟩ := Array.getElem?_eq_some_iff.mp hc
    have q := List.all_eq_true.mp ((Array.all_eq_true_iff_forall_mem.mp hF) _ (Array.getElem_mem ha)) i (List.mem_range.mpr hi)
    simpa [Array.getElem?_eq_getElem hi] using q
  obtain ⟨hsets, hown0⟩ := atoms_of _ (rest_1_c_eq ▸ (show rest_1_c.before _ s = true from hrest))
  have hr0 := Cond.before_iff.mp hown0
  obtain ⟨i0, ei0⟩ := is_v hg2a
  obtain rfl : w0 = (.int i0) := Option.some.inj ei0
  obtain ⟨i1, ei1⟩ := is_v hg3a
  obtain rfl : w1 = (.int i1) := Option.some.inj ei1
  obtain ⟨i2, ei2⟩ := is_v hg4a
  obtain rfl : w2 = (.int i2) := Option.some.inj ei2
  obtain ⟨i3, ei3⟩ := is_v hg5a
  obtain rfl : w3 = (.int i3) := Option.some.inj ei3
  obtain ⟨i4, ei4⟩ := is_v hg6a
  obtain rfl : w4 = (.int i4) := Option.some.inj ei4
  obtain ⟨i5, ei5⟩ := is_v hg6b
  obtain rfl : w5 = (.int i5) := Option.some.inj ei5
  obtain ⟨hn1a, hn1b⟩ := and_e hn
  obtain ⟨hn2a, hn2b⟩ := and_e hn1b
  obtain ⟨hn3a, hn3b⟩ := and_e hn2b
  obtain ⟨hn4a, hn4b⟩ := and_e hn3b
  obtain ⟨hn5a, hn5b⟩ := and_e hn4b
  obtain ⟨hn6a, hn6b⟩ := and_e hn5b
  obtain ⟨hn7a, hn7b⟩ := and_e hn6b
  obtain ⟨hn8a, hn8b⟩ := and_e hn7b
  obtain ⟨hn9a, hn9b⟩ := and_e hn8b
  obtain ⟨a_INTEGER, ev_INTEGER⟩ := exa_v hn1a
  have E_INTEGER : Exa s s.heap a_INTEGER "com/example/planwright/planwright/cache/LiteralType$Kind" := Exa.start ev_INTEGER hn1a
  have S_INTEGER : Sta s s.heap "com/example/planwright/planwright/cache/LiteralType$Kind" "INTEGER" "Lcom/example/planwright/planwright/cache/LiteralType$Kind;" (.ref a_INTEGER) := Sta.start ev_INTEGER (Or.inr ⟨(hw _ (List.mem_of_getElem? (i := 9) rfl)), (hw _ (List.mem_of_getElem? (i := 10) rfl))⟩)
  obtain ⟨a_BIGINT, ev_BIGINT⟩ := exa_v hn2a
  have E_BIGINT : Exa s s.heap a_BIGINT "com/example/planwright/planwright/cache/LiteralType$Kind" := Exa.start ev_BIGINT hn2a
  have S_BIGINT : Sta s s.heap "com/example/planwright/planwright/cache/LiteralType$Kind" "BIGINT" "Lcom/example/planwright/planwright/cache/LiteralType$Kind;" (.ref a_BIGINT) := Sta.start ev_BIGINT (Or.inr ⟨(hw _ (List.mem_of_getElem? (i := 9) rfl)), (hw _ (List.mem_of_getElem? (i := 29) rfl))⟩)
  obtain ⟨a_VARCHAR, ev_VARCHAR⟩ := exa_v hn5a
  have E_VARCHAR : Exa s s.heap a_VARCHAR "com/example/planwright/planwright/cache/LiteralType$Kind" := Exa.start ev_VARCHAR hn5a
  have S_VARCHAR : Sta s s.heap "com/example/planwright/planwright/cache/LiteralType$Kind" "VARCHAR" "Lcom/example/planwright/planwright/cache/LiteralType$Kind;" (.ref a_VARCHAR) := Sta.start ev_VARCHAR (Or.inr ⟨(hw _ (List.mem_of_getElem? (i := 9) rfl)), (hw _ (List.mem_of_getElem? (i := 47) rfl))⟩)
  obtain ⟨a_DECIMAL, ev_DECIMAL⟩ := exa_v hn6a
  have E_DECIMAL : Exa s s.heap a_DECIMAL "com/example/planwright/planwright/cache/LiteralType$Kind" := Exa.start ev_DECIMAL hn6a
  have S_DECIMAL : Sta s s.heap "com/example/planwright/planwright/cache/LiteralType$Kind" "DECIMAL" "Lcom/example/planwright/planwright/cache/LiteralType$Kind;" (.ref a_DECIMAL) := Sta.start ev_DECIMAL (Or.inr ⟨(hw _ (List.mem_of_getElem? (i := 9) rfl)), (hw _ (List.mem_of_getElem? (i := 49) rfl))⟩)
  obtain ⟨a_DOUBLE, ev_DOUBLE⟩ := exa_v hn9a
  have E_DOUBLE : Exa s s.heap a_DOUBLE "com/example/planwright/planwright/cache/LiteralType$Kind" := Exa.start ev_DOUBLE hn9a
  have S_DOUBLE : Sta s s.heap "com/example/planwright/planwright/cache/LiteralType$Kind" "DOUBLE" "Lcom/example/planwright/planwright/cache/LiteralType$Kind;" (.ref a_DOUBLE) := Sta.start ev_DOUBLE (Or.inr ⟨(hw _ (List.mem_of_getElem? (i := 9) rfl)), (hw _ (List.mem_of_getElem? (i := 52) rfl))⟩)
  have F_INTEGER_ordinal : Fld s s.heap a_INTEGER "java/lang/Enum" "ordinal" "I" (.int (0 : Int32)) := Fld.start ((fld_at ev_INTEGER).symm.trans (eqv_i (Term.int_eval _) hn3a))
  have F_BIGINT_ordinal : Fld s s.heap a_BIGINT "java/lang/Enum" "ordinal" "I" (.int (1 : Int32)) := Fld.start ((fld_at ev_BIGINT).symm.trans (eqv_i (Term.int_eval _) hn4a))
  have F_VARCHAR_ordinal : Fld s s.heap a_VARCHAR "java/lang/Enum" "ordinal" "I" (.int (4 : Int32)) := Fld.start ((fld_at ev_VARCHAR).symm.trans (eqv_i (Term.int_eval _) hn7a))
  have F_DECIMAL_ordinal : Fld s s.heap a_DECIMAL "java/lang/Enum" "ordinal" "I" (.int (2 : Int32)) := Fld.start ((fld_at ev_DECIMAL).symm.trans (eqv_i (Term.int_eval _) hn8a))
  have F_DOUBLE_ordinal : Fld s s.heap a_DOUBLE "java/lang/Enum" "ordinal" "I" (.int (3 : Int32)) := Fld.start ((fld_at ev_DOUBLE).symm.trans (eqv_i (Term.int_eval _) hn9b))
  obtain ⟨ucs, ev_CS⟩ := is_v (Cond.before_iff.mp (hsets _ (List.mem_of_getElem? (i := 1) rfl)))
  have S_CS : Sta s s.heap "java/lang/String" "COMPACT_STRINGS" "Z" (.int ucs) := Sta.start ev_CS (Or.inl (hsets _ (List.mem_of_getElem? (i := 0) rfl)))
  have H_CS : ¬ ucs = (0 : Int32) := own_ne0 ev_CS (not_v (Cond.before_iff.mp (hsets _ (List.mem_of_getElem? (i := 2) rfl))))
  have hEL : EW s _ own_EL := EW.cons (hw _ (List.mem_of_getElem? (i := 60) rfl)) (by decide) (EW.cons (hw _ (List.mem_of_getElem? (i := 82) rfl)) (by decide) EW.nil)
  have hCH : CHv s own_EL s.vm s.heap := CHv.start hEL (fun q hq => hcalls.1 q hq) (hsets _ (List.mem_of_getElem? (i := 2) rfl)) (hw _ (List.mem_of_getElem? (i := 63) rfl)) (hw _ (List.mem_of_getElem? (i := 62) rfl))
  obtain ⟨n, o, h1, h2, h3, _, L, rfl, ⟨rfl, N⟩, hq⟩ := rm0 l s _ hw tables_1 a_INTEGER a_BIGINT a_VARCHAR a_DECIMAL a_DOUBLE ucs i0 i1 i2 i3 i4 i5 s.heap s.heap.size (Nat.le_refl _) (Old.start s) ⟨S_INTEGER, E_INTEGER, S_BIGINT, E_BIGINT, S_VARCHAR, E_VARCHAR, S_DECIMAL, E_DECIMAL, S_DOUBLE, E_DOUBLE, F_INTEGER_ordinal, F_BIGINT_ordinal, F_VARCHAR_ordinal, F_DECIMAL_ordinal, F_DOUBLE_ordinal, S_CS, H_CS⟩ p e ha hc hk s m _ below hf ((Spec.applies_iff_loose hf).mp happ).1 ⟨rfl, State.Warmed39.refl s, rfl, hCH⟩ trivial
  refine ⟨n, _, h1, h2, h3, hpost _ _ _ _ _ _ ⟨Cond.after_iff.mpr rfl, Cond.after_iff.mpr (eq_i res_at (Term.int_eval (1)) rfl), trivial⟩ ⟨hq.1, hq.2.1, hq.2.2.1, (hq.2.2.2.sift fun y hy => Or.inr (N y hy)).mono (by decide) (by decide)⟩⟩
theorem main_1_1 : Claimed_1_1 := comes_1 fun _ _ _ _ _ _ h hF => ⟨h.1, hF⟩
theorem main_1_2 : Claimed_1_2 := comes_1 fun _ _ _ _ _ _ h hF => ⟨h.2.1, hF⟩
end Jvm.Pilot.@@N@@
namespace Jvm.Pilot.@@N@@
open Jvm Jvm.ClassFile Sem Op Lib Jvm.Free Jvm.Stand Jvm.Pilot.@@N@@.Jvm.D
/-! MADE BY PROGRAM (witnessworld.py) out of the Statement's table words and the real class files: 20 classes; the members and pool entries that the words name. The judged class is class 1, her method 2. -/
namespace start1
open Jvm.ClassFile
def u (s : String) : CpInfo := .utf8 (stringToUtf16 s)
/-- a pool by its gaps: so many unusable entries, then the entry; so many at the end -/
def gap : Nat → List CpInfo → List CpInfo
  | 0, r => r
  | n + 1, r => .unusable :: gap n r
def poolList (es : List (Nat × CpInfo)) (last : Nat) : List CpInfo := es.foldr (fun e r => gap e.1 (e.2 :: r)) (gap last [])
def pool (es : List (Nat × CpInfo)) (last : Nat) : Array CpInfo := ⟨poolList es last⟩
def fileOf (pool : Array CpInfo) (this : Nat) (attrs : Array Attribute := #[]) (ms : Array MethodInfo := #[]) (fl : Nat := 33) (sup : Nat := 0) (ifs : Array Nat := #[]) (fds : Array FieldInfo := #[]) : ClassFile where
  minorVersion := 0
  majorVersion := 65
  constantPool := pool
  accessFlags := fl
  thisClass := this
  superClass := sup
  interfaces := ifs
  fields := fds
  methods := ms
  attributes := attrs
def plain (name : String) (sup : Option ClassId) : Class where
  name := name
  kind := .ordinary
  loader := none
  accessFlags := 33
  super := sup
  interfaces := #[]
  cf := none
  fields := #[]
  methods := #[]
  instanceTypes := #[]
  staticTypes := #[]
  resolved := #[]
  callSites := []
  init := .initialized
  statics := none
  mirror := none

def pool0 : Array CpInfo := pool [(5, u "<init>"), (0, u "()V"), (1, .class_ 10), (1, u "java/lang/Object")] 113

def k0c0 : Code := { maxStack := 0, maxLocals := 1, code := object_method_1_code, exceptionTable := #[], attributes := #[] }
def k0m0 : Method := { name := "<init>", desc := "()V", sig := { parameters := [], returnType := none }, accessFlags := 1, code := some k0c0 }
/-- java/lang/Object -/
def k0 : Class := { plain "java/lang/Object" none with
  accessFlags := 33
  interfaces := #[]
  cf := some (fileOf pool0 8 #[] #[{ accessFlags := 1, nameIndex := 5, descriptorIndex := 6, attributes := #[] }] 33 0 #[] #[])
  fields := #[]
  methods := #[k0m0]
  instanceTypes := #[]
  staticTypes := #[]
  resolved := Array.replicate 124 none
  statics := none }

def pool1 : Array CpInfo := pool [(2, .class_ 4), (1, u "java/lang/Object"), (0, u "<init>"), (0, u "()V"), (0, .fieldref 8 9), (0, .class_ 10), (0, .nameAndType 11 12), (0, u "com/example/planwright/planwright/cache/LiteralType$Kind"), (0, u "INTEGER"), (0, u "Lcom/example/planwright/planwright/cache/LiteralType$Kind;"), (0, .fieldref 8 14), (0, .nameAndType 15 12), (0, u "BIGINT"), (0, .fieldref 8 17), (0, .nameAndType 18 12), (0, u "DECIMAL"), (0, .fieldref 8 20), (0, .nameAndType 21 12), (0, u "DOUBLE"), (0, .fieldref 8 23), (0, .nameAndType 24 12), (0, u "VARCHAR"), (0, .integer 2147483647), (0, .class_ 27), (0, u "com/example/planwright/planwright/cache/LiteralType"), (0, .methodref 29 30), (0, .class_ 31), (0, .nameAndType 32 33), (0, u "com/example/planwright/planwright/cache/LiteralTypeFitsPinLaw"), (0, u "kindOf"), (0, u "(I)Lcom/example/planwright/planwright/cache/LiteralType$Kind;"), (0, .methodref 26 35), (0, .nameAndType 5 36), (0, u "(Lcom/example/planwright/planwright/cache/LiteralType$Kind;II)V"), (0, .long 10), (1, .long 19), (1, .methodref 26 42), (0, .nameAndType 43 44), (0, u "fits"), (0, u "(Lcom/example/planwright/planwright/cache/LiteralType;)Z"), (3, u "law"), (0, u "(IIIIII)Z")] 4

def k1m0 : Method := { name := "<init>", desc := "()V", sig := { parameters := [], returnType := none }, accessFlags := 1, code := none }
def k1c1 : Code := { maxStack := 2, maxLocals := 1, code := method_2_code, exceptionTable := #[], attributes := #[] }
def k1m1 : Method := { name := "kindOf", desc := "(I)Lcom/example/planwright/planwright/cache/LiteralType$Kind;", sig := { parameters := [.int], returnType := some (.object "com/example/planwright/planwright/cache/LiteralType$Kind") }, accessFlags := 10, code := some k1c1 }
def k1c2 : Code := { maxStack := 5, maxLocals := 19, code := code, exceptionTable := #[], attributes := #[] }
def k1m2 : Method := { name := "law", desc := "(IIIIII)Z", sig := { parameters := [.int, .int, .int, .int, .int, .int], returnType := some .boolean }, accessFlags := 9, code := some k1c2 }
/-- com/example/planwright/planwright/cache/LiteralTypeFitsPinLaw -/
def k1 : Class := { plain "com/example/planwright/planwright/cache/LiteralTypeFitsPinLaw" (some 0) with
  accessFlags := 49
  interfaces := #[]
  cf := some (fileOf pool1 29 #[] #[{ accessFlags := 1, nameIndex := 5, descriptorIndex := 6, attributes := #[] }, { accessFlags := 10, nameIndex := 32, descriptorIndex := 33, attributes := #[] }, { accessFlags := 9, nameIndex := 48, descriptorIndex := 49, attributes := #[] }] 49 2 #[] #[])
  fields := #[]
  methods := #[k1m0, k1m1, k1m2]
  instanceTypes := #[]
  staticTypes := #[]
  resolved := Array.replicate 54 none
  statics := none }

def pool2 : Array CpInfo := pool [(1, .methodref 2 3), (0, .class_ 4), (0, .nameAndType 5 6), (0, u "java/lang/Object"), (0, u "<init>"), (0, u "()V"), (0, .class_ 8), (0, u "java/lang/Record")] 13

def k2c0 : Code := { maxStack := 1, maxLocals := 1, code := jdk_30_method_1_code, exceptionTable := #[], attributes := #[] }
def k2m0 : Method := { name := "<init>", desc := "()V", sig := { parameters := [], returnType := none }, accessFlags := 4, code := some k2c0 }
/-- java/lang/Record -/
def k2 : Class := { plain "java/lang/Record" (some 0) with
  accessFlags := 1057
  interfaces := #[]
  cf := some (fileOf pool2 7 #[] #[{ accessFlags := 4, nameIndex := 5, descriptorIndex := 6, attributes := #[] }] 1057 2 #[] #[])
  fields := #[]
  methods := #[k2m0]
  instanceTypes := #[]
  staticTypes := #[]
  resolved := Array.replicate 22 none
  statics := none }

def pool3 : Array CpInfo := pool [(1, .methodref 2 3), (0, .class_ 4), (0, .nameAndType 5 6), (0, u "java/lang/Record"), (0, u "<init>"), (0, u "()V"), (0, .fieldref 8 9), (0, .class_ 10), (0, .nameAndType 11 12), (0, u "com/example/planwright/planwright/cache/LiteralType"), (0, u "kind"), (0, u "Lcom/example/planwright/planwright/cache/LiteralType$Kind;"), (0, .fieldref 8 14), (0, .nameAndType 15 16), (0, u "size"), (0, u "I"), (0, .fieldref 8 18), (0, .nameAndType 19 16), (0, u "scale"), (1, .class_ 23), (1, u "java/lang/String"), (8, .fieldref 33 34), (0, .class_ 35), (0, .nameAndType 36 12), (0, u "com/example/planwright/planwright/cache/LiteralType$Kind"), (0, u "VARCHAR"), (2, u "length"), (3, u "(Lcom/example/planwright/planwright/cache/LiteralType$Kind;II)V"), (0, .fieldref 33 45), (0, .nameAndType 46 12), (0, u "DOUBLE"), (0, .methodref 21 48), (0, .nameAndType 39 49), (0, u "()I"), (0, .fieldref 33 51), (0, .nameAndType 52 12), (0, u "DECIMAL"), (8, .string 62), (0, u "2147483647"), (4, .fieldref 33 68), (0, .nameAndType 69 12), (0, u "INTEGER"), (0, .string 71), (0, u "9223372036854775807"), (0, .fieldref 33 73), (0, .nameAndType 74 12), (0, u "BIGINT"), (0, .methodref 33 76), (0, .nameAndType 77 49), (0, u "ordinal"), (5, .methodref 8 84), (0, .nameAndType 85 49), (0, u "wholeDigits"), (44, u "INTEGER_MAX"), (0, u "Ljava/lang/String;"), (1, u "BIGINT_MAX"), (6, u "fits"), (0, u "(Lcom/example/planwright/planwright/cache/LiteralType;)Z")] 36

def k3c0 : Code := { maxStack := 2, maxLocals := 4, code := prog_3_method_1_code, exceptionTable := #[], attributes := #[] }
def k3m0 : Method := { name := "<init>", desc := "(Lcom/example/planwright/planwright/cache/LiteralType$Kind;II)V", sig := { parameters := [(.object "com/example/planwright/planwright/cache/LiteralType$Kind"), .int, .int], returnType := none }, accessFlags := 0, code := some k3c0 }
def k3c1 : Code := { maxStack := 4, maxLocals := 2, code := prog_3_method_3_code, exceptionTable := #[], attributes := #[] }
def k3m1 : Method := { name := "fits", desc := "(Lcom/example/planwright/planwright/cache/LiteralType;)Z", sig := { parameters := [(.object "com/example/planwright/planwright/cache/LiteralType")], returnType := some .boolean }, accessFlags := 0, code := some k3c1 }
def k3c2 : Code := { maxStack := 2, maxLocals := 1, code := prog_3_method_5_code, exceptionTable := #[], attributes := #[] }
def k3m2 : Method := { name := "wholeDigits", desc := "()I", sig := { parameters := [], returnType := some .int }, accessFlags := 2, code := some k3c2 }
/-- com/example/planwright/planwright/cache/LiteralType -/
def k3 : Class := { plain "com/example/planwright/planwright/cache/LiteralType" (some 2) with
  accessFlags := 48
  interfaces := #[]
  cf := some (fileOf pool3 8 #[.nestMembers #[33]] #[{ accessFlags := 0, nameIndex := 5, descriptorIndex := 43, attributes := #[] }, { accessFlags := 0, nameIndex := 140, descriptorIndex := 141, attributes := #[] }, { accessFlags := 2, nameIndex := 85, descriptorIndex := 49, attributes := #[] }] 48 2 #[] #[{ accessFlags := 18, nameIndex := 11, descriptorIndex := 12, attributes := #[] }, { accessFlags := 18, nameIndex := 15, descriptorIndex := 16, attributes := #[] }, { accessFlags := 18, nameIndex := 19, descriptorIndex := 16, attributes := #[] }, { accessFlags := 26, nameIndex := 130, descriptorIndex := 131, attributes := #[] }, { accessFlags := 26, nameIndex := 133, descriptorIndex := 131, attributes := #[] }])
  fields := #[{ name := "kind", type := (.object "com/example/planwright/planwright/cache/LiteralType$Kind"), accessFlags := 18, slot := 0, constantValue := 0 }, { name := "size", type := .int, accessFlags := 18, slot := 1, constantValue := 0 }, { name := "scale", type := .int, accessFlags := 18, slot := 2, constantValue := 0 }, { name := "INTEGER_MAX", type := (.object "java/lang/String"), accessFlags := 26, slot := 0, constantValue := 0 }, { name := "BIGINT_MAX", type := (.object "java/lang/String"), accessFlags := 26, slot := 1, constantValue := 0 }]
  methods := #[k3m0, k3m1, k3m2]
  instanceTypes := #[(.object "com/example/planwright/planwright/cache/LiteralType$Kind"), .int, .int]
  staticTypes := #[(.object "java/lang/String"), (.object "java/lang/String")]
  resolved := Array.replicate 178 none
  statics := none }

def pool4 : Array CpInfo := pool [(1, .class_ 2), (0, u "java/lang/constant/Constable"), (0, .class_ 4), (0, u "java/lang/Object")] 6

/-- java/lang/constant/Constable -/
def k4 : Class := { plain "java/lang/constant/Constable" (some 0) with
  accessFlags := 1537
  interfaces := #[]
  cf := some (fileOf pool4 1 #[] #[] 1537 3 #[] #[])
  fields := #[]
  methods := #[]
  instanceTypes := #[]
  staticTypes := #[]
  resolved := Array.replicate 11 none
  statics := none }

def pool5 : Array CpInfo := pool [(1, .class_ 2), (0, u "java/lang/Comparable"), (0, .class_ 4), (0, u "java/lang/Object")] 7

/-- java/lang/Comparable -/
def k5 : Class := { plain "java/lang/Comparable" (some 0) with
  accessFlags := 1537
  interfaces := #[]
  cf := some (fileOf pool5 1 #[] #[] 1537 3 #[] #[])
  fields := #[]
  methods := #[]
  instanceTypes := #[]
  staticTypes := #[]
  resolved := Array.replicate 12 none
  statics := none }

def pool6 : Array CpInfo := pool [(1, .class_ 2), (0, u "java/io/Serializable"), (0, .class_ 4), (0, u "java/lang/Object")] 2

/-- java/io/Serializable -/
def k6 : Class := { plain "java/io/Serializable" (some 0) with
  accessFlags := 1537
  interfaces := #[]
  cf := some (fileOf pool6 1 #[] #[] 1537 3 #[] #[])
  fields := #[]
  methods := #[]
  instanceTypes := #[]
  staticTypes := #[]
  resolved := Array.replicate 7 none
  statics := none }

def pool7 : Array CpInfo := pool [(2, .class_ 4), (1, u "java/lang/Enum"), (0, u "name"), (0, u "Ljava/lang/String;"), (0, .fieldref 2 8), (0, .nameAndType 9 10), (0, u "ordinal"), (0, u "I"), (1, .class_ 14), (1, u "java/lang/Object"), (4, u "hash"), (86, .class_ 108), (1, u "java/lang/Enum$EnumDesc"), (2, .class_ 112), (0, u "java/lang/constant/Constable"), (0, .class_ 114), (0, u "java/lang/Comparable"), (0, .class_ 116), (0, u "java/io/Serializable"), (9, u "()I")] 77

def k7c0 : Code := { maxStack := 1, maxLocals := 1, code := jdk_37_method_2_code, exceptionTable := #[], attributes := #[] }
def k7m0 : Method := { name := "ordinal", desc := "()I", sig := { parameters := [], returnType := some .int }, accessFlags := 17, code := some k7c0 }
/-- java/lang/Enum -/
def k7 : Class := { plain "java/lang/Enum" (some 0) with
  accessFlags := 1057
  interfaces := #[4, 5, 6]
  cf := some (fileOf pool7 2 #[.nestMembers #[106]] #[{ accessFlags := 17, nameIndex := 9, descriptorIndex := 126, attributes := #[] }] 1057 12 #[111, 113, 115] #[{ accessFlags := 18, nameIndex := 5, descriptorIndex := 6, attributes := #[] }, { accessFlags := 18, nameIndex := 9, descriptorIndex := 10, attributes := #[] }, { accessFlags := 2, nameIndex := 19, descriptorIndex := 10, attributes := #[] }])
  fields := #[{ name := "name", type := (.object "java/lang/String"), accessFlags := 18, slot := 0, constantValue := 0 }, { name := "ordinal", type := .int, accessFlags := 18, slot := 1, constantValue := 0 }, { name := "hash", type := .int, accessFlags := 2, slot := 2, constantValue := 0 }]
  methods := #[k7m0]
  instanceTypes := #[(.object "java/lang/String"), .int, .int]
  staticTypes := #[]
  resolved := Array.replicate 204 none
  statics := none }

def pool8 : Array CpInfo := pool [(1, .class_ 2), (0, u "com/example/planwright/planwright/cache/LiteralType$Kind"), (2, u "INTEGER"), (0, u "Lcom/example/planwright/planwright/cache/LiteralType$Kind;"), (2, u "BIGINT"), (2, u "DECIMAL"), (2, u "DOUBLE"), (2, u "VARCHAR"), (2, u "$VALUES"), (0, u "[Lcom/example/planwright/planwright/cache/LiteralType$Kind;"), (6, .class_ 31), (1, u "java/lang/Enum"), (28, .class_ 61), (0, u "com/example/planwright/planwright/cache/LiteralType")] 2

/-- com/example/planwright/planwright/cache/LiteralType$Kind -/
def k8 : Class := { plain "com/example/planwright/planwright/cache/LiteralType$Kind" (some 7) with
  accessFlags := 16432
  interfaces := #[]
  cf := some (fileOf pool8 1 #[.nestHost 60] #[] 16432 29 #[] #[{ accessFlags := 16409, nameIndex := 5, descriptorIndex := 6, attributes := #[] }, { accessFlags := 16409, nameIndex := 9, descriptorIndex := 6, attributes := #[] }, { accessFlags := 16409, nameIndex := 12, descriptorIndex := 6, attributes := #[] }, { accessFlags := 16409, nameIndex := 15, descriptorIndex := 6, attributes := #[] }, { accessFlags := 16409, nameIndex := 18, descriptorIndex := 6, attributes := #[] }, { accessFlags := 4122, nameIndex := 21, descriptorIndex := 22, attributes := #[] }])
  fields := #[{ name := "INTEGER", type := (.object "com/example/planwright/planwright/cache/LiteralType$Kind"), accessFlags := 16409, slot := 0, constantValue := 0 }, { name := "BIGINT", type := (.object "com/example/planwright/planwright/cache/LiteralType$Kind"), accessFlags := 16409, slot := 1, constantValue := 0 }, { name := "DECIMAL", type := (.object "com/example/planwright/planwright/cache/LiteralType$Kind"), accessFlags := 16409, slot := 2, constantValue := 0 }, { name := "DOUBLE", type := (.object "com/example/planwright/planwright/cache/LiteralType$Kind"), accessFlags := 16409, slot := 3, constantValue := 0 }, { name := "VARCHAR", type := (.object "com/example/planwright/planwright/cache/LiteralType$Kind"), accessFlags := 16409, slot := 4, constantValue := 0 }, { name := "$VALUES", type := (.array (.object "com/example/planwright/planwright/cache/LiteralType$Kind")), accessFlags := 4122, slot := 5, constantValue := 0 }]
  methods := #[]
  instanceTypes := #[(.object "java/lang/String"), .int, .int]
  staticTypes := #[(.object "com/example/planwright/planwright/cache/LiteralType$Kind"), (.object "com/example/planwright/planwright/cache/LiteralType$Kind"), (.object "com/example/planwright/planwright/cache/LiteralType$Kind"), (.object "com/example/planwright/planwright/cache/LiteralType$Kind"), (.object "com/example/planwright/planwright/cache/LiteralType$Kind"), (.array (.object "com/example/planwright/planwright/cache/LiteralType$Kind"))]
  resolved := Array.replicate 64 none
  statics := some 0 }

def pool9 : Array CpInfo := pool [(2, .class_ 4), (1, u "java/lang/CharSequence"), (42, .class_ 48), (0, u "java/lang/CharSequence$1CodePointIterator"), (10, .class_ 60), (0, u "java/lang/CharSequence$1CharIterator"), (5, .class_ 67), (0, u "java/lang/Object")] 63

/-- java/lang/CharSequence -/
def k9 : Class := { plain "java/lang/CharSequence" (some 0) with
  accessFlags := 1537
  interfaces := #[]
  cf := some (fileOf pool9 2 #[.nestMembers #[47, 59]] #[] 1537 66 #[] #[])
  fields := #[]
  methods := #[]
  instanceTypes := #[]
  staticTypes := #[]
  resolved := Array.replicate 131 none
  statics := none }

def pool10 : Array CpInfo := pool [(1, .class_ 2), (0, u "java/lang/constant/ConstantDesc"), (0, .class_ 4), (0, u "java/lang/Object")] 32

/-- java/lang/constant/ConstantDesc -/
def k10 : Class := { plain "java/lang/constant/ConstantDesc" (some 0) with
  accessFlags := 1537
  interfaces := #[]
  cf := some (fileOf pool10 1 #[] #[] 1537 3 #[] #[])
  fields := #[]
  methods := #[]
  instanceTypes := #[]
  staticTypes := #[]
  resolved := Array.replicate 37 none
  statics := none }

def pool11 : Array CpInfo := pool [(2, .class_ 4), (1, u "java/lang/Object"), (0, u "<init>"), (0, u "()V"), (2, .fieldref 10 11), (0, .class_ 12), (0, .nameAndType 13 14), (0, u "java/lang/String"), (0, u "value"), (0, u "[B"), (0, .fieldref 10 16), (0, .nameAndType 17 18), (0, u "coder"), (0, u "B"), (2, u "hash"), (0, u "I"), (2, u "hashIsZero"), (0, u "Z"), (11, .fieldref 10 39), (0, .nameAndType 40 26), (0, u "COMPACT_STRINGS"), (293, u "()I"), (0, .methodref 10 336), (0, .nameAndType 17 337), (0, u "()B"), (169, u "length"), (67, .class_ 576), (0, u "java/lang/CharSequence"), (22, u "CASE_INSENSITIVE_ORDER"), (0, u "Ljava/util/Comparator;"), (500, u "serialPersistentFields"), (0, u "[Ljava/io/ObjectStreamField;"), (0, .class_ 1104), (0, u "java/lang/String$CaseInsensitiveComparator"), (1, .class_ 1107), (0, u "java/io/Serializable"), (0, .class_ 1109), (0, u "java/lang/Comparable"), (0, .class_ 1111), (0, u "java/lang/constant/Constable"), (0, .class_ 1113), (0, u "java/lang/constant/ConstantDesc"), (2, u "serialVersionUID"), (0, u "J"), (3, u "REPL"), (0, u "C"), (2, u "LATIN1"), (1, u "UTF16")] 323

def k11m0 : Method := { name := "<init>", desc := "()V", sig := { parameters := [], returnType := none }, accessFlags := 1, code := none }
def k11c1 : Code := { maxStack := 2, maxLocals := 1, code := jdk_42_method_54_code, exceptionTable := #[], attributes := #[] }
def k11m1 : Method := { name := "length", desc := "()I", sig := { parameters := [], returnType := some .int }, accessFlags := 1, code := some k11c1 }
def k11c2 : Code := { maxStack := 1, maxLocals := 1, code := jdk_42_method_152_code, exceptionTable := #[], attributes := #[] }
def k11m2 : Method := { name := "coder", desc := "()B", sig := { parameters := [], returnType := some .byte }, accessFlags := 0, code := some k11c2 }
/-- java/lang/String -/
def k11 : Class := { plain "java/lang/String" (some 0) with
  accessFlags := 49
  interfaces := #[6, 5, 9, 4, 10]
  cf := some (fileOf pool11 10 #[.nestMembers #[1103]] #[{ accessFlags := 1, nameIndex := 5, descriptorIndex := 6, attributes := #[] }, { accessFlags := 1, nameIndex := 507, descriptorIndex := 334, attributes := #[] }, { accessFlags := 0, nameIndex := 17, descriptorIndex := 337, attributes := #[] }] 49 2 #[1106, 1108, 575, 1110, 1112] #[{ accessFlags := 18, nameIndex := 13, descriptorIndex := 14, attributes := #[] }, { accessFlags := 18, nameIndex := 17, descriptorIndex := 18, attributes := #[] }, { accessFlags := 2, nameIndex := 21, descriptorIndex := 22, attributes := #[] }, { accessFlags := 2, nameIndex := 25, descriptorIndex := 26, attributes := #[] }, { accessFlags := 26, nameIndex := 1116, descriptorIndex := 1117, attributes := #[] }, { accessFlags := 24, nameIndex := 40, descriptorIndex := 26, attributes := #[] }, { accessFlags := 26, nameIndex := 1101, descriptorIndex := 1102, attributes := #[] }, { accessFlags := 26, nameIndex := 1121, descriptorIndex := 1122, attributes := #[] }, { accessFlags := 25, nameIndex := 599, descriptorIndex := 600, attributes := #[] }, { accessFlags := 24, nameIndex := 1125, descriptorIndex := 18, attributes := #[] }, { accessFlags := 24, nameIndex := 1127, descriptorIndex := 18, attributes := #[] }])
  fields := #[{ name := "value", type := (.array .byte), accessFlags := 18, slot := 0, constantValue := 0 }, { name := "coder", type := .byte, accessFlags := 18, slot := 1, constantValue := 0 }, { name := "hash", type := .int, accessFlags := 2, slot := 2, constantValue := 0 }, { name := "hashIsZero", type := .boolean, accessFlags := 2, slot := 3, constantValue := 0 }, { name := "serialVersionUID", type := .long, accessFlags := 26, slot := 0, constantValue := 0 }, { name := "COMPACT_STRINGS", type := .boolean, accessFlags := 24, slot := 1, constantValue := 0 }, { name := "serialPersistentFields", type := (.array (.object "java/io/ObjectStreamField")), accessFlags := 26, slot := 2, constantValue := 0 }, { name := "REPL", type := .char, accessFlags := 26, slot := 3, constantValue := 0 }, { name := "CASE_INSENSITIVE_ORDER", type := (.object "java/util/Comparator"), accessFlags := 25, slot := 4, constantValue := 0 }, { name := "LATIN1", type := .byte, accessFlags := 24, slot := 5, constantValue := 0 }, { name := "UTF16", type := .byte, accessFlags := 24, slot := 6, constantValue := 0 }]
  methods := #[k11m0, k11m1, k11m2]
  instanceTypes := #[(.array .byte), .byte, .int, .boolean]
  staticTypes := #[.long, .boolean, (.array (.object "java/io/ObjectStreamField")), .char, (.object "java/util/Comparator"), .byte, .byte]
  resolved := Array.replicate 1451 none
  statics := some 1 }

def pool12 : Array CpInfo := pool [(4, .class_ 6), (1, u "java/lang/Object"), (0, u "<init>"), (0, u "()V"), (5, .class_ 16), (1, u "java/lang/StringLatin1"), (104, u "$assertionsDisabled"), (0, u "Z"), (98, .class_ 223), (1, u "java/lang/StringLatin1$LinesSpliterator"), (166, .class_ 391), (0, u "java/lang/StringLatin1$CharsSpliterator")] 3

def k12m0 : Method := { name := "<init>", desc := "()V", sig := { parameters := [], returnType := none }, accessFlags := 0, code := none }
/-- java/lang/StringLatin1 -/
def k12 : Class := { plain "java/lang/StringLatin1" (some 0) with
  accessFlags := 48
  interfaces := #[]
  cf := some (fileOf pool12 14 #[.nestMembers #[390, 221]] #[{ accessFlags := 0, nameIndex := 7, descriptorIndex := 8, attributes := #[] }] 48 4 #[] #[{ accessFlags := 4120, nameIndex := 121, descriptorIndex := 122, attributes := #[] }])
  fields := #[{ name := "$assertionsDisabled", type := .boolean, accessFlags := 4120, slot := 0, constantValue := 0 }]
  methods := #[k12m0]
  instanceTypes := #[]
  staticTypes := #[.boolean]
  resolved := Array.replicate 395 none
  statics := none }

def pool13 : Array CpInfo := pool [(2, .class_ 4), (1, u "java/lang/Object"), (0, u "<init>"), (0, u "()V"), (17, .class_ 26), (1, u "jdk/internal/util/Preconditions"), (28, .class_ 56), (0, u "jdk/internal/util/Preconditions$4"), (57, .class_ 115), (0, u "jdk/internal/util/Preconditions$1"), (7, u "SIOOBE_FORMATTER"), (0, u "Ljava/util/function/BiFunction;"), (0, .class_ 126), (0, u "jdk/internal/util/Preconditions$2"), (3, u "AIOOBE_FORMATTER"), (0, .class_ 132), (0, u "jdk/internal/util/Preconditions$3"), (3, u "IOOBE_FORMATTER")] 57

def k13m0 : Method := { name := "<init>", desc := "()V", sig := { parameters := [], returnType := none }, accessFlags := 1, code := none }
/-- jdk/internal/util/Preconditions -/
def k13 : Class := { plain "jdk/internal/util/Preconditions" (some 0) with
  accessFlags := 33
  interfaces := #[]
  cf := some (fileOf pool13 24 #[.nestMembers #[55, 131, 125, 114]] #[{ accessFlags := 1, nameIndex := 5, descriptorIndex := 6, attributes := #[] }] 33 2 #[] #[{ accessFlags := 25, nameIndex := 123, descriptorIndex := 124, attributes := #[] }, { accessFlags := 25, nameIndex := 130, descriptorIndex := 124, attributes := #[] }, { accessFlags := 25, nameIndex := 136, descriptorIndex := 124, attributes := #[] }])
  fields := #[{ name := "SIOOBE_FORMATTER", type := (.object "java/util/function/BiFunction"), accessFlags := 25, slot := 0, constantValue := 0 }, { name := "AIOOBE_FORMATTER", type := (.object "java/util/function/BiFunction"), accessFlags := 25, slot := 1, constantValue := 0 }, { name := "IOOBE_FORMATTER", type := (.object "java/util/function/BiFunction"), accessFlags := 25, slot := 2, constantValue := 0 }]
  methods := #[k13m0]
  instanceTypes := #[]
  staticTypes := #[(.object "java/util/function/BiFunction"), (.object "java/util/function/BiFunction"), (.object "java/util/function/BiFunction")]
  resolved := Array.replicate 194 none
  statics := some 2 }

def pool14 : Array CpInfo := pool [(9, u "<init>"), (6, .class_ 18), (1, u "java/lang/Object"), (0, u "()V"), (1, .class_ 23), (1, u "jdk/internal/util/ArraysSupport"), (0, u "LOG2_ARRAY_LONG_INDEX_SCALE"), (0, u "I"), (2, u "U"), (0, u "Ljdk/internal/misc/Unsafe;"), (8, u "BIG_ENDIAN"), (0, u "Z"), (8, u "LOG2_BYTE_BIT_SIZE"), (4, u "LOG2_ARRAY_INT_INDEX_SCALE"), (54, u "JLA"), (0, u "Ljdk/internal/access/JavaLangAccess;"), (11, u "LOG2_ARRAY_BOOLEAN_INDEX_SCALE"), (9, u "LOG2_ARRAY_BYTE_INDEX_SCALE"), (5, u "LOG2_ARRAY_CHAR_INDEX_SCALE"), (5, u "LOG2_ARRAY_SHORT_INDEX_SCALE"), (18, u "LOG2_ARRAY_FLOAT_INDEX_SCALE"), (24, u "LOG2_ARRAY_DOUBLE_INDEX_SCALE"), (89, u "T_BOOLEAN"), (2, u "T_CHAR"), (1, u "T_FLOAT"), (1, u "T_DOUBLE"), (1, u "T_BYTE"), (1, u "T_SHORT"), (1, u "T_INT"), (1, u "T_LONG"), (1, u "SOFT_MAX_ARRAY_LENGTH")] 83

def k14m0 : Method := { name := "<init>", desc := "()V", sig := { parameters := [], returnType := none }, accessFlags := 2, code := none }
/-- jdk/internal/util/ArraysSupport -/
def k14 : Class := { plain "jdk/internal/util/ArraysSupport" (some 0) with
  accessFlags := 33
  interfaces := #[]
  cf := some (fileOf pool14 21 #[] #[{ accessFlags := 2, nameIndex := 9, descriptorIndex := 19, attributes := #[] }] 33 16 #[] #[{ accessFlags := 24, nameIndex := 28, descriptorIndex := 29, attributes := #[] }, { accessFlags := 26, nameIndex := 38, descriptorIndex := 39, attributes := #[] }, { accessFlags := 25, nameIndex := 121, descriptorIndex := 25, attributes := #[] }, { accessFlags := 25, nameIndex := 131, descriptorIndex := 25, attributes := #[] }, { accessFlags := 25, nameIndex := 137, descriptorIndex := 25, attributes := #[] }, { accessFlags := 25, nameIndex := 143, descriptorIndex := 25, attributes := #[] }, { accessFlags := 25, nameIndex := 53, descriptorIndex := 25, attributes := #[] }, { accessFlags := 25, nameIndex := 24, descriptorIndex := 25, attributes := #[] }, { accessFlags := 25, nameIndex := 162, descriptorIndex := 25, attributes := #[] }, { accessFlags := 25, nameIndex := 187, descriptorIndex := 25, attributes := #[] }, { accessFlags := 26, nameIndex := 48, descriptorIndex := 25, attributes := #[] }, { accessFlags := 25, nameIndex := 277, descriptorIndex := 25, attributes := #[] }, { accessFlags := 25, nameIndex := 280, descriptorIndex := 25, attributes := #[] }, { accessFlags := 25, nameIndex := 282, descriptorIndex := 25, attributes := #[] }, { accessFlags := 25, nameIndex := 284, descriptorIndex := 25, attributes := #[] }, { accessFlags := 25, nameIndex := 286, descriptorIndex := 25, attributes := #[] }, { accessFlags := 25, nameIndex := 288, descriptorIndex := 25, attributes := #[] }, { accessFlags := 25, nameIndex := 290, descriptorIndex := 25, attributes := #[] }, { accessFlags := 25, nameIndex := 292, descriptorIndex := 25, attributes := #[] }, { accessFlags := 26, nameIndex := 108, descriptorIndex := 109, attributes := #[] }, { accessFlags := 25, nameIndex := 294, descriptorIndex := 25, attributes := #[] }])
  fields := #[{ name := "U", type := (.object "jdk/internal/misc/Unsafe"), accessFlags := 24, slot := 0, constantValue := 0 }, { name := "BIG_ENDIAN", type := .boolean, accessFlags := 26, slot := 1, constantValue := 0 }, { name := "LOG2_ARRAY_BOOLEAN_INDEX_SCALE", type := .int, accessFlags := 25, slot := 2, constantValue := 0 }, { name := "LOG2_ARRAY_BYTE_INDEX_SCALE", type := .int, accessFlags := 25, slot := 3, constantValue := 0 }, { name := "LOG2_ARRAY_CHAR_INDEX_SCALE", type := .int, accessFlags := 25, slot := 4, constantValue := 0 }, { name := "LOG2_ARRAY_SHORT_INDEX_SCALE", type := .int, accessFlags := 25, slot := 5, constantValue := 0 }, { name := "LOG2_ARRAY_INT_INDEX_SCALE", type := .int, accessFlags := 25, slot := 6, constantValue := 0 }, { name := "LOG2_ARRAY_LONG_INDEX_SCALE", type := .int, accessFlags := 25, slot := 7, constantValue := 0 }, { name := "LOG2_ARRAY_FLOAT_INDEX_SCALE", type := .int, accessFlags := 25, slot := 8, constantValue := 0 }, { name := "LOG2_ARRAY_DOUBLE_INDEX_SCALE", type := .int, accessFlags := 25, slot := 9, constantValue := 0 }, { name := "LOG2_BYTE_BIT_SIZE", type := .int, accessFlags := 26, slot := 10, constantValue := 0 }, { name := "T_BOOLEAN", type := .int, accessFlags := 25, slot := 11, constantValue := 0 }, { name := "T_CHAR", type := .int, accessFlags := 25, slot := 12, constantValue := 0 }, { name := "T_FLOAT", type := .int, accessFlags := 25, slot := 13, constantValue := 0 }, { name := "T_DOUBLE", type := .int, accessFlags := 25, slot := 14, constantValue := 0 }, { name := "T_BYTE", type := .int, accessFlags := 25, slot := 15, constantValue := 0 }, { name := "T_SHORT", type := .int, accessFlags := 25, slot := 16, constantValue := 0 }, { name := "T_INT", type := .int, accessFlags := 25, slot := 17, constantValue := 0 }, { name := "T_LONG", type := .int, accessFlags := 25, slot := 18, constantValue := 0 }, { name := "JLA", type := (.object "jdk/internal/access/JavaLangAccess"), accessFlags := 26, slot := 19, constantValue := 0 }, { name := "SOFT_MAX_ARRAY_LENGTH", type := .int, accessFlags := 25, slot := 20, constantValue := 0 }]
  methods := #[k14m0]
  instanceTypes := #[]
  staticTypes := #[(.object "jdk/internal/misc/Unsafe"), .boolean, .int, .int, .int, .int, .int, .int, .int, .int, .int, .int, .int, .int, .int, .int, .int, .int, .int, (.object "jdk/internal/access/JavaLangAccess"), .int]
  resolved := Array.replicate 378 none
  statics := none }

def pool15 : Array CpInfo := pool [(1, u "java/lang/Cloneable"), (0, .class_ 1), (0, u "java/lang/Object"), (0, .class_ 3)] 3

/-- java/lang/Cloneable -/
def k15 : Class := { plain "java/lang/Cloneable" (some 0) with
  accessFlags := 1537
  interfaces := #[]
  cf := some (fileOf pool15 2 #[] #[] 1537 4 #[] #[])
  fields := #[]
  methods := #[]
  instanceTypes := #[]
  staticTypes := #[]
  resolved := Array.replicate 8 none
  statics := none }

/-- the primitive byte -/
def k16 : Class := { plain "byte" none with kind := .primitive 'B', accessFlags := 0x411 }
/-- [B -/
def k17 : Class := { plain "[B" (some 0) with kind := .array 16 .byte, interfaces := #[15, 6], accessFlags := 1041 }

/-- the primitive int -/
def k18 : Class := { plain "int" none with kind := .primitive 'I', accessFlags := 0x411 }
/-- [I -/
def k19 : Class := { plain "[I" (some 0) with kind := .array 18 .int, interfaces := #[15, 6], accessFlags := 1041 }

def heap : Heap := #[{ cls := 8, slots := #[.ref 3, .ref 4, .ref 6, .ref 7, .ref 5, .null], vm := .statics 8 },
  { cls := 11, slots := #[.long 0, .int 1, .null, .int 0, .null, .int 0, .int 0], vm := .statics 11 },
  { cls := 13, slots := #[.null, .null, .null], vm := .statics 13 },
  { cls := 8, slots := #[.null, .int 0, .int 0], vm := .none },
  { cls := 8, slots := #[.null, .int 1, .int 0], vm := .none },
  { cls := 8, slots := #[.null, .int 4, .int 0], vm := .none },
  { cls := 8, slots := #[.null, .int 2, .int 0], vm := .none },
  { cls := 8, slots := #[.null, .int 3, .int 0], vm := .none }]
def classes : Array Class := #[k0, k1, k2, k3, k4, k5, k6, k7, k8, k9, k10, k11, k12, k13, k14, k15, k16, k17, k18, k19]
def interned : List (Array UInt16 × Addr) := []
def slotsUsed : Nat := 31
def theMethod : MethodId := ⟨1, 2⟩
def args0 : Array Value := #[.int 5, .int 3, .int 7, .int 2, .int 4, .int 1]
def aboutOver (below : List Frame) : State where
  vm := { classes := classes, interned := interned.toArray }
  heap := heap
  slotsUsed := slotsUsed
  threads := #[{ frames := .invoking theMethod args0 :: below }]
def below0 : List Frame := [.native { method := ⟨0, 0⟩, args := #[] }]
def about1 : State := aboutOver below0
def p0 : Program := .bare "" "" ""
def e0 : Env := launch0.env 0 0 0
theorem w_frames : about1.frames = Frame.invoking theMethod args0 :: below0 := rfl
set_option maxRecDepth 65536 in
theorem w_args : argsFit about1.vm theMethod args0 = true := by decide +kernel
set_option maxRecDepth 65536 in
theorem w_heap : heapFits about1 = true := by decide +kernel
set_option maxRecDepth 65536 in
theorem w_runnable : about1.curStatus? = some .runnable := by decide +kernel
set_option maxRecDepth 65536 in
theorem w_alone : about1.alone = true := by decide +kernel
set_option maxRecDepth 65536 in
theorem w_named : about1.methodNamed? x = some theMethod := by decide +kernel
set_option maxRecDepth 65536 in
theorem w_hears : about1.hears theMethod below0 = true := by decide +kernel
set_option maxRecDepth 65536 in
theorem w_ripe : about1.ripe theMethod args0 below0 = true := by decide +kernel
theorem w_running : about1.status = .running := rfl
set_option maxRecDepth 65536 in
theorem w_room : about1.hasRoom e0.platform room_1 = true :=
  launch0.hasRoom_least _ room_1 (by decide +kernel) (by decide +kernel) (by decide +kernel) (by decide +kernel) (by decide +kernel) (by decide +kernel)
theorem allAtoms_all (ts : List Jvm.Cond) (a : Array Jvm.Value) (st : Jvm.State) : (allAtoms ts).before a st = ts.all (fun c => c.before a st) := by
  induction ts with
  | nil => rfl
  | cons c t ih =>
    show (Jvm.Cond.and c (allAtoms t)).before a st = _
    rw [Jvm.Cond.before_and, ih, List.all_cons]
def words1 : List Jvm.Cond := Jvm.Cond.code x code maxLocals ret :: tables_1
/-- a 'code' word, met by the world's own term for the bytes: nothing is compared byte by byte -/
theorem code_word {y : MethodName} {bytes : ByteArray} {mx : Nat} {rt : Option FieldType} {a : Array Value} {s : State} {m : MethodId} {meth : Method} {c : Code} (h1 : s.methodNamed? y = some m) (h2 : s.vm.method? m = some meth) (h3 : meth.code = some c) (h4 : c.code = bytes)
    (h5 : (c.maxLocals == mx && c.exceptionTable.isEmpty && decide (c.maxStack ≤ mostOperands) && decide (meth.sig.returnType = rt) && !meth.locks && decide (parseMethodDescriptor y.desc = some meth.sig)) = true) : (Jvm.Cond.code y bytes mx rt).before a s = true := by
  simp only [Bool.and_eq_true, beq_iff_eq, Bool.not_eq_true', decide_eq_true_eq] at h5
  obtain ⟨⟨⟨⟨⟨g1, g2⟩, g3⟩, g4⟩, g5⟩, g6⟩ := h5
  simp [Cond.before, Cond.holds, Cond.value, h1, h2, h3, h4, g1, g2, g3, g4, g5, g6]
def isCode : Jvm.Cond → Bool
  | .code _ _ _ _ => true
  | _ => false
theorem all_split {L : List Jvm.Cond} {P : Jvm.Cond → Bool} (h1 : L.all (fun c => isCode c || P c) = true) (h2 : ∀ c ∈ L.filter isCode, P c = true) : L.all P = true := by
  refine List.all_eq_true.mpr fun c hc => ?_
  have h := List.all_eq_true.mp h1 c hc
  rcases Bool.eq_false_or_eq_true (isCode c) with hi | hi
  · exact h2 c (List.mem_filter.mpr ⟨hc, hi⟩)
  · simpa [hi] using h
set_option maxRecDepth 65536 in
theorem w_c0 : (Jvm.Cond.code x code maxLocals ret).before args0 about1 = true := code_word (m := ⟨1, 2⟩) (meth := k1m2) (c := k1c2) (by decide +kernel) rfl rfl rfl (by decide +kernel)
set_option maxRecDepth 65536 in
theorem w_c1 : (Jvm.Cond.code ({ cls := "com/example/planwright/planwright/cache/LiteralTypeFitsPinLaw", name := "kindOf", desc := "(I)Lcom/example/planwright/planwright/cache/LiteralType$Kind;" } : Jvm.MethodName) method_2_code (1 : Nat) (Option.some (Jvm.ClassFile.FieldType.object "com/example/planwright/planwright/cache/LiteralType$Kind"))).before args0 about1 = true := code_word (m := ⟨1, 1⟩) (meth := k1m1) (c := k1c1) (by decide +kernel) rfl rfl rfl (by decide +kernel)
set_option maxRecDepth 65536 in
theorem w_c2 : (Jvm.Cond.code ({ cls := "com/example/planwright/planwright/cache/LiteralType", name := "<init>", desc := "(Lcom/example/planwright/planwright/cache/LiteralType$Kind;II)V" } : Jvm.MethodName) prog_3_method_1_code (4 : Nat) (Option.none : Option Jvm.ClassFile.FieldType)).before args0 about1 = true := code_word (m := ⟨3, 0⟩) (meth := k3m0) (c := k3c0) (by decide +kernel) rfl rfl rfl (by decide +kernel)
set_option maxRecDepth 65536 in
theorem w_c3 : (Jvm.Cond.code ({ cls := "java/lang/Record", name := "<init>", desc := "()V" } : Jvm.MethodName) jdk_30_method_1_code (1 : Nat) (Option.none : Option Jvm.ClassFile.FieldType)).before args0 about1 = true := code_word (m := ⟨2, 0⟩) (meth := k2m0) (c := k2c0) (by decide +kernel) rfl rfl rfl (by decide +kernel)
set_option maxRecDepth 65536 in
theorem w_c4 : (Jvm.Cond.code ({ cls := "java/lang/Object", name := "<init>", desc := "()V" } : Jvm.MethodName) object_method_1_code (1 : Nat) (Option.none : Option Jvm.ClassFile.FieldType)).before args0 about1 = true := code_word (m := ⟨0, 0⟩) (meth := k0m0) (c := k0c0) (by decide +kernel) rfl rfl rfl (by decide +kernel)
set_option maxRecDepth 65536 in
theorem w_c5 : (Jvm.Cond.code ({ cls := "com/example/planwright/planwright/cache/LiteralType", name := "fits", desc := "(Lcom/example/planwright/planwright/cache/LiteralType;)Z" } : Jvm.MethodName) prog_3_method_3_code (2 : Nat) (Option.some Jvm.ClassFile.FieldType.boolean)).before args0 about1 = true := code_word (m := ⟨3, 1⟩) (meth := k3m1) (c := k3c1) (by decide +kernel) rfl rfl rfl (by decide +kernel)
set_option maxRecDepth 65536 in
theorem w_c6 : (Jvm.Cond.code ({ cls := "java/lang/Enum", name := "ordinal", desc := "()I" } : Jvm.MethodName) jdk_37_method_2_code (1 : Nat) (Option.some Jvm.ClassFile.FieldType.int)).before args0 about1 = true := code_word (m := ⟨7, 0⟩) (meth := k7m0) (c := k7c0) (by decide +kernel) rfl rfl rfl (by decide +kernel)
set_option maxRecDepth 65536 in
theorem w_c7 : (Jvm.Cond.code ({ cls := "com/example/planwright/planwright/cache/LiteralType", name := "wholeDigits", desc := "()I" } : Jvm.MethodName) prog_3_method_5_code (1 : Nat) (Option.some Jvm.ClassFile.FieldType.int)).before args0 about1 = true := code_word (m := ⟨3, 2⟩) (meth := k3m2) (c := k3c2) (by decide +kernel) rfl rfl rfl (by decide +kernel)
set_option maxRecDepth 65536 in
theorem w_c8 : (Jvm.Cond.code ({ cls := "java/lang/String", name := "length", desc := "()I" } : Jvm.MethodName) jdk_42_method_54_code (1 : Nat) (Option.some Jvm.ClassFile.FieldType.int)).before args0 about1 = true := code_word (m := ⟨11, 1⟩) (meth := k11m1) (c := k11c1) (by decide +kernel) rfl rfl rfl (by decide +kernel)
set_option maxRecDepth 65536 in
theorem w_c9 : (Jvm.Cond.code ({ cls := "java/lang/String", name := "coder", desc := "()B" } : Jvm.MethodName) jdk_42_method_152_code (1 : Nat) (Option.some Jvm.ClassFile.FieldType.byte)).before args0 about1 = true := code_word (m := ⟨11, 2⟩) (meth := k11m2) (c := k11c2) (by decide +kernel) rfl rfl rfl (by decide +kernel)
def codes1 : List Jvm.Cond := [Jvm.Cond.code x code maxLocals ret, Jvm.Cond.code ({ cls := "com/example/planwright/planwright/cache/LiteralTypeFitsPinLaw", name := "kindOf", desc := "(I)Lcom/example/planwright/planwright/cache/LiteralType$Kind;" } : Jvm.MethodName) method_2_code (1 : Nat) (Option.some (Jvm.ClassFile.FieldType.object "com/example/planwright/planwright/cache/LiteralType$Kind")), Jvm.Cond.code ({ cls := "com/example/planwright/planwright/cache/LiteralType", name := "<init>", desc := "(Lcom/example/planwright/planwright/cache/LiteralType$Kind;II)V" } : Jvm.MethodName) prog_3_method_1_code (4 : Nat) (Option.none : Option Jvm.ClassFile.FieldType), Jvm.Cond.code ({ cls := "java/lang/Record", name := "<init>", desc := "()V" } : Jvm.MethodName) jdk_30_method_1_code (1 : Nat) (Option.none : Option Jvm.ClassFile.FieldType), Jvm.Cond.code ({ cls := "java/lang/Object", name := "<init>", desc := "()V" } : Jvm.MethodName) object_method_1_code (1 : Nat) (Option.none : Option Jvm.ClassFile.FieldType), Jvm.Cond.code ({ cls := "com/example/planwright/planwright/cache/LiteralType", name := "fits", desc := "(Lcom/example/planwright/planwright/cache/LiteralType;)Z" } : Jvm.MethodName) prog_3_method_3_code (2 : Nat) (Option.some Jvm.ClassFile.FieldType.boolean), Jvm.Cond.code ({ cls := "java/lang/Enum", name := "ordinal", desc := "()I" } : Jvm.MethodName) jdk_37_method_2_code (1 : Nat) (Option.some Jvm.ClassFile.FieldType.int), Jvm.Cond.code ({ cls := "com/example/planwright/planwright/cache/LiteralType", name := "wholeDigits", desc := "()I" } : Jvm.MethodName) prog_3_method_5_code (1 : Nat) (Option.some Jvm.ClassFile.FieldType.int), Jvm.Cond.code ({ cls := "java/lang/String", name := "length", desc := "()I" } : Jvm.MethodName) jdk_42_method_54_code (1 : Nat) (Option.some Jvm.ClassFile.FieldType.int), Jvm.Cond.code ({ cls := "java/lang/String", name := "coder", desc := "()B" } : Jvm.MethodName) jdk_42_method_152_code (1 : Nat) (Option.some Jvm.ClassFile.FieldType.byte)]
set_option maxRecDepth 65536 in
theorem codes_eq : words1.filter isCode = codes1 := rfl
theorem w_codes : ∀ c ∈ words1.filter isCode, c.before args0 about1 = true := by
  rw [codes_eq]
  intro c hc
  simp only [codes1, List.mem_cons, List.not_mem_nil, or_false] at hc
  rcases hc with rfl | rfl | rfl | rfl | rfl | rfl | rfl | rfl | rfl | rfl
  · exact w_c0
  · exact w_c1
  · exact w_c2
  · exact w_c3
  · exact w_c4
  · exact w_c5
  · exact w_c6
  · exact w_c7
  · exact w_c8
  · exact w_c9
set_option maxRecDepth 65536 in
theorem w_t1 : (words1.take 24).all (fun c => isCode c || c.before args0 about1) = true := by decide +kernel
set_option maxRecDepth 65536 in
theorem w_t2 : ((words1.drop 24).take 24).all (fun c => isCode c || c.before args0 about1) = true := by decide +kernel
set_option maxRecDepth 65536 in
theorem w_t3 : (((words1.drop 24).drop 24).take 24).all (fun c => isCode c || c.before args0 about1) = true := by decide +kernel
set_option maxRecDepth 65536 in
theorem w_t4 : (((words1.drop 24).drop 24).drop 24).all (fun c => isCode c || c.before args0 about1) = true := by decide +kernel
theorem w_tables : (allAtoms (Jvm.Cond.code x code maxLocals ret :: tables_1)).before args0 about1 = true := by
  rw [allAtoms_all]
  show words1.all (fun c => c.before args0 about1) = true
  refine all_split ?_ w_codes
  rw [← List.take_append_drop 24 words1, List.all_append, w_t1, ← List.take_append_drop 24 (words1.drop 24), List.all_append, w_t2, ← List.take_append_drop 24 ((words1.drop 24).drop 24), List.all_append, w_t3, w_t4]
  rfl
set_option maxRecDepth 65536 in
theorem w_rest : rest_1_c.before args0 about1 = true := by decide +kernel
set_option maxRecDepth 65536 in
theorem w_case : (Jvm.Cond.and given_1 narrow_1).before args0 about1 = true := by decide +kernel
set_option maxRecDepth 65536 in
theorem w_consts : constsHeld consts_1 about1 := Jvm.Lit.constsHeldB_iff.mp (by decide +kernel)
theorem w_applies : (headSpec (Jvm.Cond.code x code maxLocals ret :: tables_1) room_1).applies x e0.platform about1 = true :=
  (Spec.applies_iff w_frames).mpr ⟨w_running, w_runnable, w_alone, w_named, w_hears, w_ripe, w_room, w_tables⟩
theorem atStart : AtStart classFile x code maxLocals ret World_1 tables_1 room_1 Calls_1 rest_1 Pre_1 launch0 p0 e0 about1 theMethod args0 below0 :=
  ⟨lists_1, trivial, launch0.admits_env _ _ _, launch0.least_env, fairChoices_fair.cas, fairChoices_fair.clock, w_frames, w_args, w_heap, w_applies, ⟨w_consts, trivial⟩, w_rest, w_case⟩
end start1
theorem witness_1 : WitnessClaimed_1 := ⟨start1.p0, start1.e0, start1.about1, start1.theMethod, start1.args0, start1.below0, start1.atStart⟩
end Jvm.Pilot.@@N@@
