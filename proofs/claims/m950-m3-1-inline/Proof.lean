import JvmDerived
import JvmDerived.Pilot.@@N@@Statement
import JvmDerived.Pilot.@@N@@Code
set_option linter.unusedVariables false
set_option linter.unusedSimpArgs false

namespace Jvm.Pilot.@@N@@
open Jvm Jvm.ClassFile Sem Op Lib Jvm.Free Jvm.Stand Jvm.LawKit Jvm.RoadKit Bundle Jvm.Pilot.@@N@@.Jvm.D
/-! continuation style: from A the run comes to a state of which K holds -/
def own_Go (tb : Tables) (e : Env) (below : List Frame) (K : State → Prop) (A : State) : Prop := ∃ U, Steps tb e below A U ∧ K U
theorem own_by {tb : Tables} {e : Env} {below : List Frame} {K : State → Prop} {A B : State} (h : ∀ t, Steps tb e below B t → Steps tb e below A t) (k : own_Go tb e below K B) : own_Go tb e below K A := by
  obtain ⟨U, s, q⟩ := k; exact ⟨U, h U s, q⟩
def own_K (s : State) (below : List Frame) (Q : Option Value → Heap → List Loc → Prop) (kc ks : Nat) (U : State) : Prop :=
  ∃ v L, U.status = .running ∧ Ended U below (.returned v) ∧ Q v U.heap L ∧ FrameEnd s (.returned v) U L kc ks
theorem own_done {tb : Tables} {e : Env} {below : List Frame} {s A B : State} {Q : Option Value → Heap → List Loc → Prop} {kc ks : Nat} (h : ∀ t, Steps tb e below B t → Steps tb e below A t) (k : own_Go tb e below (own_K s below Q kc ks) B) :
    ∃ s₂ o, Steps tb e below A s₂ ∧ s₂.status = .running ∧ Ended s₂ below o ∧ ∃ v L, o = .returned v ∧ Q v s₂.heap L ∧ FrameEnd s o s₂ L kc ks := by
  obtain ⟨U, st, v, L, h1, h2, h3, h4⟩ := k
  exact ⟨U, _, h U st, h1, h2, v, L, rfl, h3, h4⟩
theorem own_ne {a b : Nat} (h : a < b ∨ b < a) : a ≠ b := by omega
theorem own_lt {a b : Nat} (h : a < b) : a < b := h
theorem own_hw {Ls : List Jvm.Cond} {a0 : Array Value} {Z : State} (i : Nat) {d : Jvm.Cond} (hw : ∀ d ∈ Ls, d.before a0 Z = true) (h : Ls[i]? = some d) : d.before a0 Z = true := hw _ (List.mem_of_getElem? h)
abbrev VI (x : Int32) : Slot := .val (.int x)
abbrev VR (x : Addr) : Slot := .val (.ref x)
abbrev UU : Slot := .unset
theorem own_cat1 (x : Int32) : Value.category (.int x) = 1 := rfl
theorem own_cat2 (x : Nat) : Value.category (.ref x) = 1 := rfl
theorem own_cat3 : Value.category .null = 1 := rfl
theorem own_cat4 (x : Int64) : Value.category (.long x) = 2 := rfl
section OwnRet
variable {p : Program} {l : Launch} {e : Env} {R : Room} {s : State} {m : MethodId} {args : Array Value} {below : List Frame} {meth : Method} {c : Code} {T : State} {locs : List Loc} {cells slots : Nat} {Q : Option Value → Heap → List Loc → Prop} {kc ks : Nat}
theorem own_retW (X : Stand p l e R s m args below meth c T locs cells slots) (hx : p.tables.exec = Jvm.exec) {pc : Nat} {Ls : Array Slot} {w : Value} {t : FieldType} {i : Instr} {rest : List Value} (hrt : meth.sig.returnType = some t) (hlk : meth.locks = false) (hn : narrow t w = w)
    (hi : (i = .ireturn ∧ (t = .int ∨ t = .boolean ∨ t = .byte ∨ t = .char ∨ t = .short) ∧ ∃ z, w = .int z) ∨ (i = .lreturn ∧ t = .long ∧ ∃ z, w = .long z) ∨ (i = .dreturn ∧ t = .double ∧ ∃ z, w = .double z) ∨ (i = .freturn ∧ t = .float ∧ ∃ z, w = .float z) ∨ (i = .areturn ∧ t.isReference = true ∧ w.isRef = true))
    (hd : decode c.code pc = .ok (i, 1)) (hc : cells ≤ kc) (hs : slots ≤ ks) (hq : Q (some w) T.heap locs) :
    own_Go p.tables e below (own_K s below Q kc ks) (T.setTop (mkF m pc Ls (w :: rest))) := by
  obtain ⟨fs, hr, hrun, hended, hW, hsame⟩ := X.leave (v := some w) (fun h => by rw [hrt] at h; cases h) hlk
  exact ⟨_, retOut X hx hrt hn hi hd hr, some w, locs, hrun, hended, hq, ⟨_, rfl⟩, hW, hsame.mono hc hs⟩
theorem own_retI (X : Stand p l e R s m args below meth c T locs cells slots) (hx : p.tables.exec = Jvm.exec) {pc : Nat} {Ls : Array Slot} {z : Int32} {rest : List Value} (hrt : meth.sig.returnType = some .int) (hlk : meth.locks = false)
    (hd : decode c.code pc = .ok (.ireturn, 1)) (hc : cells ≤ kc) (hs : slots ≤ ks) (hq : Q (some (.int z)) T.heap locs) :
    own_Go p.tables e below (own_K s below Q kc ks) (T.setTop (mkF m pc Ls (.int z :: rest))) :=
  own_retW X hx hrt hlk rfl (Or.inl ⟨rfl, Or.inl rfl, _, rfl⟩) hd hc hs hq
theorem own_retZ (X : Stand p l e R s m args below meth c T locs cells slots) (hx : p.tables.exec = Jvm.exec) {pc : Nat} {Ls : Array Slot} {z : Int32} {rest : List Value} (hrt : meth.sig.returnType = some .boolean) (hlk : meth.locks = false) (hn : narrow .boolean (.int z) = .int z)
    (hd : decode c.code pc = .ok (.ireturn, 1)) (hc : cells ≤ kc) (hs : slots ≤ ks) (hq : Q (some (.int z)) T.heap locs) :
    own_Go p.tables e below (own_K s below Q kc ks) (T.setTop (mkF m pc Ls (.int z :: rest))) :=
  own_retW X hx hrt hlk hn (Or.inl ⟨rfl, Or.inr (Or.inl rfl), _, rfl⟩) hd hc hs hq
theorem own_retJ (X : Stand p l e R s m args below meth c T locs cells slots) (hx : p.tables.exec = Jvm.exec) {pc : Nat} {Ls : Array Slot} {z : Int64} {rest : List Value} (hrt : meth.sig.returnType = some .long) (hlk : meth.locks = false)
    (hd : decode c.code pc = .ok (.lreturn, 1)) (hc : cells ≤ kc) (hs : slots ≤ ks) (hq : Q (some (.long z)) T.heap locs) :
    own_Go p.tables e below (own_K s below Q kc ks) (T.setTop (mkF m pc Ls (.long z :: rest))) :=
  own_retW X hx hrt hlk rfl (Or.inr (Or.inl ⟨rfl, rfl, _, rfl⟩)) hd hc hs hq
theorem own_retA (X : Stand p l e R s m args below meth c T locs cells slots) (hx : p.tables.exec = Jvm.exec) {pc : Nat} {Ls : Array Slot} {w : Value} {t : FieldType} {rest : List Value} (hrt : meth.sig.returnType = some t) (ht : t.isReference = true) (hw : w.isRef = true) (hlk : meth.locks = false)
    (hd : decode c.code pc = .ok (.areturn, 1)) (hc : cells ≤ kc) (hs : slots ≤ ks) (hq : Q (some w) T.heap locs) :
    own_Go p.tables e below (own_K s below Q kc ks) (T.setTop (mkF m pc Ls (w :: rest))) :=
  own_retW X hx hrt hlk (by rcases ref_cases hw with rfl | ⟨a, rfl⟩ <;> cases t <;> first | rfl | (cases ht)) (Or.inr (Or.inr (Or.inr (Or.inr ⟨rfl, ht, hw⟩)))) hd hc hs hq
theorem own_retV (X : Stand p l e R s m args below meth c T locs cells slots) (hx : p.tables.exec = Jvm.exec) {pc : Nat} {Ls : Array Slot} (hrt : meth.sig.returnType = none) (hlk : meth.locks = false)
    (hd : decode c.code pc = .ok (.return_, 1)) (hc : cells ≤ kc) (hs : slots ≤ ks) (hq : Q none T.heap locs) :
    own_Go p.tables e below (own_K s below Q kc ks) (T.setTop (mkF m pc Ls [])) := by
  obtain ⟨fs, hr, hrun, hended, hW, hsame⟩ := X.leave (v := none) (fun _ => rfl) hlk
  exact ⟨_, X.returnOut hx hrt hd hr, none, locs, hrun, hended, hq, ⟨_, rfl⟩, hW, hsame.mono hc hs⟩
theorem own_retB (X : Stand p l e R s m args below meth c T locs cells slots) (hx : p.tables.exec = Jvm.exec) {pc : Nat} {Ls : Array Slot} {z : Int32} {rest : List Value} (hrt : meth.sig.returnType = some .boolean) (hlk : meth.locks = false)
    (hd : decode c.code pc = .ok (.ireturn, 1)) (hc : cells ≤ kc) (hs : slots ≤ ks) (hq : Q (some (.int (z &&& (1 : Int32)))) T.heap locs) :
    own_Go p.tables e below (own_K s below Q kc ks) (T.setTop (mkF m pc Ls (.int z :: rest))) := by
  obtain ⟨fs, hr, hrun, hended, hW, hsame⟩ := X.leave (v := some (.int (nar .boolean z))) (fun h => by rw [hrt] at h; cases h) hlk
  exact ⟨_, retN X hx (t := .boolean) hrt (Or.inl rfl) hd hr, some (.int (nar .boolean z)), locs, hrun, hended, hq, ⟨_, rfl⟩, hW, hsame.mono hc hs⟩
end OwnRet
def own_P (r : Value) (h0 : Heap) (n0 : Nat) (v : Option Value) (h : Heap) (L : List Loc) : Prop := v = some r ∧ Fr n0 L ∧ h = h0
theorem own_selpriv {Z : State} {a0 : Array Value} {y : MethodName} {n : Nat} (wi : (Cond.instantiable y.cls n).before a0 Z = true) (wp : (Cond.privateMethod y).before a0 Z = true) (wm : (Cond.instanceMethod y).before a0 Z = true) (hy : y.cls ≠ "java/lang/invoke/MethodHandle" ∧ y.cls ≠ "java/lang/invoke/VarHandle") : (Cond.selects y.cls y y).before a0 Z = true := by
  obtain ⟨c, k, h1, h2, h3, h4, -⟩ := Cond.instantiable_spec wi
  exact selects_self_of_private h1 h2 (Bool.or_eq_false_iff.mp h4).1 (Cond.privateMethod_at wp) wm hy
theorem own_old_le {Z : State} {n0 : Nat} {h : Heap} (O : Old Z n0 h) : n0 ≤ h.size := by rw [← O.1]; exact O.2.1

def own_PV (h0 : Heap) (n0 : Nat) (v : Option Value) (h : Heap) (L : List Loc) : Prop := v = none ∧ Fr n0 L ∧ h = h0

def own_KH (Z : State) (EL : List (String × Nat)) (s : State) (below : List Frame) (Q : Option Value → Heap → List Loc → Prop) (kc ks : Nat) (U : State) : Prop :=
  ∃ v L, U.status = .running ∧ Ended U below (.returned v) ∧ Q v U.heap L ∧ CHr Z EL s.vm s.heap U.vm U.heap ∧ ReturnedEndW s (.returned v) U L kc ks
theorem own_doneH {Z : State} {EL : List (String × Nat)} {tb : Tables} {e : Env} {below : List Frame} {s A B : State} {Q : Option Value → Heap → List Loc → Prop} {kc ks : Nat} (h : ∀ t, Steps tb e below B t → Steps tb e below A t) (k : own_Go tb e below (own_KH Z EL s below Q kc ks) B) :
    ∃ s₂ o, Steps tb e below A s₂ ∧ s₂.status = .running ∧ Ended s₂ below o ∧ ∃ v L, o = .returned v ∧ Q v s₂.heap L ∧ CHr Z EL s.vm s.heap s₂.vm s₂.heap ∧ ReturnedEndW s o s₂ L kc ks := by
  obtain ⟨U, st, v, L, h1, h2, h3, h4, h5⟩ := k
  exact ⟨U, _, h U st, h1, h2, v, L, rfl, h3, h4, h5⟩
def own_KL (s : State) (below : List Frame) (Q : Option Value → Heap → List Loc → Prop) (kc ks : Nat) (U : State) : Prop :=
  ∃ v L, U.status = .running ∧ Ended U below (.returned v) ∧ Q v U.heap L ∧ ReturnedEndW s (.returned v) U L kc ks
theorem own_doneL {tb : Tables} {e : Env} {below : List Frame} {s A B : State} {Q : Option Value → Heap → List Loc → Prop} {kc ks : Nat} (h : ∀ t, Steps tb e below B t → Steps tb e below A t) (k : own_Go tb e below (own_KL s below Q kc ks) B) :
    ∃ s₂ o, Steps tb e below A s₂ ∧ s₂.status = .running ∧ Ended s₂ below o ∧ ∃ v L, o = .returned v ∧ Q v s₂.heap L ∧ ReturnedEndW s o s₂ L kc ks := by
  obtain ⟨U, st, v, L, h1, h2, h3, h5⟩ := k
  exact ⟨U, _, h U st, h1, h2, v, L, rfl, h3, h5⟩
theorem own_monoW {s t : State} {o : Outcome} {L : List Loc} {k n k' n' : Nat} (h : ReturnedEndW s o t L k n) (hk : k ≤ k') (hn : n ≤ n') : ReturnedEndW s o t L k' n' := ⟨h.1, h.2.1, h.2.2.1, h.2.2.2.mono hk hn⟩
section OwnRetH
variable {p : Program} {l : Launch} {e : Env} {R : Room} {s : State} {m : MethodId} {args : Array Value} {below : List Frame} {meth : Method} {c : Code} {T : State} {locs : List Loc} {cells slots : Nat} {Q : Option Value → Heap → List Loc → Prop} {kc ks : Nat} {Z : State} {EL : List (String × Nat)}
theorem own_retZH {vm1 : Vm} (X : Stand p l e R (s.setVm vm1) m args below meth c T locs cells slots) (hx : p.tables.exec = Jvm.exec) {k1 : Nat} (hS : s.Since vm1 k1) (hk : k1 ≤ T.heap.size) {pc : Nat} {Ls : Array Slot} {z : Int32} {rest : List Value} (hrt : meth.sig.returnType = some .boolean) (hlk : meth.locks = false) (hn : narrow .boolean (.int z) = .int z)
    (hd : decode c.code pc = .ok (.ireturn, 1)) (hc : cells ≤ kc) (hs : slots ≤ ks) (hC : CHr Z EL s.vm s.heap T.vm T.heap) (hq : Q (some (.int z)) T.heap locs) :
    own_Go p.tables e below (own_KH Z EL s below Q kc ks) (T.setTop (mkF m pc Ls (.int z :: rest))) := by
  obtain ⟨fs, hr, hrun, hended, hW⟩ := Jvm.Stand.leaveW X hS hk (v := some (.int z)) (fun h => by rw [hrt] at h; cases h) hlk
  exact ⟨_, retOut X hx hrt hn (Or.inl ⟨rfl, Or.inr (Or.inl rfl), _, rfl⟩) hd hr, some (.int z), locs, hrun, hended, hq, hC, own_monoW hW hc hs⟩
theorem own_retZN (X : Stand p l e R s m args below meth c T locs cells slots) (hx : p.tables.exec = Jvm.exec) {pc : Nat} {Ls : Array Slot} {z : Int32} {rest : List Value} (hrt : meth.sig.returnType = some .boolean) (hlk : meth.locks = false) (hn : narrow .boolean (.int z) = .int z)
    (hd : decode c.code pc = .ok (.ireturn, 1)) (hc : cells ≤ kc) (hs : slots ≤ ks) (hC : CHr Z EL s.vm s.heap T.vm T.heap) (hq : Q (some (.int z)) T.heap locs) :
    own_Go p.tables e below (own_KH Z EL s below Q kc ks) (T.setTop (mkF m pc Ls (.int z :: rest))) :=
  own_retZH (s := s) (vm1 := s.vm) X hx (k1 := 0) ((State.WarmedH.refl s).since 0) (Nat.zero_le _) hrt hlk hn hd hc hs hC hq
theorem own_retZL {vm1 : Vm} (X : Stand p l e R (s.setVm vm1) m args below meth c T locs cells slots) (hx : p.tables.exec = Jvm.exec) {k1 : Nat} (hS : s.Since vm1 k1) (hk : k1 ≤ T.heap.size) {pc : Nat} {Ls : Array Slot} {z : Int32} {rest : List Value} (hrt : meth.sig.returnType = some .boolean) (hlk : meth.locks = false) (hn : narrow .boolean (.int z) = .int z)
    (hd : decode c.code pc = .ok (.ireturn, 1)) (hc : cells ≤ kc) (hs : slots ≤ ks) (hq : Q (some (.int z)) T.heap locs) :
    own_Go p.tables e below (own_KL s below Q kc ks) (T.setTop (mkF m pc Ls (.int z :: rest))) := by
  obtain ⟨fs, hr, hrun, hended, hW⟩ := Jvm.Stand.leaveW X hS hk (v := some (.int z)) (fun h => by rw [hrt] at h; cases h) hlk
  exact ⟨_, retOut X hx hrt hn (Or.inl ⟨rfl, Or.inr (Or.inl rfl), _, rfl⟩) hd hr, some (.int z), locs, hrun, hended, hq, own_monoW hW hc hs⟩
end OwnRetH

theorem own_eqvR {Z : State} {args : Array Value} {X F : Term} {idx : List Nat} {a : Nat} (hF : F.eval args Z none idx Z = some (.ref a)) (h : (Cond.eq X F).value args Z none Z idx = some true) : X.eval args Z none idx Z = some (.ref a) := by
  simp only [Cond.value, hF] at h
  cases hX : X.eval args Z none idx Z with
  | none => simp [hX] at h
  | some x => cases x <;> simp [hX] at h ⊢; exact h
theorem own_len {Z : State} {args : Array Value} {t : Term} {a : Nat} {cl : Cell} {ty : FieldType} {z : Int32} (h : (Term.length t).eval args Z none [] Z = some (.int z)) (ht : t.eval args Z none [] Z = some (.ref a)) (A : Arr Z Z.heap a cl ty) : cl.slots.size < 2 ^ 31 ∧ cl.slots.size.toInt32 = z := by
  have e : Z.arrayAt? a = some cl := A.fin (U := Z) (Vm.Alike.refl _)
  simp only [Term.eval, ht, e, Option.bind_eq_bind, Option.bind_some] at h
  split at h
  · rename_i q; exact ⟨q, by simpa using h⟩
  · simp at h

theorem own_mod (x n : Int32) (hn : 0 < n.toInt) : 0 ≤ ((x &&& (2147483647 : Int32)) % n).toInt ∧ ((x &&& (2147483647 : Int32)) % n).toInt < n.toInt := by
  have h0 := (c_and x (2147483647 : Int32) (by decide)).1
  have h1 := (c_iremV (x &&& (2147483647 : Int32)) n).1 h0 hn
  exact ⟨h1.1, h1.2.1⟩

theorem own_enum5 {z : Int32} (h0 : 0 ≤ z.toInt) (h1 : z.toInt < 5) : z = (0 : Int32) ∨ z = (1 : Int32) ∨ z = (2 : Int32) ∨ z = (3 : Int32) ∨ z = (4 : Int32) := by
  have h : z.toInt = 0 ∨ z.toInt = 1 ∨ z.toInt = 2 ∨ z.toInt = 3 ∨ z.toInt = 4 := by omega
  rcases h with h | h | h | h | h
  · exact Or.inl (Int32.toInt_inj.mp (h.trans (by decide)))
  · exact Or.inr (Or.inl (Int32.toInt_inj.mp (h.trans (by decide))))
  · exact Or.inr (Or.inr (Or.inl (Int32.toInt_inj.mp (h.trans (by decide)))))
  · exact Or.inr (Or.inr (Or.inr (Or.inl (Int32.toInt_inj.mp (h.trans (by decide))))))
  · exact Or.inr (Or.inr (Or.inr (Or.inr ((Int32.toInt_inj.mp (h.trans (by decide)))))))

theorem own_selpriv2 {Z : State} {a0 : Array Value} {y : MethodName} {C : String} (ws : (Cond.selects C y y).before a0 Z = true) (wp : (Cond.privateMethod y).before a0 Z = true) (wm : (Cond.instanceMethod y).before a0 Z = true) (hy : y.cls ≠ "java/lang/invoke/MethodHandle" ∧ y.cls ≠ "java/lang/invoke/VarHandle") : (Cond.selects y.cls y y).before a0 Z = true := by
  obtain ⟨c2, r2, m2, q1, q2, q3, q4, kP, hkP, hkPi⟩ := Cond.selects_spec ws
  exact selects_self_of_private (findClass_of_methodNamed q3) hkP hkPi (Cond.privateMethod_at wp) wm hy
theorem own_clsOf {Z : State} {y w : MethodName} {m n : MethodId} (h : Z.methodNamed? y = some m) (h' : Z.methodNamed? w = some n) (e : y.cls = w.cls) : m.cls = n.cls := by
  have q := findClass_of_methodNamed h
  rw [e] at q
  exact Option.some.inj (q.symm.trans (findClass_of_methodNamed h'))
theorem own_nf {Z : State} {a0 : Array Value} {y w : MethodName} {C : String} (ws : (Cond.selects C w w).before a0 Z = true) (e : y.cls = w.cls) : NotFace Z y := fun r0 h0 => by
  obtain ⟨c2, r2, m2, q1, q2, q3, q4, kP, hkP, hkPi⟩ := Cond.selects_spec ws
  rw [own_clsOf h0 q3 e]
  exact ⟨kP, hkP, hkPi⟩
theorem own_sameM {Z : State} {a0 : Array Value} {y w : MethodName} {C : String} (wd : (Cond.declares y).before a0 Z = true) (ws : (Cond.selects C w w).before a0 Z = true) (e : y.cls = w.cls) (hy : y.cls ≠ "java/lang/invoke/MethodHandle" ∧ y.cls ≠ "java/lang/invoke/VarHandle") : (Cond.sameMethod y.cls y.cls y.name y.desc).before a0 Z = true := by
  obtain ⟨r0, rm, hn, hrm, hst, hsig⟩ := Cond.declares_spec wd
  obtain ⟨kr, hkr, hni⟩ := own_nf ws e r0 hn
  have hf := State.methodFound?_of_named hn hy
  have hc := findClass_of_methodNamed hn
  have hn' : Z.methodNamed? ⟨y.cls, y.name, y.desc⟩ = some r0 := hn
  simp [Cond.before, Cond.holds, Cond.value, hc, hf, hn', hkr, hni]
theorem own_dig {Z : State} {args a0 : Array Value} {a : Nat} {t : Term} (et : ∀ idx, t.eval args Z none idx Z = some (.ref a)) (hx : (Cond.exactly t "[B").value args Z none Z [] = some true) (hl : (Term.length t).eval args Z none [] Z = some (.int 100)) (wa : (Cond.arrayClass .byte).before a0 Z = true)
    (hA : (Cond.all t (Cond.eq (Term.elem t (Term.index 0)) (Term.add (Term.int 48) (Term.rem (Term.index 0) (Term.int 10))))).value args Z none Z [] = some true) : ∃ cl : Cell, Arr Z Z.heap a cl .byte ∧ cl.slots.size = 100 ∧ cl.slots[0]? = some (.int 48) := by
  obtain ⟨d', D', hev', harrAt, hlen⟩ := Term.length_spec hl
  cases (et []).symm.trans hev'
  obtain ⟨hcellD, hknD, -, -⟩ := State.arrayAt?_spec harrAt
  obtain ⟨cell, k, h1, h2, h3, h4, -⟩ := Exa.start (et []) hx
  cases h1.symm.trans hcellD
  obtain ⟨cB', kB', comp, hnameB, hkB', hkindB⟩ := Cond.arrayClass_spec wa
  have eBA : ("[" ++ FieldType.toString .byte) = "[B" := by decide
  rw [eBA] at hnameB
  have e1 : D'.cls = cB' := Option.some.inj (h2.symm.trans hnameB)
  have hlt : D'.slots.size < 2 ^ 31 ∧ D'.slots.size.toInt32 = 100 := by
    simp only [Term.eval, et, harrAt, Option.bind_eq_bind, Option.bind_some] at hl
    split at hl
    · rename_i q; exact ⟨q, by simpa using hl⟩
    · simp at hl
  have hsz : D'.slots.size = 100 := by
    have q := nat_of (j := D'.slots.size.toInt32) (by rw [hlt.2]; decide)
    have q2 := congrArg Int32.toInt hlt.2
    have q3 : (100 : Int32).toInt = 100 := by decide
    rw [q3] at q2
    have q4 : D'.slots.size.toInt32.toInt = D'.slots.size := Int32.toInt_ofNat_small hlt.1
    omega
  refine ⟨D', ⟨hcellD, ⟨(fun q h => by rw [h] at h4; cases h4), kB', (by rw [e1]; exact hkB'), comp, hkindB⟩, hknD⟩, hsz, ?_⟩
  have u := Cond.all_elim (et []) harrAt hA 0 (by omega)
  have e48 : (Term.add (Term.int 48) (Term.rem (Term.index 0) (Term.int 10))).eval args Z none [0] Z = some (.int 48) := by
    simp [Term.eval]; try decide
  have v := eqv_i e48 u
  have e0 : (Term.index 0).eval args Z none [0] Z = some (.int 0) := by simp [Term.eval]; rfl
  exact (elem_in v (et [0]) e0 hcellD).2
def own_DG (Z : State) (h : Heap) (a : Nat) : Prop := ∃ cl : Cell, Arr Z h a cl .byte ∧ cl.slots.size = 100 ∧ cl.slots[0]? = some (.int 48)
theorem own_DG.ext {Z : State} {h h' : Heap} {a : Nat} (D : own_DG Z h a) (E : Ext h h') : own_DG Z h' a := by
  obtain ⟨cl, A, r⟩ := D; exact ⟨cl, A.ext E, r⟩
theorem own_isRef {Z : State} {args : Array Value} {t : Term} (h : (Cond.isRef t).value args Z none Z [] = some true) : ∃ v, t.eval args Z none [] Z = some v ∧ v.isRef = true := by
  simp only [Cond.value] at h
  cases ht : t.eval args Z none [] Z with
  | none => simp [ht] at h
  | some v => exact ⟨v, rfl, by cases v <;> first | rfl | simp [ht] at h⟩
theorem own_ne0 {Z : State} {args : Array Value} {t : Term} {x : Int32} (e : t.eval args Z none [] Z = some (.int x)) (h : (Cond.eq t (.int 0)).value args Z none Z [] = some (!true)) : ¬ x = (0 : Int32) := by
  intro q; subst q; simp [Cond.value, e, Term.eval] at h
theorem own_lg {a b : Nat} (h : a ≠ b) : a < b ∨ b < a := by omega
theorem own_efV (m : MethodId) (x0 x1 : Int32) (x2 : Value) (h : x2.isRef = true) : entryFrame m #[(.int x0), (.int x1), x2] 3 = mkF m 0 #[VI x0, VI x1, .val x2] [] := by
  rcases ref_cases h with rfl | ⟨a, rfl⟩ <;> first | (simp [entryFrame, mkF, argsToLocals, Value.category]; done) | rfl
section OwnGetR
variable {p : Program} {l : Launch} {e : Env} {R : Room} {s Z : State} {m : MethodId} {args a0 : Array Value} {below : List Frame} {meth : Method} {c : Code} {T : State} {locs : List Loc} {cells slots : Nat} {h : Heap}
theorem own_getR (X : Stand p l e R s m args below meth c T locs cells slots) (hx : p.tables.exec = Jvm.exec) (hZ : Z.Warmed39 s.vm) {own n d R0 : String} {index : Nat} (hown : s.vm.findClass own = some m.cls) (w : (Cond.fieldRef own index R0 n d).before a0 Z = true) (eT : T.heap = h) {a : Nat} {v : Value} (F : Fld Z h a R0 n d v) {g : JFrame} (hg : g.method = m) {rest : List Value} (hs : g.stack = .ref a :: rest) (hd : decode c.code g.pc = .ok (.getfield index, 3)) (t : State)
    (hr : Steps p.tables e below (T.setTop { g with pc := g.pc + 3, stack := v :: rest }) t) : Steps p.tables e below (T.setTop g) t := by
  obtain ⟨cell, cf, k, i, f, h1, h2, h3, h4, -, -, h7⟩ := F
  have hT : Z.Warmed39 T.vm := wtrans hZ X.warmed
  obtain ⟨k', hi, -⟩ := State.fieldFound?_setVm (s := Z) hT.alike h2
  have hc : T.vm.findClass own = some m.cls := (X.warmed.alike.findClass _ _).trans hown
  obtain ⟨c', k'', i', f', hf, hready⟩ := Cond.fieldRef_spec (s := Z.setVm T.vm) hc (Cond.fieldRef_warmed39 hT w)
  cases hi.symm.trans hf
  subst hg
  jvm_step X.here [hx, hd, getfield.wp_ready (e := e) (s := T) (f := g) X.here.top hready h3 hs (by rw [eT]; exact h1) h4 h7]
  exact hr
end OwnGetR

def own_W (Z : State) (h : Heap) (a_INPUT_BIT a_OUTPUT_BIT a_OUTPUT_WORD a_INPUT_WORD a_MEMORY_WORD p_INPUT_BIT v_INPUT_BIT p_OUTPUT_WORD v_OUTPUT_WORD p_OUTPUT_BIT v_OUTPUT_BIT p_MEMORY_WORD v_MEMORY_WORD p_INPUT_WORD v_INPUT_WORD a_DigitOnes : Nat) (k_INPUT_BIT : ClassId) (k_OUTPUT_WORD : ClassId) (k_OUTPUT_BIT : ClassId) (k_MEMORY_WORD : ClassId) (k_INPUT_WORD : ClassId) (ucs : Int32) (uff : Value) : Prop := Sta Z h "com/example/hotrung/hotrung/image/Address$Area" "INPUT_BIT" "Lcom/example/hotrung/hotrung/image/Address$Area;" (.ref a_INPUT_BIT) ∧ Exa Z h a_INPUT_BIT "com/example/hotrung/hotrung/image/Address$Area" ∧ Sta Z h "com/example/hotrung/hotrung/image/Address$Area" "OUTPUT_BIT" "Lcom/example/hotrung/hotrung/image/Address$Area;" (.ref a_OUTPUT_BIT) ∧ Exa Z h a_OUTPUT_BIT "com/example/hotrung/hotrung/image/Address$Area" ∧ Sta Z h "com/example/hotrung/hotrung/image/Address$Area" "OUTPUT_WORD" "Lcom/example/hotrung/hotrung/image/Address$Area;" (.ref a_OUTPUT_WORD) ∧ Exa Z h a_OUTPUT_WORD "com/example/hotrung/hotrung/image/Address$Area" ∧ Sta Z h "com/example/hotrung/hotrung/image/Address$Area" "INPUT_WORD" "Lcom/example/hotrung/hotrung/image/Address$Area;" (.ref a_INPUT_WORD) ∧ Exa Z h a_INPUT_WORD "com/example/hotrung/hotrung/image/Address$Area" ∧ Sta Z h "com/example/hotrung/hotrung/image/Address$Area" "MEMORY_WORD" "Lcom/example/hotrung/hotrung/image/Address$Area;" (.ref a_MEMORY_WORD) ∧ Exa Z h a_MEMORY_WORD "com/example/hotrung/hotrung/image/Address$Area" ∧ Fld Z h a_INPUT_BIT "java/lang/Enum" "ordinal" "I" (.int 0) ∧ Fld Z h a_OUTPUT_BIT "java/lang/Enum" "ordinal" "I" (.int 1) ∧ Fld Z h a_OUTPUT_WORD "java/lang/Enum" "ordinal" "I" (.int 3) ∧ Fld Z h a_INPUT_WORD "java/lang/Enum" "ordinal" "I" (.int 2) ∧ Fld Z h a_MEMORY_WORD "java/lang/Enum" "ordinal" "I" (.int 4) ∧ Exa Z h p_INPUT_BIT "java/lang/String" ∧ Fld Z h a_INPUT_BIT "com/example/hotrung/hotrung/image/Address$Area" "prefix" "Ljava/lang/String;" (.ref p_INPUT_BIT) ∧ Fld Z h p_INPUT_BIT "java/lang/String" "value" "[B" (.ref v_INPUT_BIT) ∧ Fld Z h p_INPUT_BIT "java/lang/String" "coder" "B" (.int 0) ∧ Arv Z h v_INPUT_BIT k_INPUT_BIT .byte (3 : Int32) [(.int 37), (.int 73), (.int 88)] (.int 0) ∧ Exa Z h p_OUTPUT_WORD "java/lang/String" ∧ Fld Z h a_OUTPUT_WORD "com/example/hotrung/hotrung/image/Address$Area" "prefix" "Ljava/lang/String;" (.ref p_OUTPUT_WORD) ∧ Fld Z h p_OUTPUT_WORD "java/lang/String" "value" "[B" (.ref v_OUTPUT_WORD) ∧ Fld Z h p_OUTPUT_WORD "java/lang/String" "coder" "B" (.int 0) ∧ Arv Z h v_OUTPUT_WORD k_OUTPUT_WORD .byte (3 : Int32) [(.int 37), (.int 81), (.int 87)] (.int 0) ∧ Exa Z h p_OUTPUT_BIT "java/lang/String" ∧ Fld Z h a_OUTPUT_BIT "com/example/hotrung/hotrung/image/Address$Area" "prefix" "Ljava/lang/String;" (.ref p_OUTPUT_BIT) ∧ Fld Z h p_OUTPUT_BIT "java/lang/String" "value" "[B" (.ref v_OUTPUT_BIT) ∧ Fld Z h p_OUTPUT_BIT "java/lang/String" "coder" "B" (.int 0) ∧ Arv Z h v_OUTPUT_BIT k_OUTPUT_BIT .byte (3 : Int32) [(.int 37), (.int 81), (.int 88)] (.int 0) ∧ Exa Z h p_MEMORY_WORD "java/lang/String" ∧ Fld Z h a_MEMORY_WORD "com/example/hotrung/hotrung/image/Address$Area" "prefix" "Ljava/lang/String;" (.ref p_MEMORY_WORD) ∧ Fld Z h p_MEMORY_WORD "java/lang/String" "value" "[B" (.ref v_MEMORY_WORD) ∧ Fld Z h p_MEMORY_WORD "java/lang/String" "coder" "B" (.int 0) ∧ Arv Z h v_MEMORY_WORD k_MEMORY_WORD .byte (3 : Int32) [(.int 37), (.int 77), (.int 87)] (.int 0) ∧ Exa Z h p_INPUT_WORD "java/lang/String" ∧ Fld Z h a_INPUT_WORD "com/example/hotrung/hotrung/image/Address$Area" "prefix" "Ljava/lang/String;" (.ref p_INPUT_WORD) ∧ Fld Z h p_INPUT_WORD "java/lang/String" "value" "[B" (.ref v_INPUT_WORD) ∧ Fld Z h p_INPUT_WORD "java/lang/String" "coder" "B" (.int 0) ∧ Arv Z h v_INPUT_WORD k_INPUT_WORD .byte (3 : Int32) [(.int 37), (.int 73), (.int 87)] (.int 0) ∧ Sta Z h "java/lang/String" "COMPACT_STRINGS" "Z" (.int ucs) ∧ ¬ ucs = (0 : Int32) ∧ Sta Z h "jdk/internal/util/Preconditions" "SIOOBE_FORMATTER" "Ljava/util/function/BiFunction;" uff ∧ uff.isRef = true ∧ Sta Z h "java/lang/Integer" "DigitOnes" "[B" (.ref a_DigitOnes) ∧ own_DG Z h a_DigitOnes

def own_Q_rmCoder1 (Z : State) (ua : Nat) (ub : Nat) (kb : ClassId) (ux0 : Int32) (h0 : Heap) (n0 : Nat) (v : Option Value) (h : Heap) (L : List Loc) : Prop := v = some (.int 0) ∧ Fr n0 L ∧ Keep h0 h []

theorem d12_0 : decode jdk_42_method_152_code 0 = .ok (.getstatic 38, 3) := by decide +kernel
theorem d12_3 : decode jdk_42_method_152_code 3 = .ok (.ifCond .eq 10, 3) := by decide +kernel
theorem d12_6 : decode jdk_42_method_152_code 6 = .ok (.aload_n 0, 1) := by decide +kernel
theorem d12_7 : decode jdk_42_method_152_code 7 = .ok (.getfield 15, 3) := by decide +kernel
theorem d12_10 : decode jdk_42_method_152_code 10 = .ok (.goto 4, 3) := by decide +kernel
theorem d12_14 : decode jdk_42_method_152_code 14 = .ok (.ireturn, 1) := by decide +kernel
theorem pn_rmCoder1 : plainFor (⟨"java/lang/String", "coder", "()B"⟩ : MethodName) = true := by first | exact plainFor_of_name (by first | (simp [plainName, overriddenIn]; done) | decide +kernel) | exact Jvm.Free.JP.mathPlain rfl (by decide +kernel) | decide +kernel
theorem ef_rmCoder1 (m : MethodId) (x0 : Nat) : entryFrame m #[(.ref x0)] 1 = mkF m 0 #[VR x0] [] := by first | (simp [entryFrame, mkF, argsToLocals, Value.category]; done) | rfl
set_option maxRecDepth 65536 in
set_option maxHeartbeats 40000000 in
theorem rmCoder1 (l : Launch) (Z : State) (a0 : Array Value) (hw : ∀ d ∈ tables_1, d.before a0 Z = true) (ws : List Jvm.Cond) (a_INPUT_BIT a_OUTPUT_BIT a_OUTPUT_WORD a_INPUT_WORD a_MEMORY_WORD p_INPUT_BIT v_INPUT_BIT p_OUTPUT_WORD v_OUTPUT_WORD p_OUTPUT_BIT v_OUTPUT_BIT p_MEMORY_WORD v_MEMORY_WORD p_INPUT_WORD v_INPUT_WORD a_DigitOnes : Nat) (k_INPUT_BIT : ClassId) (k_OUTPUT_WORD : ClassId) (k_OUTPUT_BIT : ClassId) (k_MEMORY_WORD : ClassId) (k_INPUT_WORD : ClassId) (ucs : Int32) (uff : Value) (ua : Nat) (ub : Nat) (kb : ClassId) (ux0 : Int32) (h0 : Heap) (n0 : Nat) (Z0 : n0 ≤ h0.size) (O0 : Old Z n0 h0) (HW : own_W Z Z.heap a_INPUT_BIT a_OUTPUT_BIT a_OUTPUT_WORD a_INPUT_WORD a_MEMORY_WORD p_INPUT_BIT v_INPUT_BIT p_OUTPUT_WORD v_OUTPUT_WORD p_OUTPUT_BIT v_OUTPUT_BIT p_MEMORY_WORD v_MEMORY_WORD p_INPUT_WORD v_INPUT_WORD a_DigitOnes k_INPUT_BIT k_OUTPUT_WORD k_OUTPUT_BIT k_MEMORY_WORD k_INPUT_WORD ucs uff) (E_ua : Exa Z h0 ua "java/lang/String") (F_ua_value : Fld Z h0 ua "java/lang/String" "value" "[B" (.ref ub)) (F_ua_coder : Fld Z h0 ua "java/lang/String" "coder" "B" (.int 0)) (V_ub : Arv Z h0 ub kb .byte (1 : Int32) [(.int ux0)] (.int 0))   :
    MetFree l (⟨"java/lang/String", "coder", "()B"⟩ : MethodName) (head1 (Jvm.Cond.code (⟨"java/lang/String", "coder", "()B"⟩ : MethodName) jdk_42_method_152_code 1 (some .byte) :: ws) ({ frames := 0, cells := 0, slots := 0, locals := 0 } : Room)) (fun a U => a = #[(.ref ua)] ∧ Z.Warmed39 U.vm ∧ U.heap = h0) (fun _ _ _ _ _ => True) (fun _ U o U' => ∃ v L, o = .returned v ∧ (own_Q_rmCoder1 Z ua ub kb ux0 h0 n0) v U'.heap L ∧ FrameEnd U o U' L 0 0) := by
  refine MetFree.of_bodySF pn_rmCoder1 hisR ?_
  intro p e s m args below meth c s₁ Bd hml0 hP hK
  obtain ⟨rfl, hZ, hh⟩ := hP
  have hx := Bd.exec
  have hby := Bd.bytes
  have hml : c.maxLocals = 1 := hml0
  have hown : s.vm.findClass "java/lang/String" = some m.cls := findClass_of_methodNamed Bd.named
  have hnm := (name_of_methodNamed Bd.named Bd.method).1
  have hrt := Bd.returns
  have hlk := Bd.notSynchronized
  have X0 : Stand p l e ({ frames := 0, cells := 0, slots := 0, locals := 0 } : Room) s m #[(.ref ua)] below meth c s₁ [] 0 0 := Stand.of_body Bd
  have e0 : s₁.heap = h0 := by rw [← hh, Bd.state]; rfl
  have N0 := Fr.nil n0
  have K0 := Keep.refl h0 []
  have HW' := HW
  obtain ⟨-, -, -, -, -, -, -, -, -, -, -, -, -, -, -, -, -, -, -, -, -, -, -, -, -, -, -, -, -, -, -, -, -, -, -, -, -, -, -, -, S_CS, H_CS, -, -, -, -⟩ := HW'
  have lt_E_ua := own_lt E_ua.lt
  have lt_V_ub := own_lt V_ub.lt
  have nl_ua_ub := own_lg (Exa.neArv E_ua V_ub (own_hw 134 hw rfl))
  refine own_done (B := s₁.setTop (mkF m 0 #[VR ua] [])) (fun t k => castTop (ef_rmCoder1 m ua) k) ?_
  obtain ⟨T1, X1, e1, st1⟩ := getS2 X0 hx hZ hown (host := "") (Or.inl (own_hw 81 hw rfl)) Via.refl e0 (S_CS.ext O0.2) (g := (mkF m 0 #[VR ua] [])) rfl (hb hby d12_0)
  refine own_by (B := T1.setTop (mkF m 3 #[VR ua] [(.int ucs)])) st1 ?_
  refine own_by (B := T1.setTop (mkF m 6 #[VR ua] [])) (fun _ k => XS.ifNo X1.here hx rfl (hb hby d12_3) rfl (XT.i0_eq_f H_CS) k) ?_
  refine own_by (B := T1.setTop (mkF m 7 #[VR ua] [(.ref ua)])) (fun _ k => XS.aloadN X1.here hx rfl (hb hby d12_6) rfl rfl  k) ?_
  obtain ⟨T2, X2, e2, st2⟩ := getF X1 hx hZ hown (host := "") (Or.inl (own_hw 82 hw rfl)) Via.refl e1 F_ua_coder (g := (mkF m 7 #[VR ua] [(.ref ua)])) rfl rfl (hb hby d12_7)
  refine own_by (B := T2.setTop (mkF m 10 #[VR ua] [(.int 0)])) st2 ?_
  refine own_by (B := T2.setTop (mkF m 14 #[VR ua] [(.int 0)])) (fun _ k => XS.goto X2.here hx rfl (pc0 := 10) (pc' := 14) rfl (hb hby d12_10) (by decide) (by decide) k) ?_
  exact own_retW X2 hx hrt hlk rfl (Or.inl ⟨rfl, by simp, _, rfl⟩) (hb hby d12_14) (by decide) (by decide) (by show own_Q_rmCoder1 Z ua ub kb ux0 h0 n0 _ T2.heap _; rw [e2]; exact ⟨rfl, N0, K0⟩)

def own_Q_rmCoder3 (Z : State) (ua : Nat) (ub : Nat) (kb : ClassId) (ux0 : Int32) (ux1 : Int32) (ux2 : Int32) (h0 : Heap) (n0 : Nat) (v : Option Value) (h : Heap) (L : List Loc) : Prop := v = some (.int 0) ∧ Fr n0 L ∧ Keep h0 h []

theorem pn_rmCoder3 : plainFor (⟨"java/lang/String", "coder", "()B"⟩ : MethodName) = true := by first | exact plainFor_of_name (by first | (simp [plainName, overriddenIn]; done) | decide +kernel) | exact Jvm.Free.JP.mathPlain rfl (by decide +kernel) | decide +kernel
theorem ef_rmCoder3 (m : MethodId) (x0 : Nat) : entryFrame m #[(.ref x0)] 1 = mkF m 0 #[VR x0] [] := by first | (simp [entryFrame, mkF, argsToLocals, Value.category]; done) | rfl
set_option maxRecDepth 65536 in
set_option maxHeartbeats 40000000 in
theorem rmCoder3 (l : Launch) (Z : State) (a0 : Array Value) (hw : ∀ d ∈ tables_1, d.before a0 Z = true) (ws : List Jvm.Cond) (a_INPUT_BIT a_OUTPUT_BIT a_OUTPUT_WORD a_INPUT_WORD a_MEMORY_WORD p_INPUT_BIT v_INPUT_BIT p_OUTPUT_WORD v_OUTPUT_WORD p_OUTPUT_BIT v_OUTPUT_BIT p_MEMORY_WORD v_MEMORY_WORD p_INPUT_WORD v_INPUT_WORD a_DigitOnes : Nat) (k_INPUT_BIT : ClassId) (k_OUTPUT_WORD : ClassId) (k_OUTPUT_BIT : ClassId) (k_MEMORY_WORD : ClassId) (k_INPUT_WORD : ClassId) (ucs : Int32) (uff : Value) (ua : Nat) (ub : Nat) (kb : ClassId) (ux0 : Int32) (ux1 : Int32) (ux2 : Int32) (h0 : Heap) (n0 : Nat) (Z0 : n0 ≤ h0.size) (O0 : Old Z n0 h0) (HW : own_W Z Z.heap a_INPUT_BIT a_OUTPUT_BIT a_OUTPUT_WORD a_INPUT_WORD a_MEMORY_WORD p_INPUT_BIT v_INPUT_BIT p_OUTPUT_WORD v_OUTPUT_WORD p_OUTPUT_BIT v_OUTPUT_BIT p_MEMORY_WORD v_MEMORY_WORD p_INPUT_WORD v_INPUT_WORD a_DigitOnes k_INPUT_BIT k_OUTPUT_WORD k_OUTPUT_BIT k_MEMORY_WORD k_INPUT_WORD ucs uff) (E_ua : Exa Z h0 ua "java/lang/String") (F_ua_value : Fld Z h0 ua "java/lang/String" "value" "[B" (.ref ub)) (F_ua_coder : Fld Z h0 ua "java/lang/String" "coder" "B" (.int 0)) (V_ub : Arv Z h0 ub kb .byte (3 : Int32) [(.int ux0), (.int ux1), (.int ux2)] (.int 0))   :
    MetFree l (⟨"java/lang/String", "coder", "()B"⟩ : MethodName) (head1 (Jvm.Cond.code (⟨"java/lang/String", "coder", "()B"⟩ : MethodName) jdk_42_method_152_code 1 (some .byte) :: ws) ({ frames := 0, cells := 0, slots := 0, locals := 0 } : Room)) (fun a U => a = #[(.ref ua)] ∧ Z.Warmed39 U.vm ∧ U.heap = h0) (fun _ _ _ _ _ => True) (fun _ U o U' => ∃ v L, o = .returned v ∧ (own_Q_rmCoder3 Z ua ub kb ux0 ux1 ux2 h0 n0) v U'.heap L ∧ FrameEnd U o U' L 0 0) := by
  refine MetFree.of_bodySF pn_rmCoder3 hisR ?_
  intro p e s m args below meth c s₁ Bd hml0 hP hK
  obtain ⟨rfl, hZ, hh⟩ := hP
  have hx := Bd.exec
  have hby := Bd.bytes
  have hml : c.maxLocals = 1 := hml0
  have hown : s.vm.findClass "java/lang/String" = some m.cls := findClass_of_methodNamed Bd.named
  have hnm := (name_of_methodNamed Bd.named Bd.method).1
  have hrt := Bd.returns
  have hlk := Bd.notSynchronized
  have X0 : Stand p l e ({ frames := 0, cells := 0, slots := 0, locals := 0 } : Room) s m #[(.ref ua)] below meth c s₁ [] 0 0 := Stand.of_body Bd
  have e0 : s₁.heap = h0 := by rw [← hh, Bd.state]; rfl
  have N0 := Fr.nil n0
  have K0 := Keep.refl h0 []
  have HW' := HW
  obtain ⟨-, -, -, -, -, -, -, -, -, -, -, -, -, -, -, -, -, -, -, -, -, -, -, -, -, -, -, -, -, -, -, -, -, -, -, -, -, -, -, -, S_CS, H_CS, -, -, -, -⟩ := HW'
  have lt_E_ua := own_lt E_ua.lt
  have lt_V_ub := own_lt V_ub.lt
  have nl_ua_ub := own_lg (Exa.neArv E_ua V_ub (own_hw 134 hw rfl))
  refine own_done (B := s₁.setTop (mkF m 0 #[VR ua] [])) (fun t k => castTop (ef_rmCoder3 m ua) k) ?_
  obtain ⟨T1, X1, e1, st1⟩ := getS2 X0 hx hZ hown (host := "") (Or.inl (own_hw 81 hw rfl)) Via.refl e0 (S_CS.ext O0.2) (g := (mkF m 0 #[VR ua] [])) rfl (hb hby d12_0)
  refine own_by (B := T1.setTop (mkF m 3 #[VR ua] [(.int ucs)])) st1 ?_
  refine own_by (B := T1.setTop (mkF m 6 #[VR ua] [])) (fun _ k => XS.ifNo X1.here hx rfl (hb hby d12_3) rfl (XT.i0_eq_f H_CS) k) ?_
  refine own_by (B := T1.setTop (mkF m 7 #[VR ua] [(.ref ua)])) (fun _ k => XS.aloadN X1.here hx rfl (hb hby d12_6) rfl rfl  k) ?_
  obtain ⟨T2, X2, e2, st2⟩ := getF X1 hx hZ hown (host := "") (Or.inl (own_hw 82 hw rfl)) Via.refl e1 F_ua_coder (g := (mkF m 7 #[VR ua] [(.ref ua)])) rfl rfl (hb hby d12_7)
  refine own_by (B := T2.setTop (mkF m 10 #[VR ua] [(.int 0)])) st2 ?_
  refine own_by (B := T2.setTop (mkF m 14 #[VR ua] [(.int 0)])) (fun _ k => XS.goto X2.here hx rfl (pc0 := 10) (pc' := 14) rfl (hb hby d12_10) (by decide) (by decide) k) ?_
  exact own_retW X2 hx hrt hlk rfl (Or.inl ⟨rfl, by simp, _, rfl⟩) (hb hby d12_14) (by decide) (by decide) (by show own_Q_rmCoder3 Z ua ub kb ux0 ux1 ux2 h0 n0 _ T2.heap _; rw [e2]; exact ⟨rfl, N0, K0⟩)

def own_Q_rmCoder4 (Z : State) (ua : Nat) (ub : Nat) (kb : ClassId) (ux0 : Int32) (ux1 : Int32) (ux2 : Int32) (ux3 : Int32) (h0 : Heap) (n0 : Nat) (v : Option Value) (h : Heap) (L : List Loc) : Prop := v = some (.int 0) ∧ Fr n0 L ∧ Keep h0 h []

theorem pn_rmCoder4 : plainFor (⟨"java/lang/String", "coder", "()B"⟩ : MethodName) = true := by first | exact plainFor_of_name (by first | (simp [plainName, overriddenIn]; done) | decide +kernel) | exact Jvm.Free.JP.mathPlain rfl (by decide +kernel) | decide +kernel
theorem ef_rmCoder4 (m : MethodId) (x0 : Nat) : entryFrame m #[(.ref x0)] 1 = mkF m 0 #[VR x0] [] := by first | (simp [entryFrame, mkF, argsToLocals, Value.category]; done) | rfl
set_option maxRecDepth 65536 in
set_option maxHeartbeats 40000000 in
theorem rmCoder4 (l : Launch) (Z : State) (a0 : Array Value) (hw : ∀ d ∈ tables_1, d.before a0 Z = true) (ws : List Jvm.Cond) (a_INPUT_BIT a_OUTPUT_BIT a_OUTPUT_WORD a_INPUT_WORD a_MEMORY_WORD p_INPUT_BIT v_INPUT_BIT p_OUTPUT_WORD v_OUTPUT_WORD p_OUTPUT_BIT v_OUTPUT_BIT p_MEMORY_WORD v_MEMORY_WORD p_INPUT_WORD v_INPUT_WORD a_DigitOnes : Nat) (k_INPUT_BIT : ClassId) (k_OUTPUT_WORD : ClassId) (k_OUTPUT_BIT : ClassId) (k_MEMORY_WORD : ClassId) (k_INPUT_WORD : ClassId) (ucs : Int32) (uff : Value) (ua : Nat) (ub : Nat) (kb : ClassId) (ux0 : Int32) (ux1 : Int32) (ux2 : Int32) (ux3 : Int32) (h0 : Heap) (n0 : Nat) (Z0 : n0 ≤ h0.size) (O0 : Old Z n0 h0) (HW : own_W Z Z.heap a_INPUT_BIT a_OUTPUT_BIT a_OUTPUT_WORD a_INPUT_WORD a_MEMORY_WORD p_INPUT_BIT v_INPUT_BIT p_OUTPUT_WORD v_OUTPUT_WORD p_OUTPUT_BIT v_OUTPUT_BIT p_MEMORY_WORD v_MEMORY_WORD p_INPUT_WORD v_INPUT_WORD a_DigitOnes k_INPUT_BIT k_OUTPUT_WORD k_OUTPUT_BIT k_MEMORY_WORD k_INPUT_WORD ucs uff) (E_ua : Exa Z h0 ua "java/lang/String") (F_ua_value : Fld Z h0 ua "java/lang/String" "value" "[B" (.ref ub)) (F_ua_coder : Fld Z h0 ua "java/lang/String" "coder" "B" (.int 0)) (V_ub : Arv Z h0 ub kb .byte (4 : Int32) [(.int ux0), (.int ux1), (.int ux2), (.int ux3)] (.int 0))   :
    MetFree l (⟨"java/lang/String", "coder", "()B"⟩ : MethodName) (head1 (Jvm.Cond.code (⟨"java/lang/String", "coder", "()B"⟩ : MethodName) jdk_42_method_152_code 1 (some .byte) :: ws) ({ frames := 0, cells := 0, slots := 0, locals := 0 } : Room)) (fun a U => a = #[(.ref ua)] ∧ Z.Warmed39 U.vm ∧ U.heap = h0) (fun _ _ _ _ _ => True) (fun _ U o U' => ∃ v L, o = .returned v ∧ (own_Q_rmCoder4 Z ua ub kb ux0 ux1 ux2 ux3 h0 n0) v U'.heap L ∧ FrameEnd U o U' L 0 0) := by
  refine MetFree.of_bodySF pn_rmCoder4 hisR ?_
  intro p e s m args below meth c s₁ Bd hml0 hP hK
  obtain ⟨rfl, hZ, hh⟩ := hP
  have hx := Bd.exec
  have hby := Bd.bytes
  have hml : c.maxLocals = 1 := hml0
  have hown : s.vm.findClass "java/lang/String" = some m.cls := findClass_of_methodNamed Bd.named
  have hnm := (name_of_methodNamed Bd.named Bd.method).1
  have hrt := Bd.returns
  have hlk := Bd.notSynchronized
  have X0 : Stand p l e ({ frames := 0, cells := 0, slots := 0, locals := 0 } : Room) s m #[(.ref ua)] below meth c s₁ [] 0 0 := Stand.of_body Bd
  have e0 : s₁.heap = h0 := by rw [← hh, Bd.state]; rfl
  have N0 := Fr.nil n0
  have K0 := Keep.refl h0 []
  have HW' := HW
  obtain ⟨-, -, -, -, -, -, -, -, -, -, -, -, -, -, -, -, -, -, -, -, -, -, -, -, -, -, -, -, -, -, -, -, -, -, -, -, -, -, -, -, S_CS, H_CS, -, -, -, -⟩ := HW'
  have lt_E_ua := own_lt E_ua.lt
  have lt_V_ub := own_lt V_ub.lt
  have nl_ua_ub := own_lg (Exa.neArv E_ua V_ub (own_hw 134 hw rfl))
  refine own_done (B := s₁.setTop (mkF m 0 #[VR ua] [])) (fun t k => castTop (ef_rmCoder4 m ua) k) ?_
  obtain ⟨T1, X1, e1, st1⟩ := getS2 X0 hx hZ hown (host := "") (Or.inl (own_hw 81 hw rfl)) Via.refl e0 (S_CS.ext O0.2) (g := (mkF m 0 #[VR ua] [])) rfl (hb hby d12_0)
  refine own_by (B := T1.setTop (mkF m 3 #[VR ua] [(.int ucs)])) st1 ?_
  refine own_by (B := T1.setTop (mkF m 6 #[VR ua] [])) (fun _ k => XS.ifNo X1.here hx rfl (hb hby d12_3) rfl (XT.i0_eq_f H_CS) k) ?_
  refine own_by (B := T1.setTop (mkF m 7 #[VR ua] [(.ref ua)])) (fun _ k => XS.aloadN X1.here hx rfl (hb hby d12_6) rfl rfl  k) ?_
  obtain ⟨T2, X2, e2, st2⟩ := getF X1 hx hZ hown (host := "") (Or.inl (own_hw 82 hw rfl)) Via.refl e1 F_ua_coder (g := (mkF m 7 #[VR ua] [(.ref ua)])) rfl rfl (hb hby d12_7)
  refine own_by (B := T2.setTop (mkF m 10 #[VR ua] [(.int 0)])) st2 ?_
  refine own_by (B := T2.setTop (mkF m 14 #[VR ua] [(.int 0)])) (fun _ k => XS.goto X2.here hx rfl (pc0 := 10) (pc' := 14) rfl (hb hby d12_10) (by decide) (by decide) k) ?_
  exact own_retW X2 hx hrt hlk rfl (Or.inl ⟨rfl, by simp, _, rfl⟩) (hb hby d12_14) (by decide) (by decide) (by show own_Q_rmCoder4 Z ua ub kb ux0 ux1 ux2 ux3 h0 n0 _ T2.heap _; rw [e2]; exact ⟨rfl, N0, K0⟩)

def own_Q_rmCoder6 (Z : State) (ua : Nat) (ub : Nat) (kb : ClassId) (ux0 : Int32) (ux1 : Int32) (ux2 : Int32) (ux3 : Int32) (ux4 : Int32) (ux5 : Int32) (h0 : Heap) (n0 : Nat) (v : Option Value) (h : Heap) (L : List Loc) : Prop := v = some (.int 0) ∧ Fr n0 L ∧ Keep h0 h []

theorem pn_rmCoder6 : plainFor (⟨"java/lang/String", "coder", "()B"⟩ : MethodName) = true := by first | exact plainFor_of_name (by first | (simp [plainName, overriddenIn]; done) | decide +kernel) | exact Jvm.Free.JP.mathPlain rfl (by decide +kernel) | decide +kernel
theorem ef_rmCoder6 (m : MethodId) (x0 : Nat) : entryFrame m #[(.ref x0)] 1 = mkF m 0 #[VR x0] [] := by first | (simp [entryFrame, mkF, argsToLocals, Value.category]; done) | rfl
set_option maxRecDepth 65536 in
set_option maxHeartbeats 40000000 in
theorem rmCoder6 (l : Launch) (Z : State) (a0 : Array Value) (hw : ∀ d ∈ tables_1, d.before a0 Z = true) (ws : List Jvm.Cond) (a_INPUT_BIT a_OUTPUT_BIT a_OUTPUT_WORD a_INPUT_WORD a_MEMORY_WORD p_INPUT_BIT v_INPUT_BIT p_OUTPUT_WORD v_OUTPUT_WORD p_OUTPUT_BIT v_OUTPUT_BIT p_MEMORY_WORD v_MEMORY_WORD p_INPUT_WORD v_INPUT_WORD a_DigitOnes : Nat) (k_INPUT_BIT : ClassId) (k_OUTPUT_WORD : ClassId) (k_OUTPUT_BIT : ClassId) (k_MEMORY_WORD : ClassId) (k_INPUT_WORD : ClassId) (ucs : Int32) (uff : Value) (ua : Nat) (ub : Nat) (kb : ClassId) (ux0 : Int32) (ux1 : Int32) (ux2 : Int32) (ux3 : Int32) (ux4 : Int32) (ux5 : Int32) (h0 : Heap) (n0 : Nat) (Z0 : n0 ≤ h0.size) (O0 : Old Z n0 h0) (HW : own_W Z Z.heap a_INPUT_BIT a_OUTPUT_BIT a_OUTPUT_WORD a_INPUT_WORD a_MEMORY_WORD p_INPUT_BIT v_INPUT_BIT p_OUTPUT_WORD v_OUTPUT_WORD p_OUTPUT_BIT v_OUTPUT_BIT p_MEMORY_WORD v_MEMORY_WORD p_INPUT_WORD v_INPUT_WORD a_DigitOnes k_INPUT_BIT k_OUTPUT_WORD k_OUTPUT_BIT k_MEMORY_WORD k_INPUT_WORD ucs uff) (E_ua : Exa Z h0 ua "java/lang/String") (F_ua_value : Fld Z h0 ua "java/lang/String" "value" "[B" (.ref ub)) (F_ua_coder : Fld Z h0 ua "java/lang/String" "coder" "B" (.int 0)) (V_ub : Arv Z h0 ub kb .byte (6 : Int32) [(.int ux0), (.int ux1), (.int ux2), (.int ux3), (.int ux4), (.int ux5)] (.int 0))   :
    MetFree l (⟨"java/lang/String", "coder", "()B"⟩ : MethodName) (head1 (Jvm.Cond.code (⟨"java/lang/String", "coder", "()B"⟩ : MethodName) jdk_42_method_152_code 1 (some .byte) :: ws) ({ frames := 0, cells := 0, slots := 0, locals := 0 } : Room)) (fun a U => a = #[(.ref ua)] ∧ Z.Warmed39 U.vm ∧ U.heap = h0) (fun _ _ _ _ _ => True) (fun _ U o U' => ∃ v L, o = .returned v ∧ (own_Q_rmCoder6 Z ua ub kb ux0 ux1 ux2 ux3 ux4 ux5 h0 n0) v U'.heap L ∧ FrameEnd U o U' L 0 0) := by
  refine MetFree.of_bodySF pn_rmCoder6 hisR ?_
  intro p e s m args below meth c s₁ Bd hml0 hP hK
  obtain ⟨rfl, hZ, hh⟩ := hP
  have hx := Bd.exec
  have hby := Bd.bytes
  have hml : c.maxLocals = 1 := hml0
  have hown : s.vm.findClass "java/lang/String" = some m.cls := findClass_of_methodNamed Bd.named
  have hnm := (name_of_methodNamed Bd.named Bd.method).1
  have hrt := Bd.returns
  have hlk := Bd.notSynchronized
  have X0 : Stand p l e ({ frames := 0, cells := 0, slots := 0, locals := 0 } : Room) s m #[(.ref ua)] below meth c s₁ [] 0 0 := Stand.of_body Bd
  have e0 : s₁.heap = h0 := by rw [← hh, Bd.state]; rfl
  have N0 := Fr.nil n0
  have K0 := Keep.refl h0 []
  have HW' := HW
  obtain ⟨-, -, -, -, -, -, -, -, -, -, -, -, -, -, -, -, -, -, -, -, -, -, -, -, -, -, -, -, -, -, -, -, -, -, -, -, -, -, -, -, S_CS, H_CS, -, -, -, -⟩ := HW'
  have lt_E_ua := own_lt E_ua.lt
  have lt_V_ub := own_lt V_ub.lt
  have nl_ua_ub := own_lg (Exa.neArv E_ua V_ub (own_hw 134 hw rfl))
  refine own_done (B := s₁.setTop (mkF m 0 #[VR ua] [])) (fun t k => castTop (ef_rmCoder6 m ua) k) ?_
  obtain ⟨T1, X1, e1, st1⟩ := getS2 X0 hx hZ hown (host := "") (Or.inl (own_hw 81 hw rfl)) Via.refl e0 (S_CS.ext O0.2) (g := (mkF m 0 #[VR ua] [])) rfl (hb hby d12_0)
  refine own_by (B := T1.setTop (mkF m 3 #[VR ua] [(.int ucs)])) st1 ?_
  refine own_by (B := T1.setTop (mkF m 6 #[VR ua] [])) (fun _ k => XS.ifNo X1.here hx rfl (hb hby d12_3) rfl (XT.i0_eq_f H_CS) k) ?_
  refine own_by (B := T1.setTop (mkF m 7 #[VR ua] [(.ref ua)])) (fun _ k => XS.aloadN X1.here hx rfl (hb hby d12_6) rfl rfl  k) ?_
  obtain ⟨T2, X2, e2, st2⟩ := getF X1 hx hZ hown (host := "") (Or.inl (own_hw 82 hw rfl)) Via.refl e1 F_ua_coder (g := (mkF m 7 #[VR ua] [(.ref ua)])) rfl rfl (hb hby d12_7)
  refine own_by (B := T2.setTop (mkF m 10 #[VR ua] [(.int 0)])) st2 ?_
  refine own_by (B := T2.setTop (mkF m 14 #[VR ua] [(.int 0)])) (fun _ k => XS.goto X2.here hx rfl (pc0 := 10) (pc' := 14) rfl (hb hby d12_10) (by decide) (by decide) k) ?_
  exact own_retW X2 hx hrt hlk rfl (Or.inl ⟨rfl, by simp, _, rfl⟩) (hb hby d12_14) (by decide) (by decide) (by show own_Q_rmCoder6 Z ua ub kb ux0 ux1 ux2 ux3 ux4 ux5 h0 n0 _ T2.heap _; rw [e2]; exact ⟨rfl, N0, K0⟩)

def own_Q_rmLen1 (Z : State) (ua : Nat) (ub : Nat) (kb : ClassId) (ux0 : Int32) (h0 : Heap) (n0 : Nat) (v : Option Value) (h : Heap) (L : List Loc) : Prop := v = some (.int 1) ∧ Fr n0 L ∧ Keep h0 h []

theorem d11_0 : decode jdk_42_method_54_code 0 = .ok (.aload_n 0, 1) := by decide +kernel
theorem d11_1 : decode jdk_42_method_54_code 1 = .ok (.getfield 9, 3) := by decide +kernel
theorem d11_4 : decode jdk_42_method_54_code 4 = .ok (.arraylength, 1) := by decide +kernel
theorem d11_5 : decode jdk_42_method_54_code 5 = .ok (.aload_n 0, 1) := by decide +kernel
theorem d11_6 : decode jdk_42_method_54_code 6 = .ok (.invokevirtual 335, 3) := by decide +kernel
theorem d11_9 : decode jdk_42_method_54_code 9 = .ok (.ishr, 1) := by decide +kernel
theorem d11_10 : decode jdk_42_method_54_code 10 = .ok (.ireturn, 1) := by decide +kernel
theorem pd_11___B : parseMethodDescriptor "()B" = some ⟨[], some .byte⟩ := by decide +kernel
theorem pn_rmLen1 : plainFor (⟨"java/lang/String", "length", "()I"⟩ : MethodName) = true := by first | exact plainFor_of_name (by first | (simp [plainName, overriddenIn]; done) | decide +kernel) | exact Jvm.Free.JP.mathPlain rfl (by decide +kernel) | decide +kernel
theorem ef_rmLen1 (m : MethodId) (x0 : Nat) : entryFrame m #[(.ref x0)] 1 = mkF m 0 #[VR x0] [] := by first | (simp [entryFrame, mkF, argsToLocals, Value.category]; done) | rfl
set_option maxRecDepth 65536 in
set_option maxHeartbeats 40000000 in
theorem rmLen1 (l : Launch) (Z : State) (a0 : Array Value) (hw : ∀ d ∈ tables_1, d.before a0 Z = true) (ws : List Jvm.Cond) (a_INPUT_BIT a_OUTPUT_BIT a_OUTPUT_WORD a_INPUT_WORD a_MEMORY_WORD p_INPUT_BIT v_INPUT_BIT p_OUTPUT_WORD v_OUTPUT_WORD p_OUTPUT_BIT v_OUTPUT_BIT p_MEMORY_WORD v_MEMORY_WORD p_INPUT_WORD v_INPUT_WORD a_DigitOnes : Nat) (k_INPUT_BIT : ClassId) (k_OUTPUT_WORD : ClassId) (k_OUTPUT_BIT : ClassId) (k_MEMORY_WORD : ClassId) (k_INPUT_WORD : ClassId) (ucs : Int32) (uff : Value) (ua : Nat) (ub : Nat) (kb : ClassId) (ux0 : Int32) (h0 : Heap) (n0 : Nat) (Z0 : n0 ≤ h0.size) (O0 : Old Z n0 h0) (HW : own_W Z Z.heap a_INPUT_BIT a_OUTPUT_BIT a_OUTPUT_WORD a_INPUT_WORD a_MEMORY_WORD p_INPUT_BIT v_INPUT_BIT p_OUTPUT_WORD v_OUTPUT_WORD p_OUTPUT_BIT v_OUTPUT_BIT p_MEMORY_WORD v_MEMORY_WORD p_INPUT_WORD v_INPUT_WORD a_DigitOnes k_INPUT_BIT k_OUTPUT_WORD k_OUTPUT_BIT k_MEMORY_WORD k_INPUT_WORD ucs uff) (E_ua : Exa Z h0 ua "java/lang/String") (F_ua_value : Fld Z h0 ua "java/lang/String" "value" "[B" (.ref ub)) (F_ua_coder : Fld Z h0 ua "java/lang/String" "coder" "B" (.int 0)) (V_ub : Arv Z h0 ub kb .byte (1 : Int32) [(.int ux0)] (.int 0))   :
    MetFree l (⟨"java/lang/String", "length", "()I"⟩ : MethodName) (head1 (Jvm.Cond.code (⟨"java/lang/String", "length", "()I"⟩ : MethodName) jdk_42_method_54_code 1 (some .int) :: ws) ({ frames := 1, cells := 0, slots := 0, locals := 13 } : Room)) (fun a U => a = #[(.ref ua)] ∧ Z.Warmed39 U.vm ∧ U.heap = h0) (fun _ _ _ _ _ => True) (fun _ U o U' => ∃ v L, o = .returned v ∧ (own_Q_rmLen1 Z ua ub kb ux0 h0 n0) v U'.heap L ∧ FrameEnd U o U' L 0 0) := by
  refine MetFree.of_bodySF pn_rmLen1 hisR ?_
  intro p e s m args below meth c s₁ Bd hml0 hP hK
  obtain ⟨rfl, hZ, hh⟩ := hP
  have hx := Bd.exec
  have hby := Bd.bytes
  have hml : c.maxLocals = 1 := hml0
  have hown : s.vm.findClass "java/lang/String" = some m.cls := findClass_of_methodNamed Bd.named
  have hnm := (name_of_methodNamed Bd.named Bd.method).1
  have hrt := Bd.returns
  have hlk := Bd.notSynchronized
  have X0 : Stand p l e ({ frames := 1, cells := 0, slots := 0, locals := 13 } : Room) s m #[(.ref ua)] below meth c s₁ [] 0 0 := Stand.of_body Bd
  have e0 : s₁.heap = h0 := by rw [← hh, Bd.state]; rfl
  have N0 := Fr.nil n0
  have K0 := Keep.refl h0 []
  have lt_E_ua := own_lt E_ua.lt
  have lt_V_ub := own_lt V_ub.lt
  have nl_ua_ub := own_lg (Exa.neArv E_ua V_ub (own_hw 134 hw rfl))
  refine own_done (B := s₁.setTop (mkF m 0 #[VR ua] [])) (fun t k => castTop (ef_rmLen1 m ua) k) ?_
  refine own_by (B := s₁.setTop (mkF m 1 #[VR ua] [(.ref ua)])) (fun _ k => XS.aloadN X0.here hx rfl (hb hby d11_0) rfl rfl  k) ?_
  obtain ⟨T1, X1, e1, st1⟩ := getF X0 hx hZ hown (host := "") (Or.inl (own_hw 74 hw rfl)) Via.refl e0 F_ua_value (g := (mkF m 1 #[VR ua] [(.ref ua)])) rfl rfl (hb hby d11_1)
  refine own_by (B := T1.setTop (mkF m 4 #[VR ua] [(.ref ub)])) st1 ?_
  obtain ⟨cl2, Ar2, qq2, Sz2, Nn2, Hh2, Gg2⟩ := id (V_ub)
  refine own_by (B := T1.setTop (mkF m 5 #[VR ua] [(.int 1)])) (fun t k => X1.arraylength hx (by rw [e1]; exact Ar2.1) (State.isArrayOf_alike hZ.alike Ar2.2.1) (g := (mkF m 4 #[VR ua] [(.ref ub)])) rfl rfl (hb hby d11_4) t (by rw [len_of Sz2 Nn2]; exact k)) ?_
  refine own_by (B := T1.setTop (mkF m 6 #[VR ua] [(.ref ua), (.int 1)])) (fun _ k => XS.aloadN X1.here hx rfl (hb hby d11_5) rfl rfl  k) ?_
  obtain ⟨cq3, kq3, qa3, qb3, qc3⟩ := isOf hZ e1 E_ua
  obtain ⟨_, _, ⟨T3, L3, k3, n3⟩, -, X3, ⟨Lc3, hQ3, l3, y3, z3⟩, st3⟩ := X1.virtualBack hx (y := (⟨"java/lang/String", "coder", "()B"⟩ : MethodName)) (z := (⟨"java/lang/String", "coder", "()B"⟩ : MethodName)) hown (mvT hZ (own_hw 76 hw rfl)) (mvT hZ (own_hw 77 hw rfl)) (notFace_of_selects (args := #[]) (mvT hZ (own_hw 79 hw rfl))) (mvT hZ (own_hw 79 hw rfl)) (mvT hZ (own_hw 78 hw rfl)) (by decide) (backOf (W := 1) (rmCoder1 l Z a0 hw [] a_INPUT_BIT a_OUTPUT_BIT a_OUTPUT_WORD a_INPUT_WORD a_MEMORY_WORD p_INPUT_BIT v_INPUT_BIT p_OUTPUT_WORD v_OUTPUT_WORD p_OUTPUT_BIT v_OUTPUT_BIT p_MEMORY_WORD v_MEMORY_WORD p_INPUT_WORD v_INPUT_WORD a_DigitOnes k_INPUT_BIT k_OUTPUT_WORD k_OUTPUT_BIT k_MEMORY_WORD k_INPUT_WORD ucs uff ua ub kb ux0 h0 n0 (own_old_le O0) O0 HW E_ua F_ua_value F_ua_coder V_ub) hZ (own_hw 80 hw rfl) (own_hw 51 hw rfl) (by decide) (by decide)) qa3 qc3 (g := (mkF m 6 #[VR ua] [(.ref ua), (.int 1)])) rfl (by rw [hml]; rfl) (Steps.refl _) (argsL := []) (rest := [(.int 1)]) (lenOf pd_11___B rfl) rfl (by show 2 * 0 + _ ≤ _; exact Nat.le_of_eq rfl) (hb hby d11_6) (fun _ _ => ⟨rfl, e1, (by decide : 0 + 0 ≤ _), (by decide : 0 + 0 ≤ _)⟩)
  dsimp only [Pt.U, Pt.locs, Pt.cells, Pt.slots] at X3 l3 y3 z3 st3 hQ3
  subst l3 y3 z3
  obtain ⟨rfl, NC3, KC3⟩ := hQ3
  refine own_by (B := T3.setTop (mkF m 9 #[VR ua] [(.int 0), (.int 1)])) (fun _ k => st3.trans k) ?_
  obtain ⟨h3, e3⟩ : ∃ z, T3.heap = z := ⟨_, rfl⟩
  rw [e3] at KC3
  have sz3 := KC3.1
  have O3 := O0.keep KC3 all0
  have K3 := K0.trans KC3 all0
  have N3 := Fr.app N0 NC3
  refine own_by (B := T3.setTop (mkF m 10 #[VR ua] [(.int 1)])) (fun _ k => XT.ishr X3.here hx rfl (hb hby d11_9) rfl k) ?_
  exact own_retI X3 hx hrt hlk (hb hby d11_10) (by decide) (by decide) (by show own_Q_rmLen1 Z ua ub kb ux0 h0 n0 _ T3.heap _; rw [e3]; exact ⟨rfl, N3, K3⟩)

def own_Q_rmLen3 (Z : State) (ua : Nat) (ub : Nat) (kb : ClassId) (ux0 : Int32) (ux1 : Int32) (ux2 : Int32) (h0 : Heap) (n0 : Nat) (v : Option Value) (h : Heap) (L : List Loc) : Prop := v = some (.int 3) ∧ Fr n0 L ∧ Keep h0 h []

theorem pn_rmLen3 : plainFor (⟨"java/lang/String", "length", "()I"⟩ : MethodName) = true := by first | exact plainFor_of_name (by first | (simp [plainName, overriddenIn]; done) | decide +kernel) | exact Jvm.Free.JP.mathPlain rfl (by decide +kernel) | decide +kernel
theorem ef_rmLen3 (m : MethodId) (x0 : Nat) : entryFrame m #[(.ref x0)] 1 = mkF m 0 #[VR x0] [] := by first | (simp [entryFrame, mkF, argsToLocals, Value.category]; done) | rfl
set_option maxRecDepth 65536 in
set_option maxHeartbeats 40000000 in
theorem rmLen3 (l : Launch) (Z : State) (a0 : Array Value) (hw : ∀ d ∈ tables_1, d.before a0 Z = true) (ws : List Jvm.Cond) (a_INPUT_BIT a_OUTPUT_BIT a_OUTPUT_WORD a_INPUT_WORD a_MEMORY_WORD p_INPUT_BIT v_INPUT_BIT p_OUTPUT_WORD v_OUTPUT_WORD p_OUTPUT_BIT v_OUTPUT_BIT p_MEMORY_WORD v_MEMORY_WORD p_INPUT_WORD v_INPUT_WORD a_DigitOnes : Nat) (k_INPUT_BIT : ClassId) (k_OUTPUT_WORD : ClassId) (k_OUTPUT_BIT : ClassId) (k_MEMORY_WORD : ClassId) (k_INPUT_WORD : ClassId) (ucs : Int32) (uff : Value) (ua : Nat) (ub : Nat) (kb : ClassId) (ux0 : Int32) (ux1 : Int32) (ux2 : Int32) (h0 : Heap) (n0 : Nat) (Z0 : n0 ≤ h0.size) (O0 : Old Z n0 h0) (HW : own_W Z Z.heap a_INPUT_BIT a_OUTPUT_BIT a_OUTPUT_WORD a_INPUT_WORD a_MEMORY_WORD p_INPUT_BIT v_INPUT_BIT p_OUTPUT_WORD v_OUTPUT_WORD p_OUTPUT_BIT v_OUTPUT_BIT p_MEMORY_WORD v_MEMORY_WORD p_INPUT_WORD v_INPUT_WORD a_DigitOnes k_INPUT_BIT k_OUTPUT_WORD k_OUTPUT_BIT k_MEMORY_WORD k_INPUT_WORD ucs uff) (E_ua : Exa Z h0 ua "java/lang/String") (F_ua_value : Fld Z h0 ua "java/lang/String" "value" "[B" (.ref ub)) (F_ua_coder : Fld Z h0 ua "java/lang/String" "coder" "B" (.int 0)) (V_ub : Arv Z h0 ub kb .byte (3 : Int32) [(.int ux0), (.int ux1), (.int ux2)] (.int 0))   :
    MetFree l (⟨"java/lang/String", "length", "()I"⟩ : MethodName) (head1 (Jvm.Cond.code (⟨"java/lang/String", "length", "()I"⟩ : MethodName) jdk_42_method_54_code 1 (some .int) :: ws) ({ frames := 1, cells := 0, slots := 0, locals := 13 } : Room)) (fun a U => a = #[(.ref ua)] ∧ Z.Warmed39 U.vm ∧ U.heap = h0) (fun _ _ _ _ _ => True) (fun _ U o U' => ∃ v L, o = .returned v ∧ (own_Q_rmLen3 Z ua ub kb ux0 ux1 ux2 h0 n0) v U'.heap L ∧ FrameEnd U o U' L 0 0) := by
  refine MetFree.of_bodySF pn_rmLen3 hisR ?_
  intro p e s m args below meth c s₁ Bd hml0 hP hK
  obtain ⟨rfl, hZ, hh⟩ := hP
  have hx := Bd.exec
  have hby := Bd.bytes
  have hml : c.maxLocals = 1 := hml0
  have hown : s.vm.findClass "java/lang/String" = some m.cls := findClass_of_methodNamed Bd.named
  have hnm := (name_of_methodNamed Bd.named Bd.method).1
  have hrt := Bd.returns
  have hlk := Bd.notSynchronized
  have X0 : Stand p l e ({ frames := 1, cells := 0, slots := 0, locals := 13 } : Room) s m #[(.ref ua)] below meth c s₁ [] 0 0 := Stand.of_body Bd
  have e0 : s₁.heap = h0 := by rw [← hh, Bd.state]; rfl
  have N0 := Fr.nil n0
  have K0 := Keep.refl h0 []
  have lt_E_ua := own_lt E_ua.lt
  have lt_V_ub := own_lt V_ub.lt
  have nl_ua_ub := own_lg (Exa.neArv E_ua V_ub (own_hw 134 hw rfl))
  refine own_done (B := s₁.setTop (mkF m 0 #[VR ua] [])) (fun t k => castTop (ef_rmLen3 m ua) k) ?_
  refine own_by (B := s₁.setTop (mkF m 1 #[VR ua] [(.ref ua)])) (fun _ k => XS.aloadN X0.here hx rfl (hb hby d11_0) rfl rfl  k) ?_
  obtain ⟨T1, X1, e1, st1⟩ := getF X0 hx hZ hown (host := "") (Or.inl (own_hw 74 hw rfl)) Via.refl e0 F_ua_value (g := (mkF m 1 #[VR ua] [(.ref ua)])) rfl rfl (hb hby d11_1)
  refine own_by (B := T1.setTop (mkF m 4 #[VR ua] [(.ref ub)])) st1 ?_
  obtain ⟨cl2, Ar2, qq2, Sz2, Nn2, Hh2, Gg2⟩ := id (V_ub)
  refine own_by (B := T1.setTop (mkF m 5 #[VR ua] [(.int 3)])) (fun t k => X1.arraylength hx (by rw [e1]; exact Ar2.1) (State.isArrayOf_alike hZ.alike Ar2.2.1) (g := (mkF m 4 #[VR ua] [(.ref ub)])) rfl rfl (hb hby d11_4) t (by rw [len_of Sz2 Nn2]; exact k)) ?_
  refine own_by (B := T1.setTop (mkF m 6 #[VR ua] [(.ref ua), (.int 3)])) (fun _ k => XS.aloadN X1.here hx rfl (hb hby d11_5) rfl rfl  k) ?_
  obtain ⟨cq3, kq3, qa3, qb3, qc3⟩ := isOf hZ e1 E_ua
  obtain ⟨_, _, ⟨T3, L3, k3, n3⟩, -, X3, ⟨Lc3, hQ3, l3, y3, z3⟩, st3⟩ := X1.virtualBack hx (y := (⟨"java/lang/String", "coder", "()B"⟩ : MethodName)) (z := (⟨"java/lang/String", "coder", "()B"⟩ : MethodName)) hown (mvT hZ (own_hw 76 hw rfl)) (mvT hZ (own_hw 77 hw rfl)) (notFace_of_selects (args := #[]) (mvT hZ (own_hw 79 hw rfl))) (mvT hZ (own_hw 79 hw rfl)) (mvT hZ (own_hw 78 hw rfl)) (by decide) (backOf (W := 1) (rmCoder3 l Z a0 hw [] a_INPUT_BIT a_OUTPUT_BIT a_OUTPUT_WORD a_INPUT_WORD a_MEMORY_WORD p_INPUT_BIT v_INPUT_BIT p_OUTPUT_WORD v_OUTPUT_WORD p_OUTPUT_BIT v_OUTPUT_BIT p_MEMORY_WORD v_MEMORY_WORD p_INPUT_WORD v_INPUT_WORD a_DigitOnes k_INPUT_BIT k_OUTPUT_WORD k_OUTPUT_BIT k_MEMORY_WORD k_INPUT_WORD ucs uff ua ub kb ux0 ux1 ux2 h0 n0 (own_old_le O0) O0 HW E_ua F_ua_value F_ua_coder V_ub) hZ (own_hw 80 hw rfl) (own_hw 51 hw rfl) (by decide) (by decide)) qa3 qc3 (g := (mkF m 6 #[VR ua] [(.ref ua), (.int 3)])) rfl (by rw [hml]; rfl) (Steps.refl _) (argsL := []) (rest := [(.int 3)]) (lenOf pd_11___B rfl) rfl (by show 2 * 0 + _ ≤ _; exact Nat.le_of_eq rfl) (hb hby d11_6) (fun _ _ => ⟨rfl, e1, (by decide : 0 + 0 ≤ _), (by decide : 0 + 0 ≤ _)⟩)
  dsimp only [Pt.U, Pt.locs, Pt.cells, Pt.slots] at X3 l3 y3 z3 st3 hQ3
  subst l3 y3 z3
  obtain ⟨rfl, NC3, KC3⟩ := hQ3
  refine own_by (B := T3.setTop (mkF m 9 #[VR ua] [(.int 0), (.int 3)])) (fun _ k => st3.trans k) ?_
  obtain ⟨h3, e3⟩ : ∃ z, T3.heap = z := ⟨_, rfl⟩
  rw [e3] at KC3
  have sz3 := KC3.1
  have O3 := O0.keep KC3 all0
  have K3 := K0.trans KC3 all0
  have N3 := Fr.app N0 NC3
  refine own_by (B := T3.setTop (mkF m 10 #[VR ua] [(.int 3)])) (fun _ k => XT.ishr X3.here hx rfl (hb hby d11_9) rfl k) ?_
  exact own_retI X3 hx hrt hlk (hb hby d11_10) (by decide) (by decide) (by show own_Q_rmLen3 Z ua ub kb ux0 ux1 ux2 h0 n0 _ T3.heap _; rw [e3]; exact ⟨rfl, N3, K3⟩)

def own_Q_rmLen4 (Z : State) (ua : Nat) (ub : Nat) (kb : ClassId) (ux0 : Int32) (ux1 : Int32) (ux2 : Int32) (ux3 : Int32) (h0 : Heap) (n0 : Nat) (v : Option Value) (h : Heap) (L : List Loc) : Prop := v = some (.int 4) ∧ Fr n0 L ∧ Keep h0 h []

theorem pn_rmLen4 : plainFor (⟨"java/lang/String", "length", "()I"⟩ : MethodName) = true := by first | exact plainFor_of_name (by first | (simp [plainName, overriddenIn]; done) | decide +kernel) | exact Jvm.Free.JP.mathPlain rfl (by decide +kernel) | decide +kernel
theorem ef_rmLen4 (m : MethodId) (x0 : Nat) : entryFrame m #[(.ref x0)] 1 = mkF m 0 #[VR x0] [] := by first | (simp [entryFrame, mkF, argsToLocals, Value.category]; done) | rfl
set_option maxRecDepth 65536 in
set_option maxHeartbeats 40000000 in
theorem rmLen4 (l : Launch) (Z : State) (a0 : Array Value) (hw : ∀ d ∈ tables_1, d.before a0 Z = true) (ws : List Jvm.Cond) (a_INPUT_BIT a_OUTPUT_BIT a_OUTPUT_WORD a_INPUT_WORD a_MEMORY_WORD p_INPUT_BIT v_INPUT_BIT p_OUTPUT_WORD v_OUTPUT_WORD p_OUTPUT_BIT v_OUTPUT_BIT p_MEMORY_WORD v_MEMORY_WORD p_INPUT_WORD v_INPUT_WORD a_DigitOnes : Nat) (k_INPUT_BIT : ClassId) (k_OUTPUT_WORD : ClassId) (k_OUTPUT_BIT : ClassId) (k_MEMORY_WORD : ClassId) (k_INPUT_WORD : ClassId) (ucs : Int32) (uff : Value) (ua : Nat) (ub : Nat) (kb : ClassId) (ux0 : Int32) (ux1 : Int32) (ux2 : Int32) (ux3 : Int32) (h0 : Heap) (n0 : Nat) (Z0 : n0 ≤ h0.size) (O0 : Old Z n0 h0) (HW : own_W Z Z.heap a_INPUT_BIT a_OUTPUT_BIT a_OUTPUT_WORD a_INPUT_WORD a_MEMORY_WORD p_INPUT_BIT v_INPUT_BIT p_OUTPUT_WORD v_OUTPUT_WORD p_OUTPUT_BIT v_OUTPUT_BIT p_MEMORY_WORD v_MEMORY_WORD p_INPUT_WORD v_INPUT_WORD a_DigitOnes k_INPUT_BIT k_OUTPUT_WORD k_OUTPUT_BIT k_MEMORY_WORD k_INPUT_WORD ucs uff) (E_ua : Exa Z h0 ua "java/lang/String") (F_ua_value : Fld Z h0 ua "java/lang/String" "value" "[B" (.ref ub)) (F_ua_coder : Fld Z h0 ua "java/lang/String" "coder" "B" (.int 0)) (V_ub : Arv Z h0 ub kb .byte (4 : Int32) [(.int ux0), (.int ux1), (.int ux2), (.int ux3)] (.int 0))   :
    MetFree l (⟨"java/lang/String", "length", "()I"⟩ : MethodName) (head1 (Jvm.Cond.code (⟨"java/lang/String", "length", "()I"⟩ : MethodName) jdk_42_method_54_code 1 (some .int) :: ws) ({ frames := 1, cells := 0, slots := 0, locals := 13 } : Room)) (fun a U => a = #[(.ref ua)] ∧ Z.Warmed39 U.vm ∧ U.heap = h0) (fun _ _ _ _ _ => True) (fun _ U o U' => ∃ v L, o = .returned v ∧ (own_Q_rmLen4 Z ua ub kb ux0 ux1 ux2 ux3 h0 n0) v U'.heap L ∧ FrameEnd U o U' L 0 0) := by
  refine MetFree.of_bodySF pn_rmLen4 hisR ?_
  intro p e s m args below meth c s₁ Bd hml0 hP hK
  obtain ⟨rfl, hZ, hh⟩ := hP
  have hx := Bd.exec
  have hby := Bd.bytes
  have hml : c.maxLocals = 1 := hml0
  have hown : s.vm.findClass "java/lang/String" = some m.cls := findClass_of_methodNamed Bd.named
  have hnm := (name_of_methodNamed Bd.named Bd.method).1
  have hrt := Bd.returns
  have hlk := Bd.notSynchronized
  have X0 : Stand p l e ({ frames := 1, cells := 0, slots := 0, locals := 13 } : Room) s m #[(.ref ua)] below meth c s₁ [] 0 0 := Stand.of_body Bd
  have e0 : s₁.heap = h0 := by rw [← hh, Bd.state]; rfl
  have N0 := Fr.nil n0
  have K0 := Keep.refl h0 []
  have lt_E_ua := own_lt E_ua.lt
  have lt_V_ub := own_lt V_ub.lt
  have nl_ua_ub := own_lg (Exa.neArv E_ua V_ub (own_hw 134 hw rfl))
  refine own_done (B := s₁.setTop (mkF m 0 #[VR ua] [])) (fun t k => castTop (ef_rmLen4 m ua) k) ?_
  refine own_by (B := s₁.setTop (mkF m 1 #[VR ua] [(.ref ua)])) (fun _ k => XS.aloadN X0.here hx rfl (hb hby d11_0) rfl rfl  k) ?_
  obtain ⟨T1, X1, e1, st1⟩ := getF X0 hx hZ hown (host := "") (Or.inl (own_hw 74 hw rfl)) Via.refl e0 F_ua_value (g := (mkF m 1 #[VR ua] [(.ref ua)])) rfl rfl (hb hby d11_1)
  refine own_by (B := T1.setTop (mkF m 4 #[VR ua] [(.ref ub)])) st1 ?_
  obtain ⟨cl2, Ar2, qq2, Sz2, Nn2, Hh2, Gg2⟩ := id (V_ub)
  refine own_by (B := T1.setTop (mkF m 5 #[VR ua] [(.int 4)])) (fun t k => X1.arraylength hx (by rw [e1]; exact Ar2.1) (State.isArrayOf_alike hZ.alike Ar2.2.1) (g := (mkF m 4 #[VR ua] [(.ref ub)])) rfl rfl (hb hby d11_4) t (by rw [len_of Sz2 Nn2]; exact k)) ?_
  refine own_by (B := T1.setTop (mkF m 6 #[VR ua] [(.ref ua), (.int 4)])) (fun _ k => XS.aloadN X1.here hx rfl (hb hby d11_5) rfl rfl  k) ?_
  obtain ⟨cq3, kq3, qa3, qb3, qc3⟩ := isOf hZ e1 E_ua
  obtain ⟨_, _, ⟨T3, L3, k3, n3⟩, -, X3, ⟨Lc3, hQ3, l3, y3, z3⟩, st3⟩ := X1.virtualBack hx (y := (⟨"java/lang/String", "coder", "()B"⟩ : MethodName)) (z := (⟨"java/lang/String", "coder", "()B"⟩ : MethodName)) hown (mvT hZ (own_hw 76 hw rfl)) (mvT hZ (own_hw 77 hw rfl)) (notFace_of_selects (args := #[]) (mvT hZ (own_hw 79 hw rfl))) (mvT hZ (own_hw 79 hw rfl)) (mvT hZ (own_hw 78 hw rfl)) (by decide) (backOf (W := 1) (rmCoder4 l Z a0 hw [] a_INPUT_BIT a_OUTPUT_BIT a_OUTPUT_WORD a_INPUT_WORD a_MEMORY_WORD p_INPUT_BIT v_INPUT_BIT p_OUTPUT_WORD v_OUTPUT_WORD p_OUTPUT_BIT v_OUTPUT_BIT p_MEMORY_WORD v_MEMORY_WORD p_INPUT_WORD v_INPUT_WORD a_DigitOnes k_INPUT_BIT k_OUTPUT_WORD k_OUTPUT_BIT k_MEMORY_WORD k_INPUT_WORD ucs uff ua ub kb ux0 ux1 ux2 ux3 h0 n0 (own_old_le O0) O0 HW E_ua F_ua_value F_ua_coder V_ub) hZ (own_hw 80 hw rfl) (own_hw 51 hw rfl) (by decide) (by decide)) qa3 qc3 (g := (mkF m 6 #[VR ua] [(.ref ua), (.int 4)])) rfl (by rw [hml]; rfl) (Steps.refl _) (argsL := []) (rest := [(.int 4)]) (lenOf pd_11___B rfl) rfl (by show 2 * 0 + _ ≤ _; exact Nat.le_of_eq rfl) (hb hby d11_6) (fun _ _ => ⟨rfl, e1, (by decide : 0 + 0 ≤ _), (by decide : 0 + 0 ≤ _)⟩)
  dsimp only [Pt.U, Pt.locs, Pt.cells, Pt.slots] at X3 l3 y3 z3 st3 hQ3
  subst l3 y3 z3
  obtain ⟨rfl, NC3, KC3⟩ := hQ3
  refine own_by (B := T3.setTop (mkF m 9 #[VR ua] [(.int 0), (.int 4)])) (fun _ k => st3.trans k) ?_
  obtain ⟨h3, e3⟩ : ∃ z, T3.heap = z := ⟨_, rfl⟩
  rw [e3] at KC3
  have sz3 := KC3.1
  have O3 := O0.keep KC3 all0
  have K3 := K0.trans KC3 all0
  have N3 := Fr.app N0 NC3
  refine own_by (B := T3.setTop (mkF m 10 #[VR ua] [(.int 4)])) (fun _ k => XT.ishr X3.here hx rfl (hb hby d11_9) rfl k) ?_
  exact own_retI X3 hx hrt hlk (hb hby d11_10) (by decide) (by decide) (by show own_Q_rmLen4 Z ua ub kb ux0 ux1 ux2 ux3 h0 n0 _ T3.heap _; rw [e3]; exact ⟨rfl, N3, K3⟩)

def own_Q_rmLen6 (Z : State) (ua : Nat) (ub : Nat) (kb : ClassId) (ux0 : Int32) (ux1 : Int32) (ux2 : Int32) (ux3 : Int32) (ux4 : Int32) (ux5 : Int32) (h0 : Heap) (n0 : Nat) (v : Option Value) (h : Heap) (L : List Loc) : Prop := v = some (.int 6) ∧ Fr n0 L ∧ Keep h0 h []

theorem pn_rmLen6 : plainFor (⟨"java/lang/String", "length", "()I"⟩ : MethodName) = true := by first | exact plainFor_of_name (by first | (simp [plainName, overriddenIn]; done) | decide +kernel) | exact Jvm.Free.JP.mathPlain rfl (by decide +kernel) | decide +kernel
theorem ef_rmLen6 (m : MethodId) (x0 : Nat) : entryFrame m #[(.ref x0)] 1 = mkF m 0 #[VR x0] [] := by first | (simp [entryFrame, mkF, argsToLocals, Value.category]; done) | rfl
set_option maxRecDepth 65536 in
set_option maxHeartbeats 40000000 in
theorem rmLen6 (l : Launch) (Z : State) (a0 : Array Value) (hw : ∀ d ∈ tables_1, d.before a0 Z = true) (ws : List Jvm.Cond) (a_INPUT_BIT a_OUTPUT_BIT a_OUTPUT_WORD a_INPUT_WORD a_MEMORY_WORD p_INPUT_BIT v_INPUT_BIT p_OUTPUT_WORD v_OUTPUT_WORD p_OUTPUT_BIT v_OUTPUT_BIT p_MEMORY_WORD v_MEMORY_WORD p_INPUT_WORD v_INPUT_WORD a_DigitOnes : Nat) (k_INPUT_BIT : ClassId) (k_OUTPUT_WORD : ClassId) (k_OUTPUT_BIT : ClassId) (k_MEMORY_WORD : ClassId) (k_INPUT_WORD : ClassId) (ucs : Int32) (uff : Value) (ua : Nat) (ub : Nat) (kb : ClassId) (ux0 : Int32) (ux1 : Int32) (ux2 : Int32) (ux3 : Int32) (ux4 : Int32) (ux5 : Int32) (h0 : Heap) (n0 : Nat) (Z0 : n0 ≤ h0.size) (O0 : Old Z n0 h0) (HW : own_W Z Z.heap a_INPUT_BIT a_OUTPUT_BIT a_OUTPUT_WORD a_INPUT_WORD a_MEMORY_WORD p_INPUT_BIT v_INPUT_BIT p_OUTPUT_WORD v_OUTPUT_WORD p_OUTPUT_BIT v_OUTPUT_BIT p_MEMORY_WORD v_MEMORY_WORD p_INPUT_WORD v_INPUT_WORD a_DigitOnes k_INPUT_BIT k_OUTPUT_WORD k_OUTPUT_BIT k_MEMORY_WORD k_INPUT_WORD ucs uff) (E_ua : Exa Z h0 ua "java/lang/String") (F_ua_value : Fld Z h0 ua "java/lang/String" "value" "[B" (.ref ub)) (F_ua_coder : Fld Z h0 ua "java/lang/String" "coder" "B" (.int 0)) (V_ub : Arv Z h0 ub kb .byte (6 : Int32) [(.int ux0), (.int ux1), (.int ux2), (.int ux3), (.int ux4), (.int ux5)] (.int 0))   :
    MetFree l (⟨"java/lang/String", "length", "()I"⟩ : MethodName) (head1 (Jvm.Cond.code (⟨"java/lang/String", "length", "()I"⟩ : MethodName) jdk_42_method_54_code 1 (some .int) :: ws) ({ frames := 1, cells := 0, slots := 0, locals := 13 } : Room)) (fun a U => a = #[(.ref ua)] ∧ Z.Warmed39 U.vm ∧ U.heap = h0) (fun _ _ _ _ _ => True) (fun _ U o U' => ∃ v L, o = .returned v ∧ (own_Q_rmLen6 Z ua ub kb ux0 ux1 ux2 ux3 ux4 ux5 h0 n0) v U'.heap L ∧ FrameEnd U o U' L 0 0) := by
  refine MetFree.of_bodySF pn_rmLen6 hisR ?_
  intro p e s m args below meth c s₁ Bd hml0 hP hK
  obtain ⟨rfl, hZ, hh⟩ := hP
  have hx := Bd.exec
  have hby := Bd.bytes
  have hml : c.maxLocals = 1 := hml0
  have hown : s.vm.findClass "java/lang/String" = some m.cls := findClass_of_methodNamed Bd.named
  have hnm := (name_of_methodNamed Bd.named Bd.method).1
  have hrt := Bd.returns
  have hlk := Bd.notSynchronized
  have X0 : Stand p l e ({ frames := 1, cells := 0, slots := 0, locals := 13 } : Room) s m #[(.ref ua)] below meth c s₁ [] 0 0 := Stand.of_body Bd
  have e0 : s₁.heap = h0 := by rw [← hh, Bd.state]; rfl
  have N0 := Fr.nil n0
  have K0 := Keep.refl h0 []
  have lt_E_ua := own_lt E_ua.lt
  have lt_V_ub := own_lt V_ub.lt
  have nl_ua_ub := own_lg (Exa.neArv E_ua V_ub (own_hw 134 hw rfl))
  refine own_done (B := s₁.setTop (mkF m 0 #[VR ua] [])) (fun t k => castTop (ef_rmLen6 m ua) k) ?_
  refine own_by (B := s₁.setTop (mkF m 1 #[VR ua] [(.ref ua)])) (fun _ k => XS.aloadN X0.here hx rfl (hb hby d11_0) rfl rfl  k) ?_
  obtain ⟨T1, X1, e1, st1⟩ := getF X0 hx hZ hown (host := "") (Or.inl (own_hw 74 hw rfl)) Via.refl e0 F_ua_value (g := (mkF m 1 #[VR ua] [(.ref ua)])) rfl rfl (hb hby d11_1)
  refine own_by (B := T1.setTop (mkF m 4 #[VR ua] [(.ref ub)])) st1 ?_
  obtain ⟨cl2, Ar2, qq2, Sz2, Nn2, Hh2, Gg2⟩ := id (V_ub)
  refine own_by (B := T1.setTop (mkF m 5 #[VR ua] [(.int 6)])) (fun t k => X1.arraylength hx (by rw [e1]; exact Ar2.1) (State.isArrayOf_alike hZ.alike Ar2.2.1) (g := (mkF m 4 #[VR ua] [(.ref ub)])) rfl rfl (hb hby d11_4) t (by rw [len_of Sz2 Nn2]; exact k)) ?_
  refine own_by (B := T1.setTop (mkF m 6 #[VR ua] [(.ref ua), (.int 6)])) (fun _ k => XS.aloadN X1.here hx rfl (hb hby d11_5) rfl rfl  k) ?_
  obtain ⟨cq3, kq3, qa3, qb3, qc3⟩ := isOf hZ e1 E_ua
  obtain ⟨_, _, ⟨T3, L3, k3, n3⟩, -, X3, ⟨Lc3, hQ3, l3, y3, z3⟩, st3⟩ := X1.virtualBack hx (y := (⟨"java/lang/String", "coder", "()B"⟩ : MethodName)) (z := (⟨"java/lang/String", "coder", "()B"⟩ : MethodName)) hown (mvT hZ (own_hw 76 hw rfl)) (mvT hZ (own_hw 77 hw rfl)) (notFace_of_selects (args := #[]) (mvT hZ (own_hw 79 hw rfl))) (mvT hZ (own_hw 79 hw rfl)) (mvT hZ (own_hw 78 hw rfl)) (by decide) (backOf (W := 1) (rmCoder6 l Z a0 hw [] a_INPUT_BIT a_OUTPUT_BIT a_OUTPUT_WORD a_INPUT_WORD a_MEMORY_WORD p_INPUT_BIT v_INPUT_BIT p_OUTPUT_WORD v_OUTPUT_WORD p_OUTPUT_BIT v_OUTPUT_BIT p_MEMORY_WORD v_MEMORY_WORD p_INPUT_WORD v_INPUT_WORD a_DigitOnes k_INPUT_BIT k_OUTPUT_WORD k_OUTPUT_BIT k_MEMORY_WORD k_INPUT_WORD ucs uff ua ub kb ux0 ux1 ux2 ux3 ux4 ux5 h0 n0 (own_old_le O0) O0 HW E_ua F_ua_value F_ua_coder V_ub) hZ (own_hw 80 hw rfl) (own_hw 51 hw rfl) (by decide) (by decide)) qa3 qc3 (g := (mkF m 6 #[VR ua] [(.ref ua), (.int 6)])) rfl (by rw [hml]; rfl) (Steps.refl _) (argsL := []) (rest := [(.int 6)]) (lenOf pd_11___B rfl) rfl (by show 2 * 0 + _ ≤ _; exact Nat.le_of_eq rfl) (hb hby d11_6) (fun _ _ => ⟨rfl, e1, (by decide : 0 + 0 ≤ _), (by decide : 0 + 0 ≤ _)⟩)
  dsimp only [Pt.U, Pt.locs, Pt.cells, Pt.slots] at X3 l3 y3 z3 st3 hQ3
  subst l3 y3 z3
  obtain ⟨rfl, NC3, KC3⟩ := hQ3
  refine own_by (B := T3.setTop (mkF m 9 #[VR ua] [(.int 0), (.int 6)])) (fun _ k => st3.trans k) ?_
  obtain ⟨h3, e3⟩ : ∃ z, T3.heap = z := ⟨_, rfl⟩
  rw [e3] at KC3
  have sz3 := KC3.1
  have O3 := O0.keep KC3 all0
  have K3 := K0.trans KC3 all0
  have N3 := Fr.app N0 NC3
  refine own_by (B := T3.setTop (mkF m 10 #[VR ua] [(.int 6)])) (fun _ k => XT.ishr X3.here hx rfl (hb hby d11_9) rfl k) ?_
  exact own_retI X3 hx hrt hlk (hb hby d11_10) (by decide) (by decide) (by show own_Q_rmLen6 Z ua ub kb ux0 ux1 ux2 ux3 ux4 ux5 h0 n0 _ T3.heap _; rw [e3]; exact ⟨rfl, N3, K3⟩)

def own_Q_rmASBi (Z : State) (ua : Nat) (h0 : Heap) (n0 : Nat) (v : Option Value) (h : Heap) (L : List Loc) : Prop := ∃ (r0_ : Nat) (kr0_ : ClassId), v = none ∧ Fr n0 L ∧ Keep h0 h [ua] ∧ h0.size ≤ r0_ ∧ Exa Z h ua "java/lang/StringBuilder" ∧ Fld Z h ua "java/lang/AbstractStringBuilder" "value" "[B" (.ref r0_) ∧ Fld Z h ua "java/lang/AbstractStringBuilder" "coder" "B" (.int 0) ∧ Fld Z h ua "java/lang/AbstractStringBuilder" "count" "I" (.int 0) ∧ Arv Z h r0_ kr0_ .byte (16 : Int32) [(.int 0), (.int 0), (.int 0), (.int 0), (.int 0), (.int 0), (.int 0), (.int 0), (.int 0), (.int 0), (.int 0), (.int 0), (.int 0), (.int 0), (.int 0), (.int 0)] (.int 0)

theorem d8_0 : decode jdk_68_method_2_code 0 = .ok (.aload_n 0, 1) := by decide +kernel
theorem d8_1 : decode jdk_68_method_2_code 1 = .ok (.invokespecial 3, 3) := by decide +kernel
theorem d8_4 : decode jdk_68_method_2_code 4 = .ok (.getstatic 18, 3) := by decide +kernel
theorem d8_7 : decode jdk_68_method_2_code 7 = .ok (.ifCond .eq 18, 3) := by decide +kernel
theorem d8_10 : decode jdk_68_method_2_code 10 = .ok (.aload_n 0, 1) := by decide +kernel
theorem d8_11 : decode jdk_68_method_2_code 11 = .ok (.iload_n 1, 1) := by decide +kernel
theorem d8_12 : decode jdk_68_method_2_code 12 = .ok (.newarray .byte, 2) := by decide +kernel
theorem d8_14 : decode jdk_68_method_2_code 14 = .ok (.putfield 15, 3) := by decide +kernel
theorem d8_17 : decode jdk_68_method_2_code 17 = .ok (.aload_n 0, 1) := by decide +kernel
theorem d8_18 : decode jdk_68_method_2_code 18 = .ok (.iconst 0, 1) := by decide +kernel
theorem d8_19 : decode jdk_68_method_2_code 19 = .ok (.putfield 22, 3) := by decide +kernel
theorem d8_22 : decode jdk_68_method_2_code 22 = .ok (.goto 16, 3) := by decide +kernel
theorem d8_38 : decode jdk_68_method_2_code 38 = .ok (.return_, 1) := by decide +kernel
theorem pn_rmASBi : plainFor (⟨"java/lang/AbstractStringBuilder", "<init>", "(I)V"⟩ : MethodName) = true := by first | exact plainFor_of_name (by first | (simp [plainName, overriddenIn]; done) | decide +kernel) | exact Jvm.Free.JP.mathPlain rfl (by decide +kernel) | decide +kernel
theorem ef_rmASBi (m : MethodId) (x0 : Nat) (x1 : Int32) : entryFrame m #[(.ref x0), (.int x1)] 2 = mkF m 0 #[VR x0, VI x1] [] := by first | (simp [entryFrame, mkF, argsToLocals, Value.category]; done) | rfl
set_option maxRecDepth 65536 in
set_option maxHeartbeats 40000000 in
theorem rmASBi (l : Launch) (Z : State) (a0 : Array Value) (hw : ∀ d ∈ tables_1, d.before a0 Z = true) (ws : List Jvm.Cond) (a_INPUT_BIT a_OUTPUT_BIT a_OUTPUT_WORD a_INPUT_WORD a_MEMORY_WORD p_INPUT_BIT v_INPUT_BIT p_OUTPUT_WORD v_OUTPUT_WORD p_OUTPUT_BIT v_OUTPUT_BIT p_MEMORY_WORD v_MEMORY_WORD p_INPUT_WORD v_INPUT_WORD a_DigitOnes : Nat) (k_INPUT_BIT : ClassId) (k_OUTPUT_WORD : ClassId) (k_OUTPUT_BIT : ClassId) (k_MEMORY_WORD : ClassId) (k_INPUT_WORD : ClassId) (ucs : Int32) (uff : Value) (ua : Nat) (h0 : Heap) (n0 : Nat) (Z0 : n0 ≤ h0.size) (O0 : Old Z n0 h0) (HW : own_W Z Z.heap a_INPUT_BIT a_OUTPUT_BIT a_OUTPUT_WORD a_INPUT_WORD a_MEMORY_WORD p_INPUT_BIT v_INPUT_BIT p_OUTPUT_WORD v_OUTPUT_WORD p_OUTPUT_BIT v_OUTPUT_BIT p_MEMORY_WORD v_MEMORY_WORD p_INPUT_WORD v_INPUT_WORD a_DigitOnes k_INPUT_BIT k_OUTPUT_WORD k_OUTPUT_BIT k_MEMORY_WORD k_INPUT_WORD ucs uff) (E_ua : Exa Z h0 ua "java/lang/StringBuilder") (F_ua_value : Fld Z h0 ua "java/lang/AbstractStringBuilder" "value" "[B" .null) (F_ua_coder : Fld Z h0 ua "java/lang/AbstractStringBuilder" "coder" "B" (.int 0)) (F_ua_count : Fld Z h0 ua "java/lang/AbstractStringBuilder" "count" "I" (.int 0)) (gn_ua : n0 ≤ ua)  :
    MetFree l (⟨"java/lang/AbstractStringBuilder", "<init>", "(I)V"⟩ : MethodName) (head1 (Jvm.Cond.code (⟨"java/lang/AbstractStringBuilder", "<init>", "(I)V"⟩ : MethodName) jdk_68_method_2_code 2 none :: ws) ({ frames := 1, cells := 1, slots := 16, locals := 12 } : Room)) (fun a U => a = #[(.ref ua), (.int 16)] ∧ Z.Warmed39 U.vm ∧ U.heap = h0) (fun _ _ _ _ _ => True) (fun _ U o U' => ∃ v L, o = .returned v ∧ (own_Q_rmASBi Z ua h0 n0) v U'.heap L ∧ FrameEnd U o U' L 1 16) := by
  refine MetFree.of_bodySF pn_rmASBi hisR ?_
  intro p e s m args below meth c s₁ Bd hml0 hP hK
  obtain ⟨rfl, hZ, hh⟩ := hP
  have hx := Bd.exec
  have hby := Bd.bytes
  have hml : c.maxLocals = 2 := hml0
  have hown : s.vm.findClass "java/lang/AbstractStringBuilder" = some m.cls := findClass_of_methodNamed Bd.named
  have hnm := (name_of_methodNamed Bd.named Bd.method).1
  have hrt := Bd.returns
  have hlk := Bd.notSynchronized
  have X0 : Stand p l e ({ frames := 1, cells := 1, slots := 16, locals := 12 } : Room) s m #[(.ref ua), (.int 16)] below meth c s₁ [] 0 0 := Stand.of_body Bd
  have e0 : s₁.heap = h0 := by rw [← hh, Bd.state]; rfl
  have N0 := Fr.nil n0
  have K0 := Keep.refl h0 [ua]
  have HW' := HW
  obtain ⟨-, -, -, -, -, -, -, -, -, -, -, -, -, -, -, -, -, -, -, -, -, -, -, -, -, -, -, -, -, -, -, -, -, -, -, -, -, -, -, -, S_CS, H_CS, -, -, -, -⟩ := HW'
  have lt_E_ua := own_lt E_ua.lt
  refine own_done (B := s₁.setTop (mkF m 0 #[VR ua, VI 16] [])) (fun t k => castTop (ef_rmASBi m ua (16 : Int32)) k) ?_
  refine own_by (B := s₁.setTop (mkF m 1 #[VR ua, VI 16] [(.ref ua)])) (fun _ k => XS.aloadN X0.here hx rfl (hb hby d8_0) rfl rfl  k) ?_
  obtain ⟨T1, X1, e1, st1⟩ := initO X0 hx hZ hown (own_hw 49 hw rfl) (own_hw 20 hw rfl) (own_hw 21 hw rfl) e0 (g := (mkF m 1 #[VR ua, VI 16] [(.ref ua)])) rfl (by rw [hml]; rfl) rfl (hb hby d8_1) (by decide) (W := 0) (by show 2 * 0 + _ ≤ _; exact Nat.le_of_eq rfl) (by decide)
  refine own_by (B := T1.setTop (mkF m 4 #[VR ua, VI 16] [])) st1 ?_
  obtain ⟨T2, X2, e2, st2⟩ := getS2 X1 hx hZ hown (host := "") (Or.inl (own_hw 50 hw rfl)) Via.refl e1 (S_CS.ext O0.2) (g := (mkF m 4 #[VR ua, VI 16] [])) rfl (hb hby d8_4)
  refine own_by (B := T2.setTop (mkF m 7 #[VR ua, VI 16] [(.int ucs)])) st2 ?_
  refine own_by (B := T2.setTop (mkF m 10 #[VR ua, VI 16] [])) (fun _ k => XS.ifNo X2.here hx rfl (hb hby d8_7) rfl (XT.i0_eq_f H_CS) k) ?_
  refine own_by (B := T2.setTop (mkF m 11 #[VR ua, VI 16] [(.ref ua)])) (fun _ k => XS.aloadN X2.here hx rfl (hb hby d8_10) rfl rfl  k) ?_
  refine own_by (B := T2.setTop (mkF m 12 #[VR ua, VI 16] [(.int 16), (.ref ua)])) (fun _ k => XS.iloadN X2.here hx rfl (hb hby d8_11) rfl  k) ?_
  obtain ⟨T3, h3, ka3, X3, e3, E3, A3, st3⟩ := newP X2 hx hZ (own_hw 52 hw rfl) e2 (g := (mkF m 12 #[VR ua, VI 16] [(.int 16), (.ref ua)])) rfl (hb hby d8_12) rfl (by decide) (cap := 16) (by decide) (by decide) (by decide) (by decide)
  obtain ⟨b3, g3⟩ : ∃ z, z = h0.size := ⟨_, rfl⟩
  rw [← g3] at A3 st3
  have sz3 := E3.1
  have gn3 : n0 ≤ b3 := g3 ▸ own_old_le O0
  have fz3 : h0.size ≤ b3 := g3 ▸ K0.1
  have lt3 := own_lt A3.lt
  have O3 := O0.ext E3
  have K3 := K0.ext E3
  have V3 : Arv Z h3 b3 ka3 .byte (16 : Int32) [(.int 0), (.int 0), (.int 0), (.int 0), (.int 0), (.int 0), (.int 0), (.int 0), (.int 0), (.int 0), (.int 0), (.int 0), (.int 0), (.int 0), (.int 0), (.int 0)] (.int 0) := (Arv.new A3 (by decide)).pad (pad_rep [] (.int 0) 16)
  refine own_by (B := T3.setTop (mkF m 14 #[VR ua, VI 16] [(.ref b3), (.ref ua)])) st3 ?_
  have c5 := (E_ua.ext E3)
  have c6 := (F_ua_value.ext E3)
  obtain ⟨T4, h4, X4, e4, W4, st4⟩ := putF X3 hx hZ hown (host := "") (Or.inl (own_hw 53 hw rfl)) Via.refl e3 c6 c5 (Or.inl (own_hw 54 hw rfl)) (own_hw 38 hw rfl) (ty := (.array .byte)) (by decide) rfl rfl (g := (mkF m 14 #[VR ua, VI 16] [(.ref b3), (.ref ua)])) rfl rfl (hb hby d8_14)
  have sz4 := W4.size
  have O4 := O3.wr W4 gn_ua
  have K4 := K3.wr W4 (Or.inl (List.mem_of_getElem? (i := 0) rfl))
  have N4 := Fr.snoc X4 N0 gn_ua
  have F4 := c6.same W4
  refine own_by (B := T4.setTop (mkF m 17 #[VR ua, VI 16] [])) st4 ?_
  refine own_by (B := T4.setTop (mkF m 18 #[VR ua, VI 16] [(.ref ua)])) (fun _ k => XS.aloadN X4.here hx rfl (hb hby d8_17) rfl rfl  k) ?_
  refine own_by (B := T4.setTop (mkF m 19 #[VR ua, VI 16] [(.int 0), (.ref ua)])) (fun _ k => XS.iconst X4.here hx rfl (hb hby d8_18) k) ?_
  have c8 := (c5.wr W4)
  have c9 := ((F_ua_coder.ext E3).other W4 (Or.inr (slot_ne (Or.inl (own_hw 56 hw rfl)) (Or.inl (own_hw 54 hw rfl)) (by decide) (t := .byte) (t' := (.array .byte)) (by decide) (by decide))))
  obtain ⟨T7, h7, X7, e7, W7, st7⟩ := putF X4 hx hZ hown (host := "") (Or.inl (own_hw 55 hw rfl)) Via.refl e4 c9 c8 (Or.inl (own_hw 56 hw rfl)) (own_hw 38 hw rfl) (ty := .byte) (by decide) rfl rfl (g := (mkF m 19 #[VR ua, VI 16] [(.int 0), (.ref ua)])) rfl rfl (hb hby d8_19)
  have sz7 := W7.size
  have O7 := O4.wr W7 gn_ua
  have K7 := K4.wr W7 (Or.inl (List.mem_of_getElem? (i := 0) rfl))
  have N7 := Fr.snoc X7 N4 gn_ua
  have F7 := c9.same W7
  refine own_by (B := T7.setTop (mkF m 22 #[VR ua, VI 16] [])) st7 ?_
  refine own_by (B := T7.setTop (mkF m 38 #[VR ua, VI 16] [])) (fun _ k => XS.goto X7.here hx rfl (pc0 := 22) (pc' := 38) rfl (hb hby d8_22) (by decide) (by decide) k) ?_
  have c10 := (c8.wr W7)
  have c11 := (F4.other W7 (Or.inr (slot_ne (Or.inl (own_hw 54 hw rfl)) (Or.inl (own_hw 56 hw rfl)) (by decide) (t := (.array .byte)) (t' := .byte) (by decide) (by decide))))
  have c12 := (((F_ua_count.ext E3).other W4 (Or.inr (slot_ne (Or.inl (own_hw 85 hw rfl)) (Or.inl (own_hw 54 hw rfl)) (by decide) (t := .int) (t' := (.array .byte)) (by decide) (by decide)))).other W7 (Or.inr (slot_ne (Or.inl (own_hw 85 hw rfl)) (Or.inl (own_hw 56 hw rfl)) (by decide) (t := .int) (t' := .byte) (by decide) (by decide))))
  have c13 := ((V3.other W4 (own_ne (by omega))).other W7 (own_ne (by omega)))
  exact own_retV X7 hx hrt hlk (hb hby d8_38) (by decide) (by decide) (by show own_Q_rmASBi Z ua h0 n0 _ T7.heap _; rw [e7]; exact ⟨b3, ka3, rfl, N7, K7, fz3, c10, c11, F7, c12, c13⟩)

def own_Q_rmSBi (Z : State) (ua : Nat) (h0 : Heap) (n0 : Nat) (v : Option Value) (h : Heap) (L : List Loc) : Prop := ∃ (r0_ : Nat) (kr0_ : ClassId), v = none ∧ Fr n0 L ∧ Keep h0 h [ua] ∧ h0.size ≤ r0_ ∧ Exa Z h ua "java/lang/StringBuilder" ∧ Fld Z h ua "java/lang/AbstractStringBuilder" "value" "[B" (.ref r0_) ∧ Fld Z h ua "java/lang/AbstractStringBuilder" "coder" "B" (.int 0) ∧ Fld Z h ua "java/lang/AbstractStringBuilder" "count" "I" (.int 0) ∧ Arv Z h r0_ kr0_ .byte (16 : Int32) [(.int 0), (.int 0), (.int 0), (.int 0), (.int 0), (.int 0), (.int 0), (.int 0), (.int 0), (.int 0), (.int 0), (.int 0), (.int 0), (.int 0), (.int 0), (.int 0)] (.int 0)

theorem d7_0 : decode jdk_67_method_1_code 0 = .ok (.aload_n 0, 1) := by decide +kernel
theorem d7_1 : decode jdk_67_method_1_code 1 = .ok (.bipush 16, 2) := by decide +kernel
theorem d7_3 : decode jdk_67_method_1_code 3 = .ok (.invokespecial 1, 3) := by decide +kernel
theorem d7_6 : decode jdk_67_method_1_code 6 = .ok (.return_, 1) := by decide +kernel
theorem pd_7__I_V : parseMethodDescriptor "(I)V" = some ⟨[.int], none⟩ := by decide +kernel
theorem pn_rmSBi : plainFor (⟨"java/lang/StringBuilder", "<init>", "()V"⟩ : MethodName) = true := by first | exact plainFor_of_name (by first | (simp [plainName, overriddenIn]; done) | decide +kernel) | exact Jvm.Free.JP.mathPlain rfl (by decide +kernel) | decide +kernel
theorem ef_rmSBi (m : MethodId) (x0 : Nat) : entryFrame m #[(.ref x0)] 1 = mkF m 0 #[VR x0] [] := by first | (simp [entryFrame, mkF, argsToLocals, Value.category]; done) | rfl
set_option maxRecDepth 65536 in
set_option maxHeartbeats 40000000 in
theorem rmSBi (l : Launch) (Z : State) (a0 : Array Value) (hw : ∀ d ∈ tables_1, d.before a0 Z = true) (ws : List Jvm.Cond) (a_INPUT_BIT a_OUTPUT_BIT a_OUTPUT_WORD a_INPUT_WORD a_MEMORY_WORD p_INPUT_BIT v_INPUT_BIT p_OUTPUT_WORD v_OUTPUT_WORD p_OUTPUT_BIT v_OUTPUT_BIT p_MEMORY_WORD v_MEMORY_WORD p_INPUT_WORD v_INPUT_WORD a_DigitOnes : Nat) (k_INPUT_BIT : ClassId) (k_OUTPUT_WORD : ClassId) (k_OUTPUT_BIT : ClassId) (k_MEMORY_WORD : ClassId) (k_INPUT_WORD : ClassId) (ucs : Int32) (uff : Value) (ua : Nat) (h0 : Heap) (n0 : Nat) (Z0 : n0 ≤ h0.size) (O0 : Old Z n0 h0) (HW : own_W Z Z.heap a_INPUT_BIT a_OUTPUT_BIT a_OUTPUT_WORD a_INPUT_WORD a_MEMORY_WORD p_INPUT_BIT v_INPUT_BIT p_OUTPUT_WORD v_OUTPUT_WORD p_OUTPUT_BIT v_OUTPUT_BIT p_MEMORY_WORD v_MEMORY_WORD p_INPUT_WORD v_INPUT_WORD a_DigitOnes k_INPUT_BIT k_OUTPUT_WORD k_OUTPUT_BIT k_MEMORY_WORD k_INPUT_WORD ucs uff) (E_ua : Exa Z h0 ua "java/lang/StringBuilder") (F_ua_value : Fld Z h0 ua "java/lang/AbstractStringBuilder" "value" "[B" .null) (F_ua_coder : Fld Z h0 ua "java/lang/AbstractStringBuilder" "coder" "B" (.int 0)) (F_ua_count : Fld Z h0 ua "java/lang/AbstractStringBuilder" "count" "I" (.int 0)) (gn_ua : n0 ≤ ua)  :
    MetFree l (⟨"java/lang/StringBuilder", "<init>", "()V"⟩ : MethodName) (head1 (Jvm.Cond.code (⟨"java/lang/StringBuilder", "<init>", "()V"⟩ : MethodName) jdk_67_method_1_code 1 none :: ws) ({ frames := 2, cells := 1, slots := 16, locals := 25 } : Room)) (fun a U => a = #[(.ref ua)] ∧ Z.Warmed39 U.vm ∧ U.heap = h0) (fun _ _ _ _ _ => True) (fun _ U o U' => ∃ v L, o = .returned v ∧ (own_Q_rmSBi Z ua h0 n0) v U'.heap L ∧ FrameEnd U o U' L 1 16) := by
  refine MetFree.of_bodySF pn_rmSBi hisR ?_
  intro p e s m args below meth c s₁ Bd hml0 hP hK
  obtain ⟨rfl, hZ, hh⟩ := hP
  have hx := Bd.exec
  have hby := Bd.bytes
  have hml : c.maxLocals = 1 := hml0
  have hown : s.vm.findClass "java/lang/StringBuilder" = some m.cls := findClass_of_methodNamed Bd.named
  have hnm := (name_of_methodNamed Bd.named Bd.method).1
  have hrt := Bd.returns
  have hlk := Bd.notSynchronized
  have X0 : Stand p l e ({ frames := 2, cells := 1, slots := 16, locals := 25 } : Room) s m #[(.ref ua)] below meth c s₁ [] 0 0 := Stand.of_body Bd
  have e0 : s₁.heap = h0 := by rw [← hh, Bd.state]; rfl
  have N0 := Fr.nil n0
  have K0 := Keep.refl h0 [ua]
  have lt_E_ua := own_lt E_ua.lt
  refine own_done (B := s₁.setTop (mkF m 0 #[VR ua] [])) (fun t k => castTop (ef_rmSBi m ua) k) ?_
  refine own_by (B := s₁.setTop (mkF m 1 #[VR ua] [(.ref ua)])) (fun _ k => XS.aloadN X0.here hx rfl (hb hby d7_0) rfl rfl  k) ?_
  refine own_by (B := s₁.setTop (mkF m 3 #[VR ua] [(.int 16), (.ref ua)])) (fun _ k => XS.bipush X0.here hx rfl (hb hby d7_1) k) ?_
  obtain ⟨_, _, ⟨T1, L1, k1, n1⟩, -, X1, ⟨Lc1, hQ1, l1, y1, z1⟩, st1⟩ := X0.specialBack hx (y := (⟨"java/lang/AbstractStringBuilder", "<init>", "(I)V"⟩ : MethodName)) rfl hown (mvT hZ (own_hw 43 hw rfl)) (mvT hZ (own_hw 44 hw rfl)) (mvT hZ (own_hw 48 hw rfl)) (by decide) (backOf (W := 0) (rmASBi l Z a0 hw [] a_INPUT_BIT a_OUTPUT_BIT a_OUTPUT_WORD a_INPUT_WORD a_MEMORY_WORD p_INPUT_BIT v_INPUT_BIT p_OUTPUT_WORD v_OUTPUT_WORD p_OUTPUT_BIT v_OUTPUT_BIT p_MEMORY_WORD v_MEMORY_WORD p_INPUT_WORD v_INPUT_WORD a_DigitOnes k_INPUT_BIT k_OUTPUT_WORD k_OUTPUT_BIT k_MEMORY_WORD k_INPUT_WORD ucs uff ua h0 n0 (own_old_le O0) O0 HW E_ua F_ua_value F_ua_coder F_ua_count gn_ua) hZ (own_hw 48 hw rfl) (own_hw 47 hw rfl) (by decide) (by decide)) (g := (mkF m 3 #[VR ua] [(.int 16), (.ref ua)])) rfl (by rw [hml]; rfl) (Steps.refl _) (a := ua) (argsL := [(.int 16)]) (rest := []) (lenOf pd_7__I_V rfl) rfl (by show 2 * 0 + _ ≤ _; exact Nat.le_of_eq rfl) (hb hby d7_3) (fun _ _ => ⟨rfl, e0, (by decide : 0 + 1 ≤ _), (by decide : 0 + 16 ≤ _)⟩)
  dsimp only [Pt.U, Pt.locs, Pt.cells, Pt.slots] at X1 l1 y1 z1 st1 hQ1
  subst l1 y1 z1
  obtain ⟨r0_N1, kr0_N1, rfl, NC1, KC1, hb0_N1, Q0_N1, Q1_N1, Q2_N1, Q3_N1, Q4_N1⟩ := hQ1
  refine own_by (B := T1.setTop (mkF m 6 #[VR ua] [])) (fun _ k => st1.trans k) ?_
  have gnr0_N1 : n0 ≤ r0_N1 := Nat.le_trans (own_old_le O0) hb0_N1
  have fzr0_N1 : h0.size ≤ r0_N1 := Nat.le_trans K0.1 hb0_N1
  obtain ⟨h1, e1⟩ : ∃ z, T1.heap = z := ⟨_, rfl⟩
  rw [e1] at KC1 Q0_N1 Q1_N1 Q2_N1 Q3_N1 Q4_N1
  have sz1 := KC1.1
  have O1 := O0.keep KC1 (allS gn_ua all0)
  have K1 := K0.trans KC1 (allS (Or.inl (List.mem_of_getElem? (i := 0) rfl)) all0)
  have N1 := Fr.app N0 NC1
  have ltq4_1 := own_lt Q4_N1.lt
  exact own_retV X1 hx hrt hlk (hb hby d7_6) (by decide) (by decide) (by show own_Q_rmSBi Z ua h0 n0 _ T1.heap _; rw [e1]; exact ⟨r0_N1, kr0_N1, rfl, N1, K1, fzr0_N1, Q0_N1, Q1_N1, Q2_N1, Q3_N1, Q4_N1⟩)

def own_Q_rmEns0_3 (Z : State) (ua : Nat) (ub : Nat) (kb : ClassId) (h0 : Heap) (n0 : Nat) (v : Option Value) (h : Heap) (L : List Loc) : Prop := v = none ∧ Fr n0 L ∧ Keep h0 h []

theorem d13_0 : decode jdk_68_method_9_code 0 = .ok (.aload_n 0, 1) := by decide +kernel
theorem d13_1 : decode jdk_68_method_9_code 1 = .ok (.getfield 15, 3) := by decide +kernel
theorem d13_4 : decode jdk_68_method_9_code 4 = .ok (.arraylength, 1) := by decide +kernel
theorem d13_5 : decode jdk_68_method_9_code 5 = .ok (.aload_n 0, 1) := by decide +kernel
theorem d13_6 : decode jdk_68_method_9_code 6 = .ok (.getfield 22, 3) := by decide +kernel
theorem d13_9 : decode jdk_68_method_9_code 9 = .ok (.ishr, 1) := by decide +kernel
theorem d13_10 : decode jdk_68_method_9_code 10 = .ok (.istore_n 2, 1) := by decide +kernel
theorem d13_11 : decode jdk_68_method_9_code 11 = .ok (.iload_n 1, 1) := by decide +kernel
theorem d13_12 : decode jdk_68_method_9_code 12 = .ok (.iload_n 2, 1) := by decide +kernel
theorem d13_13 : decode jdk_68_method_9_code 13 = .ok (.isub, 1) := by decide +kernel
theorem d13_14 : decode jdk_68_method_9_code 14 = .ok (.ifCond .le 24, 3) := by decide +kernel
theorem d13_38 : decode jdk_68_method_9_code 38 = .ok (.return_, 1) := by decide +kernel
theorem pn_rmEns0_3 : plainFor (⟨"java/lang/AbstractStringBuilder", "ensureCapacityInternal", "(I)V"⟩ : MethodName) = true := by first | exact plainFor_of_name (by first | (simp [plainName, overriddenIn]; done) | decide +kernel) | exact Jvm.Free.JP.mathPlain rfl (by decide +kernel) | decide +kernel
theorem ef_rmEns0_3 (m : MethodId) (x0 : Nat) (x1 : Int32) : entryFrame m #[(.ref x0), (.int x1)] 3 = mkF m 0 #[VR x0, VI x1, UU] [] := by first | (simp [entryFrame, mkF, argsToLocals, Value.category]; done) | rfl
set_option maxRecDepth 65536 in
set_option maxHeartbeats 40000000 in
theorem rmEns0_3 (l : Launch) (Z : State) (a0 : Array Value) (hw : ∀ d ∈ tables_1, d.before a0 Z = true) (ws : List Jvm.Cond) (a_INPUT_BIT a_OUTPUT_BIT a_OUTPUT_WORD a_INPUT_WORD a_MEMORY_WORD p_INPUT_BIT v_INPUT_BIT p_OUTPUT_WORD v_OUTPUT_WORD p_OUTPUT_BIT v_OUTPUT_BIT p_MEMORY_WORD v_MEMORY_WORD p_INPUT_WORD v_INPUT_WORD a_DigitOnes : Nat) (k_INPUT_BIT : ClassId) (k_OUTPUT_WORD : ClassId) (k_OUTPUT_BIT : ClassId) (k_MEMORY_WORD : ClassId) (k_INPUT_WORD : ClassId) (ucs : Int32) (uff : Value) (ua : Nat) (ub : Nat) (kb : ClassId) (h0 : Heap) (n0 : Nat) (Z0 : n0 ≤ h0.size) (O0 : Old Z n0 h0) (HW : own_W Z Z.heap a_INPUT_BIT a_OUTPUT_BIT a_OUTPUT_WORD a_INPUT_WORD a_MEMORY_WORD p_INPUT_BIT v_INPUT_BIT p_OUTPUT_WORD v_OUTPUT_WORD p_OUTPUT_BIT v_OUTPUT_BIT p_MEMORY_WORD v_MEMORY_WORD p_INPUT_WORD v_INPUT_WORD a_DigitOnes k_INPUT_BIT k_OUTPUT_WORD k_OUTPUT_BIT k_MEMORY_WORD k_INPUT_WORD ucs uff) (E_ua : Exa Z h0 ua "java/lang/StringBuilder") (F_ua_value : Fld Z h0 ua "java/lang/AbstractStringBuilder" "value" "[B" (.ref ub)) (F_ua_coder : Fld Z h0 ua "java/lang/AbstractStringBuilder" "coder" "B" (.int 0)) (F_ua_count : Fld Z h0 ua "java/lang/AbstractStringBuilder" "count" "I" (.int 0)) (V_ub : Arv Z h0 ub kb .byte (16 : Int32) [(.int 0), (.int 0), (.int 0), (.int 0), (.int 0), (.int 0), (.int 0), (.int 0), (.int 0), (.int 0), (.int 0), (.int 0), (.int 0), (.int 0), (.int 0), (.int 0)] (.int 0))   :
    MetFree l (⟨"java/lang/AbstractStringBuilder", "ensureCapacityInternal", "(I)V"⟩ : MethodName) (head1 (Jvm.Cond.code (⟨"java/lang/AbstractStringBuilder", "ensureCapacityInternal", "(I)V"⟩ : MethodName) jdk_68_method_9_code 3 none :: ws) ({ frames := 0, cells := 0, slots := 0, locals := 0 } : Room)) (fun a U => a = #[(.ref ua), (.int 3)] ∧ Z.Warmed39 U.vm ∧ U.heap = h0) (fun _ _ _ _ _ => True) (fun _ U o U' => ∃ v L, o = .returned v ∧ (own_Q_rmEns0_3 Z ua ub kb h0 n0) v U'.heap L ∧ FrameEnd U o U' L 0 0) := by
  refine MetFree.of_bodySF pn_rmEns0_3 hisR ?_
  intro p e s m args below meth c s₁ Bd hml0 hP hK
  obtain ⟨rfl, hZ, hh⟩ := hP
  have hx := Bd.exec
  have hby := Bd.bytes
  have hml : c.maxLocals = 3 := hml0
  have hown : s.vm.findClass "java/lang/AbstractStringBuilder" = some m.cls := findClass_of_methodNamed Bd.named
  have hnm := (name_of_methodNamed Bd.named Bd.method).1
  have hrt := Bd.returns
  have hlk := Bd.notSynchronized
  have X0 : Stand p l e ({ frames := 0, cells := 0, slots := 0, locals := 0 } : Room) s m #[(.ref ua), (.int 3)] below meth c s₁ [] 0 0 := Stand.of_body Bd
  have e0 : s₁.heap = h0 := by rw [← hh, Bd.state]; rfl
  have N0 := Fr.nil n0
  have K0 := Keep.refl h0 []
  have lt_E_ua := own_lt E_ua.lt
  have lt_V_ub := own_lt V_ub.lt
  have nl_ua_ub := own_lg (Exa.neArv E_ua V_ub (own_hw 38 hw rfl))
  refine own_done (B := s₁.setTop (mkF m 0 #[VR ua, VI 3, UU] [])) (fun t k => castTop (ef_rmEns0_3 m ua (3 : Int32)) k) ?_
  refine own_by (B := s₁.setTop (mkF m 1 #[VR ua, VI 3, UU] [(.ref ua)])) (fun _ k => XS.aloadN X0.here hx rfl (hb hby d13_0) rfl rfl  k) ?_
  obtain ⟨T1, X1, e1, st1⟩ := getF X0 hx hZ hown (host := "") (Or.inl (own_hw 53 hw rfl)) Via.refl e0 F_ua_value (g := (mkF m 1 #[VR ua, VI 3, UU] [(.ref ua)])) rfl rfl (hb hby d13_1)
  refine own_by (B := T1.setTop (mkF m 4 #[VR ua, VI 3, UU] [(.ref ub)])) st1 ?_
  obtain ⟨cl2, Ar2, qq2, Sz2, Nn2, Hh2, Gg2⟩ := id (V_ub)
  refine own_by (B := T1.setTop (mkF m 5 #[VR ua, VI 3, UU] [(.int 16)])) (fun t k => X1.arraylength hx (by rw [e1]; exact Ar2.1) (State.isArrayOf_alike hZ.alike Ar2.2.1) (g := (mkF m 4 #[VR ua, VI 3, UU] [(.ref ub)])) rfl rfl (hb hby d13_4) t (by rw [len_of Sz2 Nn2]; exact k)) ?_
  refine own_by (B := T1.setTop (mkF m 6 #[VR ua, VI 3, UU] [(.ref ua), (.int 16)])) (fun _ k => XS.aloadN X1.here hx rfl (hb hby d13_5) rfl rfl  k) ?_
  obtain ⟨T3, X3, e3, st3⟩ := getF X1 hx hZ hown (host := "") (Or.inl (own_hw 55 hw rfl)) Via.refl e1 F_ua_coder (g := (mkF m 6 #[VR ua, VI 3, UU] [(.ref ua), (.int 16)])) rfl rfl (hb hby d13_6)
  refine own_by (B := T3.setTop (mkF m 9 #[VR ua, VI 3, UU] [(.int 0), (.int 16)])) st3 ?_
  refine own_by (B := T3.setTop (mkF m 10 #[VR ua, VI 3, UU] [(.int 16)])) (fun _ k => XT.ishr X3.here hx rfl (hb hby d13_9) rfl k) ?_
  refine own_by (B := T3.setTop (mkF m 11 #[VR ua, VI 3, VI 16] [])) (fun _ k => XS.istoreN X3.here hx rfl (hb hby d13_10) rfl (l' := #[VR ua, VI 3, VI 16]) rfl k) ?_
  refine own_by (B := T3.setTop (mkF m 12 #[VR ua, VI 3, VI 16] [(.int 3)])) (fun _ k => XS.iloadN X3.here hx rfl (hb hby d13_11) rfl  k) ?_
  refine own_by (B := T3.setTop (mkF m 13 #[VR ua, VI 3, VI 16] [(.int 16), (.int 3)])) (fun _ k => XS.iloadN X3.here hx rfl (hb hby d13_12) rfl  k) ?_
  refine own_by (B := T3.setTop (mkF m 14 #[VR ua, VI 3, VI 16] [(.int (-13 : Int32))])) (fun _ k => XS.isub X3.here hx rfl (hb hby d13_13) rfl k) ?_
  refine own_by (B := T3.setTop (mkF m 38 #[VR ua, VI 3, VI 16] [])) (fun _ k => XS.ifYes X3.here hx rfl (pc0 := 14) (pc' := 38) rfl (hb hby d13_14) rfl (XT.i0_le_t (by decide)) (by decide) (by decide) k) ?_
  exact own_retV X3 hx hrt hlk (hb hby d13_38) (by decide) (by decide) (by show own_Q_rmEns0_3 Z ua ub kb h0 n0 _ T3.heap _; rw [e3]; exact ⟨rfl, N0, K0⟩)

def own_Q_rmInf0_3 (Z : State) (ua : Nat) (ub : Nat) (kb : ClassId) (uc : Nat) (ud : Nat) (kd : ClassId) (uy0 : Int32) (uy1 : Int32) (uy2 : Int32) (h0 : Heap) (n0 : Nat) (v : Option Value) (h : Heap) (L : List Loc) : Prop := v = none ∧ Fr n0 L ∧ Keep h0 h []

theorem d15_0 : decode jdk_68_method_71_code 0 = .ok (.getstatic 18, 3) := by decide +kernel
theorem d15_3 : decode jdk_68_method_71_code 3 = .ok (.ifCond .eq 18, 3) := by decide +kernel
theorem d15_6 : decode jdk_68_method_71_code 6 = .ok (.aload_n 0, 1) := by decide +kernel
theorem d15_7 : decode jdk_68_method_71_code 7 = .ok (.getfield 22, 3) := by decide +kernel
theorem d15_10 : decode jdk_68_method_71_code 10 = .ok (.aload_n 1, 1) := by decide +kernel
theorem d15_11 : decode jdk_68_method_71_code 11 = .ok (.invokevirtual 40, 3) := by decide +kernel
theorem d15_14 : decode jdk_68_method_71_code 14 = .ok (.if_icmp .eq 7, 3) := by decide +kernel
theorem d15_21 : decode jdk_68_method_71_code 21 = .ok (.return_, 1) := by decide +kernel
theorem pd_15___B : parseMethodDescriptor "()B" = some ⟨[], some .byte⟩ := by decide +kernel
theorem pn_rmInf0_3 : plainFor (⟨"java/lang/AbstractStringBuilder", "inflateIfNeededFor", "(Ljava/lang/String;)V"⟩ : MethodName) = true := by first | exact plainFor_of_name (by first | (simp [plainName, overriddenIn]; done) | decide +kernel) | exact Jvm.Free.JP.mathPlain rfl (by decide +kernel) | decide +kernel
theorem ef_rmInf0_3 (m : MethodId) (x0 : Nat) (x1 : Nat) : entryFrame m #[(.ref x0), (.ref x1)] 2 = mkF m 0 #[VR x0, VR x1] [] := by first | (simp [entryFrame, mkF, argsToLocals, Value.category]; done) | rfl
set_option maxRecDepth 65536 in
set_option maxHeartbeats 40000000 in
theorem rmInf0_3 (l : Launch) (Z : State) (a0 : Array Value) (hw : ∀ d ∈ tables_1, d.before a0 Z = true) (ws : List Jvm.Cond) (a_INPUT_BIT a_OUTPUT_BIT a_OUTPUT_WORD a_INPUT_WORD a_MEMORY_WORD p_INPUT_BIT v_INPUT_BIT p_OUTPUT_WORD v_OUTPUT_WORD p_OUTPUT_BIT v_OUTPUT_BIT p_MEMORY_WORD v_MEMORY_WORD p_INPUT_WORD v_INPUT_WORD a_DigitOnes : Nat) (k_INPUT_BIT : ClassId) (k_OUTPUT_WORD : ClassId) (k_OUTPUT_BIT : ClassId) (k_MEMORY_WORD : ClassId) (k_INPUT_WORD : ClassId) (ucs : Int32) (uff : Value) (ua : Nat) (ub : Nat) (kb : ClassId) (uc : Nat) (ud : Nat) (kd : ClassId) (uy0 : Int32) (uy1 : Int32) (uy2 : Int32) (h0 : Heap) (n0 : Nat) (Z0 : n0 ≤ h0.size) (O0 : Old Z n0 h0) (HW : own_W Z Z.heap a_INPUT_BIT a_OUTPUT_BIT a_OUTPUT_WORD a_INPUT_WORD a_MEMORY_WORD p_INPUT_BIT v_INPUT_BIT p_OUTPUT_WORD v_OUTPUT_WORD p_OUTPUT_BIT v_OUTPUT_BIT p_MEMORY_WORD v_MEMORY_WORD p_INPUT_WORD v_INPUT_WORD a_DigitOnes k_INPUT_BIT k_OUTPUT_WORD k_OUTPUT_BIT k_MEMORY_WORD k_INPUT_WORD ucs uff) (E_ua : Exa Z h0 ua "java/lang/StringBuilder") (F_ua_value : Fld Z h0 ua "java/lang/AbstractStringBuilder" "value" "[B" (.ref ub)) (F_ua_coder : Fld Z h0 ua "java/lang/AbstractStringBuilder" "coder" "B" (.int 0)) (F_ua_count : Fld Z h0 ua "java/lang/AbstractStringBuilder" "count" "I" (.int 0)) (V_ub : Arv Z h0 ub kb .byte (16 : Int32) [(.int 0), (.int 0), (.int 0), (.int 0), (.int 0), (.int 0), (.int 0), (.int 0), (.int 0), (.int 0), (.int 0), (.int 0), (.int 0), (.int 0), (.int 0), (.int 0)] (.int 0)) (E_uc : Exa Z h0 uc "java/lang/String") (F_uc_value : Fld Z h0 uc "java/lang/String" "value" "[B" (.ref ud)) (F_uc_coder : Fld Z h0 uc "java/lang/String" "coder" "B" (.int 0)) (V_ud : Arv Z h0 ud kd .byte (3 : Int32) [(.int uy0), (.int uy1), (.int uy2)] (.int 0))   :
    MetFree l (⟨"java/lang/AbstractStringBuilder", "inflateIfNeededFor", "(Ljava/lang/String;)V"⟩ : MethodName) (head1 (Jvm.Cond.code (⟨"java/lang/AbstractStringBuilder", "inflateIfNeededFor", "(Ljava/lang/String;)V"⟩ : MethodName) jdk_68_method_71_code 2 none :: ws) ({ frames := 1, cells := 0, slots := 0, locals := 13 } : Room)) (fun a U => a = #[(.ref ua), (.ref uc)] ∧ Z.Warmed39 U.vm ∧ U.heap = h0) (fun _ _ _ _ _ => True) (fun _ U o U' => ∃ v L, o = .returned v ∧ (own_Q_rmInf0_3 Z ua ub kb uc ud kd uy0 uy1 uy2 h0 n0) v U'.heap L ∧ FrameEnd U o U' L 0 0) := by
  refine MetFree.of_bodySF pn_rmInf0_3 hisR ?_
  intro p e s m args below meth c s₁ Bd hml0 hP hK
  obtain ⟨rfl, hZ, hh⟩ := hP
  have hx := Bd.exec
  have hby := Bd.bytes
  have hml : c.maxLocals = 2 := hml0
  have hown : s.vm.findClass "java/lang/AbstractStringBuilder" = some m.cls := findClass_of_methodNamed Bd.named
  have hnm := (name_of_methodNamed Bd.named Bd.method).1
  have hrt := Bd.returns
  have hlk := Bd.notSynchronized
  have X0 : Stand p l e ({ frames := 1, cells := 0, slots := 0, locals := 13 } : Room) s m #[(.ref ua), (.ref uc)] below meth c s₁ [] 0 0 := Stand.of_body Bd
  have e0 : s₁.heap = h0 := by rw [← hh, Bd.state]; rfl
  have N0 := Fr.nil n0
  have K0 := Keep.refl h0 []
  have HW' := HW
  obtain ⟨-, -, -, -, -, -, -, -, -, -, -, -, -, -, -, -, -, -, -, -, -, -, -, -, -, -, -, -, -, -, -, -, -, -, -, -, -, -, -, -, S_CS, H_CS, -, -, -, -⟩ := HW'
  have lt_E_ua := own_lt E_ua.lt
  have lt_V_ub := own_lt V_ub.lt
  have lt_E_uc := own_lt E_uc.lt
  have lt_V_ud := own_lt V_ud.lt
  have nl_ua_ub := own_lg (Exa.neArv E_ua V_ub (own_hw 38 hw rfl))
  have nl_ua_ud := own_lg (Exa.neArv E_ua V_ud (own_hw 38 hw rfl))
  have nl_uc_ub := own_lg (Exa.neArv E_uc V_ub (own_hw 134 hw rfl))
  have nl_uc_ud := own_lg (Exa.neArv E_uc V_ud (own_hw 134 hw rfl))
  refine own_done (B := s₁.setTop (mkF m 0 #[VR ua, VR uc] [])) (fun t k => castTop (ef_rmInf0_3 m ua uc) k) ?_
  obtain ⟨T1, X1, e1, st1⟩ := getS2 X0 hx hZ hown (host := "") (Or.inl (own_hw 50 hw rfl)) Via.refl e0 (S_CS.ext O0.2) (g := (mkF m 0 #[VR ua, VR uc] [])) rfl (hb hby d15_0)
  refine own_by (B := T1.setTop (mkF m 3 #[VR ua, VR uc] [(.int ucs)])) st1 ?_
  refine own_by (B := T1.setTop (mkF m 6 #[VR ua, VR uc] [])) (fun _ k => XS.ifNo X1.here hx rfl (hb hby d15_3) rfl (XT.i0_eq_f H_CS) k) ?_
  refine own_by (B := T1.setTop (mkF m 7 #[VR ua, VR uc] [(.ref ua)])) (fun _ k => XS.aloadN X1.here hx rfl (hb hby d15_6) rfl rfl  k) ?_
  obtain ⟨T2, X2, e2, st2⟩ := getF X1 hx hZ hown (host := "") (Or.inl (own_hw 55 hw rfl)) Via.refl e1 F_ua_coder (g := (mkF m 7 #[VR ua, VR uc] [(.ref ua)])) rfl rfl (hb hby d15_7)
  refine own_by (B := T2.setTop (mkF m 10 #[VR ua, VR uc] [(.int 0)])) st2 ?_
  refine own_by (B := T2.setTop (mkF m 11 #[VR ua, VR uc] [(.ref uc), (.int 0)])) (fun _ k => XS.aloadN X2.here hx rfl (hb hby d15_10) rfl rfl  k) ?_
  obtain ⟨cq3, kq3, qa3, qb3, qc3⟩ := isOf hZ e2 E_uc
  obtain ⟨_, _, ⟨T3, L3, k3, n3⟩, -, X3, ⟨Lc3, hQ3, l3, y3, z3⟩, st3⟩ := X2.virtualBack hx (y := (⟨"java/lang/String", "coder", "()B"⟩ : MethodName)) (z := (⟨"java/lang/String", "coder", "()B"⟩ : MethodName)) hown (mvT hZ (own_hw 101 hw rfl)) (mvT hZ (own_hw 77 hw rfl)) (notFace_of_selects (args := #[]) (mvT hZ (own_hw 79 hw rfl))) (mvT hZ (own_hw 79 hw rfl)) (mvT hZ (own_hw 78 hw rfl)) (by decide) (backOf (W := 1) (rmCoder3 l Z a0 hw [] a_INPUT_BIT a_OUTPUT_BIT a_OUTPUT_WORD a_INPUT_WORD a_MEMORY_WORD p_INPUT_BIT v_INPUT_BIT p_OUTPUT_WORD v_OUTPUT_WORD p_OUTPUT_BIT v_OUTPUT_BIT p_MEMORY_WORD v_MEMORY_WORD p_INPUT_WORD v_INPUT_WORD a_DigitOnes k_INPUT_BIT k_OUTPUT_WORD k_OUTPUT_BIT k_MEMORY_WORD k_INPUT_WORD ucs uff uc ud kd uy0 uy1 uy2 h0 n0 (own_old_le O0) O0 HW E_uc F_uc_value F_uc_coder V_ud) hZ (own_hw 80 hw rfl) (own_hw 51 hw rfl) (by decide) (by decide)) qa3 qc3 (g := (mkF m 11 #[VR ua, VR uc] [(.ref uc), (.int 0)])) rfl (by rw [hml]; rfl) (Steps.refl _) (argsL := []) (rest := [(.int 0)]) (lenOf pd_15___B rfl) rfl (by show 2 * 0 + _ ≤ _; exact Nat.le_of_eq rfl) (hb hby d15_11) (fun _ _ => ⟨rfl, e2, (by decide : 0 + 0 ≤ _), (by decide : 0 + 0 ≤ _)⟩)
  dsimp only [Pt.U, Pt.locs, Pt.cells, Pt.slots] at X3 l3 y3 z3 st3 hQ3
  subst l3 y3 z3
  obtain ⟨rfl, NC3, KC3⟩ := hQ3
  refine own_by (B := T3.setTop (mkF m 14 #[VR ua, VR uc] [(.int 0), (.int 0)])) (fun _ k => st3.trans k) ?_
  obtain ⟨h3, e3⟩ : ∃ z, T3.heap = z := ⟨_, rfl⟩
  rw [e3] at KC3
  have sz3 := KC3.1
  have O3 := O0.keep KC3 all0
  have K3 := K0.trans KC3 all0
  have N3 := Fr.app N0 NC3
  refine own_by (B := T3.setTop (mkF m 21 #[VR ua, VR uc] [])) (fun _ k => XS.icmpYes X3.here hx rfl (pc0 := 14) (pc' := 21) rfl (hb hby d15_14) rfl (XT.ii_eq_t (by decide)) (by decide) (by decide) k) ?_
  exact own_retV X3 hx hrt hlk (hb hby d15_21) (by decide) (by decide) (by show own_Q_rmInf0_3 Z ua ub kb uc ud kd uy0 uy1 uy2 h0 n0 _ T3.heap _; rw [e3]; exact ⟨rfl, N3, K3⟩)

def own_Q_rmGet0_3 (Z : State) (ub : Nat) (kb : ClassId) (uc : Nat) (ud : Nat) (kd : ClassId) (uy0 : Int32) (uy1 : Int32) (uy2 : Int32) (h0 : Heap) (n0 : Nat) (v : Option Value) (h : Heap) (L : List Loc) : Prop := v = none ∧ Fr n0 L ∧ Keep h0 h [ub] ∧ Arv Z h ub kb .byte (16 : Int32) [(.int uy0), (.int uy1), (.int uy2), (.int 0), (.int 0), (.int 0), (.int 0), (.int 0), (.int 0), (.int 0), (.int 0), (.int 0), (.int 0), (.int 0), (.int 0), (.int 0)] (.int 0)

theorem d16_0 : decode jdk_42_method_147_code 0 = .ok (.aload_n 0, 1) := by decide +kernel
theorem d16_1 : decode jdk_42_method_147_code 1 = .ok (.invokevirtual 335, 3) := by decide +kernel
theorem d16_4 : decode jdk_42_method_147_code 4 = .ok (.iload_n 3, 1) := by decide +kernel
theorem d16_5 : decode jdk_42_method_147_code 5 = .ok (.if_icmp .ne 23, 3) := by decide +kernel
theorem d16_8 : decode jdk_42_method_147_code 8 = .ok (.aload_n 0, 1) := by decide +kernel
theorem d16_9 : decode jdk_42_method_147_code 9 = .ok (.getfield 9, 3) := by decide +kernel
theorem d16_12 : decode jdk_42_method_147_code 12 = .ok (.iconst 0, 1) := by decide +kernel
theorem d16_13 : decode jdk_42_method_147_code 13 = .ok (.aload_n 1, 1) := by decide +kernel
theorem d16_14 : decode jdk_42_method_147_code 14 = .ok (.iload_n 2, 1) := by decide +kernel
theorem d16_15 : decode jdk_42_method_147_code 15 = .ok (.iload_n 3, 1) := by decide +kernel
theorem d16_16 : decode jdk_42_method_147_code 16 = .ok (.ishl, 1) := by decide +kernel
theorem d16_17 : decode jdk_42_method_147_code 17 = .ok (.aload_n 0, 1) := by decide +kernel
theorem d16_18 : decode jdk_42_method_147_code 18 = .ok (.getfield 9, 3) := by decide +kernel
theorem d16_21 : decode jdk_42_method_147_code 21 = .ok (.arraylength, 1) := by decide +kernel
theorem d16_22 : decode jdk_42_method_147_code 22 = .ok (.invokestatic 212, 3) := by decide +kernel
theorem d16_25 : decode jdk_42_method_147_code 25 = .ok (.goto 18, 3) := by decide +kernel
theorem d16_43 : decode jdk_42_method_147_code 43 = .ok (.return_, 1) := by decide +kernel
theorem pd_16___B : parseMethodDescriptor "()B" = some ⟨[], some .byte⟩ := by decide +kernel
theorem pn_rmGet0_3 : plainFor (⟨"java/lang/String", "getBytes", "([BIB)V"⟩ : MethodName) = true := by first | exact plainFor_of_name (by first | (simp [plainName, overriddenIn]; done) | decide +kernel) | exact Jvm.Free.JP.mathPlain rfl (by decide +kernel) | decide +kernel
theorem ef_rmGet0_3 (m : MethodId) (x0 : Nat) (x1 : Nat) (x2 : Int32) (x3 : Int32) : entryFrame m #[(.ref x0), (.ref x1), (.int x2), (.int x3)] 4 = mkF m 0 #[VR x0, VR x1, VI x2, VI x3] [] := by first | (simp [entryFrame, mkF, argsToLocals, Value.category]; done) | rfl
set_option maxRecDepth 65536 in
set_option maxHeartbeats 40000000 in
theorem rmGet0_3 (l : Launch) (Z : State) (a0 : Array Value) (hw : ∀ d ∈ tables_1, d.before a0 Z = true) (ws : List Jvm.Cond) (a_INPUT_BIT a_OUTPUT_BIT a_OUTPUT_WORD a_INPUT_WORD a_MEMORY_WORD p_INPUT_BIT v_INPUT_BIT p_OUTPUT_WORD v_OUTPUT_WORD p_OUTPUT_BIT v_OUTPUT_BIT p_MEMORY_WORD v_MEMORY_WORD p_INPUT_WORD v_INPUT_WORD a_DigitOnes : Nat) (k_INPUT_BIT : ClassId) (k_OUTPUT_WORD : ClassId) (k_OUTPUT_BIT : ClassId) (k_MEMORY_WORD : ClassId) (k_INPUT_WORD : ClassId) (ucs : Int32) (uff : Value) (ub : Nat) (kb : ClassId) (uc : Nat) (ud : Nat) (kd : ClassId) (uy0 : Int32) (uy1 : Int32) (uy2 : Int32) (h0 : Heap) (n0 : Nat) (Z0 : n0 ≤ h0.size) (O0 : Old Z n0 h0) (HW : own_W Z Z.heap a_INPUT_BIT a_OUTPUT_BIT a_OUTPUT_WORD a_INPUT_WORD a_MEMORY_WORD p_INPUT_BIT v_INPUT_BIT p_OUTPUT_WORD v_OUTPUT_WORD p_OUTPUT_BIT v_OUTPUT_BIT p_MEMORY_WORD v_MEMORY_WORD p_INPUT_WORD v_INPUT_WORD a_DigitOnes k_INPUT_BIT k_OUTPUT_WORD k_OUTPUT_BIT k_MEMORY_WORD k_INPUT_WORD ucs uff) (V_ub : Arv Z h0 ub kb .byte (16 : Int32) [(.int 0), (.int 0), (.int 0), (.int 0), (.int 0), (.int 0), (.int 0), (.int 0), (.int 0), (.int 0), (.int 0), (.int 0), (.int 0), (.int 0), (.int 0), (.int 0)] (.int 0)) (E_uc : Exa Z h0 uc "java/lang/String") (F_uc_value : Fld Z h0 uc "java/lang/String" "value" "[B" (.ref ud)) (F_uc_coder : Fld Z h0 uc "java/lang/String" "coder" "B" (.int 0)) (V_ud : Arv Z h0 ud kd .byte (3 : Int32) [(.int uy0), (.int uy1), (.int uy2)] (.int 0)) (gn_ub : n0 ≤ ub)  :
    MetFree l (⟨"java/lang/String", "getBytes", "([BIB)V"⟩ : MethodName) (head1 (Jvm.Cond.code (⟨"java/lang/String", "getBytes", "([BIB)V"⟩ : MethodName) jdk_42_method_147_code 4 none :: ws) ({ frames := 1, cells := 0, slots := 0, locals := 51 } : Room)) (fun a U => a = #[(.ref uc), (.ref ub), (.int 0), (.int 0)] ∧ Z.Warmed39 U.vm ∧ U.heap = h0) (fun _ _ _ _ _ => True) (fun _ U o U' => ∃ v L, o = .returned v ∧ (own_Q_rmGet0_3 Z ub kb uc ud kd uy0 uy1 uy2 h0 n0) v U'.heap L ∧ FrameEnd U o U' L 0 0) := by
  refine MetFree.of_bodySF pn_rmGet0_3 hisR ?_
  intro p e s m args below meth c s₁ Bd hml0 hP hK
  obtain ⟨rfl, hZ, hh⟩ := hP
  have hx := Bd.exec
  have hby := Bd.bytes
  have hml : c.maxLocals = 4 := hml0
  have hown : s.vm.findClass "java/lang/String" = some m.cls := findClass_of_methodNamed Bd.named
  have hnm := (name_of_methodNamed Bd.named Bd.method).1
  have hrt := Bd.returns
  have hlk := Bd.notSynchronized
  have X0 : Stand p l e ({ frames := 1, cells := 0, slots := 0, locals := 51 } : Room) s m #[(.ref uc), (.ref ub), (.int 0), (.int 0)] below meth c s₁ [] 0 0 := Stand.of_body Bd
  have e0 : s₁.heap = h0 := by rw [← hh, Bd.state]; rfl
  have N0 := Fr.nil n0
  have K0 := Keep.refl h0 [ub]
  have lt_V_ub := own_lt V_ub.lt
  have lt_E_uc := own_lt E_uc.lt
  have lt_V_ud := own_lt V_ud.lt
  have nl_uc_ub := own_lg (Exa.neArv E_uc V_ub (own_hw 134 hw rfl))
  have nl_uc_ud := own_lg (Exa.neArv E_uc V_ud (own_hw 134 hw rfl))
  refine own_done (B := s₁.setTop (mkF m 0 #[VR uc, VR ub, VI 0, VI 0] [])) (fun t k => castTop (ef_rmGet0_3 m uc ub (0 : Int32) (0 : Int32)) k) ?_
  refine own_by (B := s₁.setTop (mkF m 1 #[VR uc, VR ub, VI 0, VI 0] [(.ref uc)])) (fun _ k => XS.aloadN X0.here hx rfl (hb hby d16_0) rfl rfl  k) ?_
  obtain ⟨cq1, kq1, qa1, qb1, qc1⟩ := isOf hZ e0 E_uc
  obtain ⟨_, _, ⟨T1, L1, k1, n1⟩, -, X1, ⟨Lc1, hQ1, l1, y1, z1⟩, st1⟩ := X0.virtualBack hx (y := (⟨"java/lang/String", "coder", "()B"⟩ : MethodName)) (z := (⟨"java/lang/String", "coder", "()B"⟩ : MethodName)) hown (mvT hZ (own_hw 76 hw rfl)) (mvT hZ (own_hw 77 hw rfl)) (notFace_of_selects (args := #[]) (mvT hZ (own_hw 79 hw rfl))) (mvT hZ (own_hw 79 hw rfl)) (mvT hZ (own_hw 78 hw rfl)) (by decide) (backOf (W := 0) (rmCoder3 l Z a0 hw [] a_INPUT_BIT a_OUTPUT_BIT a_OUTPUT_WORD a_INPUT_WORD a_MEMORY_WORD p_INPUT_BIT v_INPUT_BIT p_OUTPUT_WORD v_OUTPUT_WORD p_OUTPUT_BIT v_OUTPUT_BIT p_MEMORY_WORD v_MEMORY_WORD p_INPUT_WORD v_INPUT_WORD a_DigitOnes k_INPUT_BIT k_OUTPUT_WORD k_OUTPUT_BIT k_MEMORY_WORD k_INPUT_WORD ucs uff uc ud kd uy0 uy1 uy2 h0 n0 (own_old_le O0) O0 HW E_uc F_uc_value F_uc_coder V_ud) hZ (own_hw 80 hw rfl) (own_hw 51 hw rfl) (by decide) (by decide)) qa1 qc1 (g := (mkF m 1 #[VR uc, VR ub, VI 0, VI 0] [(.ref uc)])) rfl (by rw [hml]; rfl) (Steps.refl _) (argsL := []) (rest := []) (lenOf pd_16___B rfl) rfl (by show 2 * 0 + _ ≤ _; exact Nat.le_of_eq rfl) (hb hby d16_1) (fun _ _ => ⟨rfl, e0, (by decide : 0 + 0 ≤ _), (by decide : 0 + 0 ≤ _)⟩)
  dsimp only [Pt.U, Pt.locs, Pt.cells, Pt.slots] at X1 l1 y1 z1 st1 hQ1
  subst l1 y1 z1
  obtain ⟨rfl, NC1, KC1⟩ := hQ1
  refine own_by (B := T1.setTop (mkF m 4 #[VR uc, VR ub, VI 0, VI 0] [(.int 0)])) (fun _ k => st1.trans k) ?_
  obtain ⟨h1, e1⟩ : ∃ z, T1.heap = z := ⟨_, rfl⟩
  rw [e1] at KC1
  have sz1 := KC1.1
  have O1 := O0.keep KC1 all0
  have K1 := K0.trans KC1 all0
  have N1 := Fr.app N0 NC1
  refine own_by (B := T1.setTop (mkF m 5 #[VR uc, VR ub, VI 0, VI 0] [(.int 0), (.int 0)])) (fun _ k => XS.iloadN X1.here hx rfl (hb hby d16_4) rfl  k) ?_
  refine own_by (B := T1.setTop (mkF m 8 #[VR uc, VR ub, VI 0, VI 0] [])) (fun _ k => XS.icmpNo X1.here hx rfl (hb hby d16_5) rfl (XT.ii_ne_f (by decide)) k) ?_
  refine own_by (B := T1.setTop (mkF m 9 #[VR uc, VR ub, VI 0, VI 0] [(.ref uc)])) (fun _ k => XS.aloadN X1.here hx rfl (hb hby d16_8) rfl rfl  k) ?_
  have c2 := (F_uc_value.keep KC1 nin0)
  obtain ⟨T3, X3, e3, st3⟩ := getF X1 hx hZ hown (host := "") (Or.inl (own_hw 74 hw rfl)) Via.refl e1 c2 (g := (mkF m 9 #[VR uc, VR ub, VI 0, VI 0] [(.ref uc)])) rfl rfl (hb hby d16_9)
  refine own_by (B := T3.setTop (mkF m 12 #[VR uc, VR ub, VI 0, VI 0] [(.ref ud)])) st3 ?_
  refine own_by (B := T3.setTop (mkF m 13 #[VR uc, VR ub, VI 0, VI 0] [(.int 0), (.ref ud)])) (fun _ k => XS.iconst X3.here hx rfl (hb hby d16_12) k) ?_
  refine own_by (B := T3.setTop (mkF m 14 #[VR uc, VR ub, VI 0, VI 0] [(.ref ub), (.int 0), (.ref ud)])) (fun _ k => XS.aloadN X3.here hx rfl (hb hby d16_13) rfl rfl  k) ?_
  refine own_by (B := T3.setTop (mkF m 15 #[VR uc, VR ub, VI 0, VI 0] [(.int 0), (.ref ub), (.int 0), (.ref ud)])) (fun _ k => XS.iloadN X3.here hx rfl (hb hby d16_14) rfl  k) ?_
  refine own_by (B := T3.setTop (mkF m 16 #[VR uc, VR ub, VI 0, VI 0] [(.int 0), (.int 0), (.ref ub), (.int 0), (.ref ud)])) (fun _ k => XS.iloadN X3.here hx rfl (hb hby d16_15) rfl  k) ?_
  refine own_by (B := T3.setTop (mkF m 17 #[VR uc, VR ub, VI 0, VI 0] [(.int 0), (.ref ub), (.int 0), (.ref ud)])) (fun _ k => XT.ishl X3.here hx rfl (hb hby d16_16) rfl k) ?_
  refine own_by (B := T3.setTop (mkF m 18 #[VR uc, VR ub, VI 0, VI 0] [(.ref uc), (.int 0), (.ref ub), (.int 0), (.ref ud)])) (fun _ k => XS.aloadN X3.here hx rfl (hb hby d16_17) rfl rfl  k) ?_
  obtain ⟨T4, X4, e4, st4⟩ := getF X3 hx hZ hown (host := "") (Or.inl (own_hw 74 hw rfl)) Via.refl e3 c2 (g := (mkF m 18 #[VR uc, VR ub, VI 0, VI 0] [(.ref uc), (.int 0), (.ref ub), (.int 0), (.ref ud)])) rfl rfl (hb hby d16_18)
  refine own_by (B := T4.setTop (mkF m 21 #[VR uc, VR ub, VI 0, VI 0] [(.ref ud), (.int 0), (.ref ub), (.int 0), (.ref ud)])) st4 ?_
  have c5 := (V_ud.keep KC1 nin0)
  obtain ⟨cl6, Ar6, qq6, Sz6, Nn6, Hh6, Gg6⟩ := id (c5)
  refine own_by (B := T4.setTop (mkF m 22 #[VR uc, VR ub, VI 0, VI 0] [(.int 3), (.int 0), (.ref ub), (.int 0), (.ref ud)])) (fun t k => X4.arraylength hx (by rw [e4]; exact Ar6.1) (State.isArrayOf_alike hZ.alike Ar6.2.1) (g := (mkF m 21 #[VR uc, VR ub, VI 0, VI 0] [(.ref ud), (.int 0), (.ref ub), (.int 0), (.ref ud)])) rfl rfl (hb hby d16_21) t (by rw [len_of Sz6 Nn6]; exact k)) ?_
  have c8 := (V_ub.keep KC1 nin0)
  obtain ⟨T7, h7, L7, X7, e7, NC7, KC7, VC7, st7⟩ := cpA X4 hx hZ hown (own_hw 107 hw rfl) (own_hw 110 hw rfl) (own_hw 108 hw rfl) (own_hw 109 hw rfl) e4 c5 c8 (us := [(.int uy0), (.int uy1), (.int uy2)]) (Or.inl ⟨rfl, rfl⟩) (by decide) (by decide) (by decide) (by decide) (by decide) rfl (Nat.le_of_ble_eq_true rfl) N1 gn_ub (g := (mkF m 22 #[VR uc, VR ub, VI 0, VI 0] [(.int 3), (.int 0), (.ref ub), (.int 0), (.ref ud)])) rfl (by rw [hml]; rfl) (rest := []) rfl (hb hby d16_22) (by decide) (W := 0) (by show 2 * 0 + _ ≤ _; exact Nat.le_of_eq rfl) (by decide)
  have V7 : Arv Z h7 ub kb .byte (16 : Int32) [(.int uy0), (.int uy1), (.int uy2), (.int 0), (.int 0), (.int 0), (.int 0), (.int 0), (.int 0), (.int 0), (.int 0), (.int 0), (.int 0), (.int 0), (.int 0), (.int 0)] (.int 0) := VC7
  have sz7 := KC7.1
  have O7 := O1.keep KC7 (allS gn_ub all0)
  have K7 := K1.trans KC7 (allS (Or.inl (List.mem_of_getElem? (i := 0) rfl)) all0)
  refine own_by (B := T7.setTop (mkF m 25 #[VR uc, VR ub, VI 0, VI 0] [])) st7 ?_
  refine own_by (B := T7.setTop (mkF m 43 #[VR uc, VR ub, VI 0, VI 0] [])) (fun _ k => XS.goto X7.here hx rfl (pc0 := 25) (pc' := 43) rfl (hb hby d16_25) (by decide) (by decide) k) ?_
  exact own_retV X7 hx hrt hlk (hb hby d16_43) (by decide) (by decide) (by show own_Q_rmGet0_3 Z ub kb uc ud kd uy0 uy1 uy2 h0 n0 _ T7.heap _; rw [e7]; exact ⟨rfl, NC7, K7, V7⟩)

def own_Q_rmPut0_3 (Z : State) (ua : Nat) (ub : Nat) (kb : ClassId) (uc : Nat) (ud : Nat) (kd : ClassId) (uy0 : Int32) (uy1 : Int32) (uy2 : Int32) (h0 : Heap) (n0 : Nat) (v : Option Value) (h : Heap) (L : List Loc) : Prop := v = none ∧ Fr n0 L ∧ Keep h0 h [ub] ∧ Arv Z h ub kb .byte (16 : Int32) [(.int uy0), (.int uy1), (.int uy2), (.int 0), (.int 0), (.int 0), (.int 0), (.int 0), (.int 0), (.int 0), (.int 0), (.int 0), (.int 0), (.int 0), (.int 0), (.int 0)] (.int 0)

theorem d14_0 : decode jdk_68_method_73_code 0 = .ok (.aload_n 0, 1) := by decide +kernel
theorem d14_1 : decode jdk_68_method_73_code 1 = .ok (.aload_n 2, 1) := by decide +kernel
theorem d14_2 : decode jdk_68_method_73_code 2 = .ok (.invokevirtual 397, 3) := by decide +kernel
theorem d14_5 : decode jdk_68_method_73_code 5 = .ok (.aload_n 2, 1) := by decide +kernel
theorem d14_6 : decode jdk_68_method_73_code 6 = .ok (.aload_n 0, 1) := by decide +kernel
theorem d14_7 : decode jdk_68_method_73_code 7 = .ok (.getfield 15, 3) := by decide +kernel
theorem d14_10 : decode jdk_68_method_73_code 10 = .ok (.iload_n 1, 1) := by decide +kernel
theorem d14_11 : decode jdk_68_method_73_code 11 = .ok (.aload_n 0, 1) := by decide +kernel
theorem d14_12 : decode jdk_68_method_73_code 12 = .ok (.getfield 22, 3) := by decide +kernel
theorem d14_15 : decode jdk_68_method_73_code 15 = .ok (.invokevirtual 399, 3) := by decide +kernel
theorem d14_18 : decode jdk_68_method_73_code 18 = .ok (.return_, 1) := by decide +kernel
theorem pd_14__Ljava_lang_String__V : parseMethodDescriptor "(Ljava/lang/String;)V" = some ⟨[(.object "java/lang/String")], none⟩ := by decide +kernel
theorem pd_14___BIB_V : parseMethodDescriptor "([BIB)V" = some ⟨[(.array .byte), .int, .byte], none⟩ := by decide +kernel
theorem pn_rmPut0_3 : plainFor (⟨"java/lang/AbstractStringBuilder", "putStringAt", "(ILjava/lang/String;)V"⟩ : MethodName) = true := by first | exact plainFor_of_name (by first | (simp [plainName, overriddenIn]; done) | decide +kernel) | exact Jvm.Free.JP.mathPlain rfl (by decide +kernel) | decide +kernel
theorem ef_rmPut0_3 (m : MethodId) (x0 : Nat) (x1 : Int32) (x2 : Nat) : entryFrame m #[(.ref x0), (.int x1), (.ref x2)] 3 = mkF m 0 #[VR x0, VI x1, VR x2] [] := by first | (simp [entryFrame, mkF, argsToLocals, Value.category]; done) | rfl
set_option maxRecDepth 65536 in
set_option maxHeartbeats 40000000 in
theorem rmPut0_3 (l : Launch) (Z : State) (a0 : Array Value) (hw : ∀ d ∈ tables_1, d.before a0 Z = true) (ws : List Jvm.Cond) (a_INPUT_BIT a_OUTPUT_BIT a_OUTPUT_WORD a_INPUT_WORD a_MEMORY_WORD p_INPUT_BIT v_INPUT_BIT p_OUTPUT_WORD v_OUTPUT_WORD p_OUTPUT_BIT v_OUTPUT_BIT p_MEMORY_WORD v_MEMORY_WORD p_INPUT_WORD v_INPUT_WORD a_DigitOnes : Nat) (k_INPUT_BIT : ClassId) (k_OUTPUT_WORD : ClassId) (k_OUTPUT_BIT : ClassId) (k_MEMORY_WORD : ClassId) (k_INPUT_WORD : ClassId) (ucs : Int32) (uff : Value) (ua : Nat) (ub : Nat) (kb : ClassId) (uc : Nat) (ud : Nat) (kd : ClassId) (uy0 : Int32) (uy1 : Int32) (uy2 : Int32) (h0 : Heap) (n0 : Nat) (Z0 : n0 ≤ h0.size) (O0 : Old Z n0 h0) (HW : own_W Z Z.heap a_INPUT_BIT a_OUTPUT_BIT a_OUTPUT_WORD a_INPUT_WORD a_MEMORY_WORD p_INPUT_BIT v_INPUT_BIT p_OUTPUT_WORD v_OUTPUT_WORD p_OUTPUT_BIT v_OUTPUT_BIT p_MEMORY_WORD v_MEMORY_WORD p_INPUT_WORD v_INPUT_WORD a_DigitOnes k_INPUT_BIT k_OUTPUT_WORD k_OUTPUT_BIT k_MEMORY_WORD k_INPUT_WORD ucs uff) (E_ua : Exa Z h0 ua "java/lang/StringBuilder") (F_ua_value : Fld Z h0 ua "java/lang/AbstractStringBuilder" "value" "[B" (.ref ub)) (F_ua_coder : Fld Z h0 ua "java/lang/AbstractStringBuilder" "coder" "B" (.int 0)) (F_ua_count : Fld Z h0 ua "java/lang/AbstractStringBuilder" "count" "I" (.int 0)) (V_ub : Arv Z h0 ub kb .byte (16 : Int32) [(.int 0), (.int 0), (.int 0), (.int 0), (.int 0), (.int 0), (.int 0), (.int 0), (.int 0), (.int 0), (.int 0), (.int 0), (.int 0), (.int 0), (.int 0), (.int 0)] (.int 0)) (E_uc : Exa Z h0 uc "java/lang/String") (F_uc_value : Fld Z h0 uc "java/lang/String" "value" "[B" (.ref ud)) (F_uc_coder : Fld Z h0 uc "java/lang/String" "coder" "B" (.int 0)) (V_ud : Arv Z h0 ud kd .byte (3 : Int32) [(.int uy0), (.int uy1), (.int uy2)] (.int 0)) (gn_ub : n0 ≤ ub)  :
    MetFree l (⟨"java/lang/AbstractStringBuilder", "putStringAt", "(ILjava/lang/String;)V"⟩ : MethodName) (head1 (Jvm.Cond.code (⟨"java/lang/AbstractStringBuilder", "putStringAt", "(ILjava/lang/String;)V"⟩ : MethodName) jdk_68_method_73_code 3 none :: ws) ({ frames := 2, cells := 0, slots := 0, locals := 66 } : Room)) (fun a U => a = #[(.ref ua), (.int 0), (.ref uc)] ∧ Z.Warmed39 U.vm ∧ U.heap = h0) (fun _ _ _ _ _ => True) (fun _ U o U' => ∃ v L, o = .returned v ∧ (own_Q_rmPut0_3 Z ua ub kb uc ud kd uy0 uy1 uy2 h0 n0) v U'.heap L ∧ FrameEnd U o U' L 0 0) := by
  refine MetFree.of_bodySF pn_rmPut0_3 hisR ?_
  intro p e s m args below meth c s₁ Bd hml0 hP hK
  obtain ⟨rfl, hZ, hh⟩ := hP
  have hx := Bd.exec
  have hby := Bd.bytes
  have hml : c.maxLocals = 3 := hml0
  have hown : s.vm.findClass "java/lang/AbstractStringBuilder" = some m.cls := findClass_of_methodNamed Bd.named
  have hnm := (name_of_methodNamed Bd.named Bd.method).1
  have hrt := Bd.returns
  have hlk := Bd.notSynchronized
  have X0 : Stand p l e ({ frames := 2, cells := 0, slots := 0, locals := 66 } : Room) s m #[(.ref ua), (.int 0), (.ref uc)] below meth c s₁ [] 0 0 := Stand.of_body Bd
  have e0 : s₁.heap = h0 := by rw [← hh, Bd.state]; rfl
  have N0 := Fr.nil n0
  have K0 := Keep.refl h0 [ub]
  have lt_E_ua := own_lt E_ua.lt
  have lt_V_ub := own_lt V_ub.lt
  have lt_E_uc := own_lt E_uc.lt
  have lt_V_ud := own_lt V_ud.lt
  have nl_ua_ub := own_lg (Exa.neArv E_ua V_ub (own_hw 38 hw rfl))
  have nl_ua_ud := own_lg (Exa.neArv E_ua V_ud (own_hw 38 hw rfl))
  have nl_uc_ub := own_lg (Exa.neArv E_uc V_ub (own_hw 134 hw rfl))
  have nl_uc_ud := own_lg (Exa.neArv E_uc V_ud (own_hw 134 hw rfl))
  refine own_done (B := s₁.setTop (mkF m 0 #[VR ua, VI 0, VR uc] [])) (fun t k => castTop (ef_rmPut0_3 m ua (0 : Int32) uc) k) ?_
  refine own_by (B := s₁.setTop (mkF m 1 #[VR ua, VI 0, VR uc] [(.ref ua)])) (fun _ k => XS.aloadN X0.here hx rfl (hb hby d14_0) rfl rfl  k) ?_
  refine own_by (B := s₁.setTop (mkF m 2 #[VR ua, VI 0, VR uc] [(.ref uc), (.ref ua)])) (fun _ k => XS.aloadN X0.here hx rfl (hb hby d14_1) rfl rfl  k) ?_
  obtain ⟨cq1, qa1, qc1⟩ := Exa.cell E_ua
  obtain ⟨_, _, ⟨T1, L1, k1, n1⟩, -, X1, ⟨Lc1, hQ1, l1, y1, z1⟩, st1⟩ := X0.privateBack hx (y := (⟨"java/lang/AbstractStringBuilder", "inflateIfNeededFor", "(Ljava/lang/String;)V"⟩ : MethodName)) hown (mvT hZ (own_hw 96 hw rfl)) (mvT hZ (own_hw 97 hw rfl)) (mvT hZ (own_selpriv2 (y := (⟨"java/lang/AbstractStringBuilder", "inflateIfNeededFor", "(Ljava/lang/String;)V"⟩ : MethodName)) (own_hw 99 hw rfl) (own_hw 98 hw rfl) (own_hw 97 hw rfl) (by decide))) (Cond.privateMethod_at (mvP hZ (own_hw 98 hw rfl) (args := #[]))) (mvT hZ (own_hw 100 hw rfl)) (by decide) (backOf (W := 0) (rmInf0_3 l Z a0 hw [] a_INPUT_BIT a_OUTPUT_BIT a_OUTPUT_WORD a_INPUT_WORD a_MEMORY_WORD p_INPUT_BIT v_INPUT_BIT p_OUTPUT_WORD v_OUTPUT_WORD p_OUTPUT_BIT v_OUTPUT_BIT p_MEMORY_WORD v_MEMORY_WORD p_INPUT_WORD v_INPUT_WORD a_DigitOnes k_INPUT_BIT k_OUTPUT_WORD k_OUTPUT_BIT k_MEMORY_WORD k_INPUT_WORD ucs uff ua ub kb uc ud kd uy0 uy1 uy2 h0 n0 (own_old_le O0) O0 HW E_ua F_ua_value F_ua_coder F_ua_count V_ub E_uc F_uc_value F_uc_coder V_ud) hZ (own_hw 100 hw rfl) (own_hw 47 hw rfl) (by decide) (by decide)) (g := (mkF m 2 #[VR ua, VI 0, VR uc] [(.ref uc), (.ref ua)])) rfl (by rw [hml]; rfl) (Steps.refl _) (a := ua) (by rw [e0]; exact qa1) qc1 (argsL := [(.ref uc)]) (rest := []) (lenOf pd_14__Ljava_lang_String__V rfl) rfl (by show 2 * 0 + _ ≤ _; exact Nat.le_of_eq rfl) (hb hby d14_2) (fun _ _ => ⟨rfl, e0, (by decide : 0 + 0 ≤ _), (by decide : 0 + 0 ≤ _)⟩)
  dsimp only [Pt.U, Pt.locs, Pt.cells, Pt.slots] at X1 l1 y1 z1 st1 hQ1
  subst l1 y1 z1
  obtain ⟨rfl, NC1, KC1⟩ := hQ1
  refine own_by (B := T1.setTop (mkF m 5 #[VR ua, VI 0, VR uc] [])) (fun _ k => st1.trans k) ?_
  obtain ⟨h1, e1⟩ : ∃ z, T1.heap = z := ⟨_, rfl⟩
  rw [e1] at KC1
  have sz1 := KC1.1
  have O1 := O0.keep KC1 all0
  have K1 := K0.trans KC1 all0
  have N1 := Fr.app N0 NC1
  refine own_by (B := T1.setTop (mkF m 6 #[VR ua, VI 0, VR uc] [(.ref uc)])) (fun _ k => XS.aloadN X1.here hx rfl (hb hby d14_5) rfl rfl  k) ?_
  refine own_by (B := T1.setTop (mkF m 7 #[VR ua, VI 0, VR uc] [(.ref ua), (.ref uc)])) (fun _ k => XS.aloadN X1.here hx rfl (hb hby d14_6) rfl rfl  k) ?_
  have c2 := (F_ua_value.keep KC1 nin0)
  obtain ⟨T3, X3, e3, st3⟩ := getF X1 hx hZ hown (host := "") (Or.inl (own_hw 53 hw rfl)) Via.refl e1 c2 (g := (mkF m 7 #[VR ua, VI 0, VR uc] [(.ref ua), (.ref uc)])) rfl rfl (hb hby d14_7)
  refine own_by (B := T3.setTop (mkF m 10 #[VR ua, VI 0, VR uc] [(.ref ub), (.ref uc)])) st3 ?_
  refine own_by (B := T3.setTop (mkF m 11 #[VR ua, VI 0, VR uc] [(.int 0), (.ref ub), (.ref uc)])) (fun _ k => XS.iloadN X3.here hx rfl (hb hby d14_10) rfl  k) ?_
  refine own_by (B := T3.setTop (mkF m 12 #[VR ua, VI 0, VR uc] [(.ref ua), (.int 0), (.ref ub), (.ref uc)])) (fun _ k => XS.aloadN X3.here hx rfl (hb hby d14_11) rfl rfl  k) ?_
  have c4 := (F_ua_coder.keep KC1 nin0)
  obtain ⟨T5, X5, e5, st5⟩ := getF X3 hx hZ hown (host := "") (Or.inl (own_hw 55 hw rfl)) Via.refl e3 c4 (g := (mkF m 12 #[VR ua, VI 0, VR uc] [(.ref ua), (.int 0), (.ref ub), (.ref uc)])) rfl rfl (hb hby d14_12)
  refine own_by (B := T5.setTop (mkF m 15 #[VR ua, VI 0, VR uc] [(.int 0), (.int 0), (.ref ub), (.ref uc)])) st5 ?_
  have c6 := (V_ub.keep KC1 nin0)
  have c7 := (E_uc.keep KC1)
  have c8 := (F_uc_value.keep KC1 nin0)
  have c9 := (F_uc_coder.keep KC1 nin0)
  have c10 := (V_ud.keep KC1 nin0)
  obtain ⟨cq11, kq11, qa11, qb11, qc11⟩ := isOf hZ e5 c7
  obtain ⟨_, _, ⟨T11, L11, k11, n11⟩, -, X11, ⟨Lc11, hQ11, l11, y11, z11⟩, st11⟩ := X5.virtualBack hx (y := (⟨"java/lang/String", "getBytes", "([BIB)V"⟩ : MethodName)) (z := (⟨"java/lang/String", "getBytes", "([BIB)V"⟩ : MethodName)) hown (mvT hZ (own_hw 102 hw rfl)) (mvT hZ (own_hw 103 hw rfl)) (notFace_of_selects (args := #[]) (mvT hZ (own_hw 105 hw rfl))) (mvT hZ (own_hw 105 hw rfl)) (mvT hZ (own_hw 104 hw rfl)) (by decide) (backOf (W := 0) (rmGet0_3 l Z a0 hw [] a_INPUT_BIT a_OUTPUT_BIT a_OUTPUT_WORD a_INPUT_WORD a_MEMORY_WORD p_INPUT_BIT v_INPUT_BIT p_OUTPUT_WORD v_OUTPUT_WORD p_OUTPUT_BIT v_OUTPUT_BIT p_MEMORY_WORD v_MEMORY_WORD p_INPUT_WORD v_INPUT_WORD a_DigitOnes k_INPUT_BIT k_OUTPUT_WORD k_OUTPUT_BIT k_MEMORY_WORD k_INPUT_WORD ucs uff ub kb uc ud kd uy0 uy1 uy2 h1 n0 (own_old_le O1) O1 HW c6 c7 c8 c9 c10 gn_ub) hZ (own_hw 106 hw rfl) (own_hw 51 hw rfl) (by decide) (by decide)) qa11 qc11 (g := (mkF m 15 #[VR ua, VI 0, VR uc] [(.int 0), (.int 0), (.ref ub), (.ref uc)])) rfl (by rw [hml]; rfl) (Steps.refl _) (argsL := [(.ref ub), (.int 0), (.int 0)]) (rest := []) (lenOf pd_14___BIB_V rfl) rfl (by show 2 * 0 + _ ≤ _; exact Nat.le_of_eq rfl) (hb hby d14_15) (fun _ _ => ⟨rfl, e5, (by decide : 0 + 0 ≤ _), (by decide : 0 + 0 ≤ _)⟩)
  dsimp only [Pt.U, Pt.locs, Pt.cells, Pt.slots] at X11 l11 y11 z11 st11 hQ11
  subst l11 y11 z11
  obtain ⟨rfl, NC11, KC11, Q0_N11⟩ := hQ11
  refine own_by (B := T11.setTop (mkF m 18 #[VR ua, VI 0, VR uc] [])) (fun _ k => st11.trans k) ?_
  obtain ⟨h11, e11⟩ : ∃ z, T11.heap = z := ⟨_, rfl⟩
  rw [e11] at KC11 Q0_N11
  have sz11 := KC11.1
  have O11 := O1.keep KC11 (allS gn_ub all0)
  have K11 := K1.trans KC11 (allS (Or.inl (List.mem_of_getElem? (i := 0) rfl)) all0)
  have N11 := Fr.app N1 NC11
  exact own_retV X11 hx hrt hlk (hb hby d14_18) (by decide) (by decide) (by show own_Q_rmPut0_3 Z ua ub kb uc ud kd uy0 uy1 uy2 h0 n0 _ T11.heap _; rw [e11]; exact ⟨rfl, N11, K11, Q0_N11⟩)

def own_Q_rmAap0_3 (Z : State) (ua : Nat) (ub : Nat) (kb : ClassId) (uc : Nat) (ud : Nat) (kd : ClassId) (uy0 : Int32) (uy1 : Int32) (uy2 : Int32) (h0 : Heap) (n0 : Nat) (v : Option Value) (h : Heap) (L : List Loc) : Prop := v = some (.ref ua) ∧ Fr n0 L ∧ Keep h0 h [ua, ub] ∧ Exa Z h ua "java/lang/StringBuilder" ∧ Fld Z h ua "java/lang/AbstractStringBuilder" "value" "[B" (.ref ub) ∧ Fld Z h ua "java/lang/AbstractStringBuilder" "coder" "B" (.int 0) ∧ Fld Z h ua "java/lang/AbstractStringBuilder" "count" "I" (.int 3) ∧ Arv Z h ub kb .byte (16 : Int32) [(.int uy0), (.int uy1), (.int uy2), (.int 0), (.int 0), (.int 0), (.int 0), (.int 0), (.int 0), (.int 0), (.int 0), (.int 0), (.int 0), (.int 0), (.int 0), (.int 0)] (.int 0)

theorem d10_0 : decode jdk_68_method_22_code 0 = .ok (.aload_n 1, 1) := by decide +kernel
theorem d10_1 : decode jdk_68_method_22_code 1 = .ok (.ifnonnull 8, 3) := by decide +kernel
theorem d10_9 : decode jdk_68_method_22_code 9 = .ok (.aload_n 1, 1) := by decide +kernel
theorem d10_10 : decode jdk_68_method_22_code 10 = .ok (.invokevirtual 32, 3) := by decide +kernel
theorem d10_13 : decode jdk_68_method_22_code 13 = .ok (.istore_n 2, 1) := by decide +kernel
theorem d10_14 : decode jdk_68_method_22_code 14 = .ok (.aload_n 0, 1) := by decide +kernel
theorem d10_15 : decode jdk_68_method_22_code 15 = .ok (.aload_n 0, 1) := by decide +kernel
theorem d10_16 : decode jdk_68_method_22_code 16 = .ok (.getfield 79, 3) := by decide +kernel
theorem d10_19 : decode jdk_68_method_22_code 19 = .ok (.iload_n 2, 1) := by decide +kernel
theorem d10_20 : decode jdk_68_method_22_code 20 = .ok (.iadd, 1) := by decide +kernel
theorem d10_21 : decode jdk_68_method_22_code 21 = .ok (.invokevirtual 100, 3) := by decide +kernel
theorem d10_24 : decode jdk_68_method_22_code 24 = .ok (.aload_n 0, 1) := by decide +kernel
theorem d10_25 : decode jdk_68_method_22_code 25 = .ok (.aload_n 0, 1) := by decide +kernel
theorem d10_26 : decode jdk_68_method_22_code 26 = .ok (.getfield 79, 3) := by decide +kernel
theorem d10_29 : decode jdk_68_method_22_code 29 = .ok (.aload_n 1, 1) := by decide +kernel
theorem d10_30 : decode jdk_68_method_22_code 30 = .ok (.invokevirtual 208, 3) := by decide +kernel
theorem d10_33 : decode jdk_68_method_22_code 33 = .ok (.aload_n 0, 1) := by decide +kernel
theorem d10_34 : decode jdk_68_method_22_code 34 = .ok (.dup, 1) := by decide +kernel
theorem d10_35 : decode jdk_68_method_22_code 35 = .ok (.getfield 79, 3) := by decide +kernel
theorem d10_38 : decode jdk_68_method_22_code 38 = .ok (.iload_n 2, 1) := by decide +kernel
theorem d10_39 : decode jdk_68_method_22_code 39 = .ok (.iadd, 1) := by decide +kernel
theorem d10_40 : decode jdk_68_method_22_code 40 = .ok (.putfield 79, 3) := by decide +kernel
theorem d10_43 : decode jdk_68_method_22_code 43 = .ok (.aload_n 0, 1) := by decide +kernel
theorem d10_44 : decode jdk_68_method_22_code 44 = .ok (.areturn, 1) := by decide +kernel
theorem pd_10___I : parseMethodDescriptor "()I" = some ⟨[], some .int⟩ := by decide +kernel
theorem pd_10__I_V : parseMethodDescriptor "(I)V" = some ⟨[.int], none⟩ := by decide +kernel
theorem pd_10__ILjava_lang_String__V : parseMethodDescriptor "(ILjava/lang/String;)V" = some ⟨[.int, (.object "java/lang/String")], none⟩ := by decide +kernel
theorem pn_rmAap0_3 : plainFor (⟨"java/lang/AbstractStringBuilder", "append", "(Ljava/lang/String;)Ljava/lang/AbstractStringBuilder;"⟩ : MethodName) = true := by first | exact plainFor_of_name (by first | (simp [plainName, overriddenIn]; done) | decide +kernel) | exact Jvm.Free.JP.mathPlain rfl (by decide +kernel) | decide +kernel
theorem ef_rmAap0_3 (m : MethodId) (x0 : Nat) (x1 : Nat) : entryFrame m #[(.ref x0), (.ref x1)] 3 = mkF m 0 #[VR x0, VR x1, UU] [] := by first | (simp [entryFrame, mkF, argsToLocals, Value.category]; done) | rfl
set_option maxRecDepth 65536 in
set_option maxHeartbeats 40000000 in
theorem rmAap0_3 (l : Launch) (Z : State) (a0 : Array Value) (hw : ∀ d ∈ tables_1, d.before a0 Z = true) (ws : List Jvm.Cond) (a_INPUT_BIT a_OUTPUT_BIT a_OUTPUT_WORD a_INPUT_WORD a_MEMORY_WORD p_INPUT_BIT v_INPUT_BIT p_OUTPUT_WORD v_OUTPUT_WORD p_OUTPUT_BIT v_OUTPUT_BIT p_MEMORY_WORD v_MEMORY_WORD p_INPUT_WORD v_INPUT_WORD a_DigitOnes : Nat) (k_INPUT_BIT : ClassId) (k_OUTPUT_WORD : ClassId) (k_OUTPUT_BIT : ClassId) (k_MEMORY_WORD : ClassId) (k_INPUT_WORD : ClassId) (ucs : Int32) (uff : Value) (ua : Nat) (ub : Nat) (kb : ClassId) (uc : Nat) (ud : Nat) (kd : ClassId) (uy0 : Int32) (uy1 : Int32) (uy2 : Int32) (h0 : Heap) (n0 : Nat) (Z0 : n0 ≤ h0.size) (O0 : Old Z n0 h0) (HW : own_W Z Z.heap a_INPUT_BIT a_OUTPUT_BIT a_OUTPUT_WORD a_INPUT_WORD a_MEMORY_WORD p_INPUT_BIT v_INPUT_BIT p_OUTPUT_WORD v_OUTPUT_WORD p_OUTPUT_BIT v_OUTPUT_BIT p_MEMORY_WORD v_MEMORY_WORD p_INPUT_WORD v_INPUT_WORD a_DigitOnes k_INPUT_BIT k_OUTPUT_WORD k_OUTPUT_BIT k_MEMORY_WORD k_INPUT_WORD ucs uff) (E_ua : Exa Z h0 ua "java/lang/StringBuilder") (F_ua_value : Fld Z h0 ua "java/lang/AbstractStringBuilder" "value" "[B" (.ref ub)) (F_ua_coder : Fld Z h0 ua "java/lang/AbstractStringBuilder" "coder" "B" (.int 0)) (F_ua_count : Fld Z h0 ua "java/lang/AbstractStringBuilder" "count" "I" (.int 0)) (V_ub : Arv Z h0 ub kb .byte (16 : Int32) [(.int 0), (.int 0), (.int 0), (.int 0), (.int 0), (.int 0), (.int 0), (.int 0), (.int 0), (.int 0), (.int 0), (.int 0), (.int 0), (.int 0), (.int 0), (.int 0)] (.int 0)) (E_uc : Exa Z h0 uc "java/lang/String") (F_uc_value : Fld Z h0 uc "java/lang/String" "value" "[B" (.ref ud)) (F_uc_coder : Fld Z h0 uc "java/lang/String" "coder" "B" (.int 0)) (V_ud : Arv Z h0 ud kd .byte (3 : Int32) [(.int uy0), (.int uy1), (.int uy2)] (.int 0)) (gn_ua : n0 ≤ ua) (gn_ub : n0 ≤ ub)  :
    MetFree l (⟨"java/lang/AbstractStringBuilder", "append", "(Ljava/lang/String;)Ljava/lang/AbstractStringBuilder;"⟩ : MethodName) (head1 (Jvm.Cond.code (⟨"java/lang/AbstractStringBuilder", "append", "(Ljava/lang/String;)Ljava/lang/AbstractStringBuilder;"⟩ : MethodName) jdk_68_method_22_code 3 (some (.object "java/lang/AbstractStringBuilder")) :: ws) ({ frames := 3, cells := 0, slots := 0, locals := 80 } : Room)) (fun a U => a = #[(.ref ua), (.ref uc)] ∧ Z.Warmed39 U.vm ∧ U.heap = h0) (fun _ _ _ _ _ => True) (fun _ U o U' => ∃ v L, o = .returned v ∧ (own_Q_rmAap0_3 Z ua ub kb uc ud kd uy0 uy1 uy2 h0 n0) v U'.heap L ∧ FrameEnd U o U' L 0 0) := by
  refine MetFree.of_bodySF pn_rmAap0_3 hisR ?_
  intro p e s m args below meth c s₁ Bd hml0 hP hK
  obtain ⟨rfl, hZ, hh⟩ := hP
  have hx := Bd.exec
  have hby := Bd.bytes
  have hml : c.maxLocals = 3 := hml0
  have hown : s.vm.findClass "java/lang/AbstractStringBuilder" = some m.cls := findClass_of_methodNamed Bd.named
  have hnm := (name_of_methodNamed Bd.named Bd.method).1
  have hrt := Bd.returns
  have hlk := Bd.notSynchronized
  have X0 : Stand p l e ({ frames := 3, cells := 0, slots := 0, locals := 80 } : Room) s m #[(.ref ua), (.ref uc)] below meth c s₁ [] 0 0 := Stand.of_body Bd
  have e0 : s₁.heap = h0 := by rw [← hh, Bd.state]; rfl
  have N0 := Fr.nil n0
  have K0 := Keep.refl h0 [ua, ub]
  have lt_E_ua := own_lt E_ua.lt
  have lt_V_ub := own_lt V_ub.lt
  have lt_E_uc := own_lt E_uc.lt
  have lt_V_ud := own_lt V_ud.lt
  have nl_ua_ub := own_lg (Exa.neArv E_ua V_ub (own_hw 38 hw rfl))
  have nl_ua_ud := own_lg (Exa.neArv E_ua V_ud (own_hw 38 hw rfl))
  have nl_uc_ub := own_lg (Exa.neArv E_uc V_ub (own_hw 134 hw rfl))
  have nl_uc_ud := own_lg (Exa.neArv E_uc V_ud (own_hw 134 hw rfl))
  refine own_done (B := s₁.setTop (mkF m 0 #[VR ua, VR uc, UU] [])) (fun t k => castTop (ef_rmAap0_3 m ua uc) k) ?_
  refine own_by (B := s₁.setTop (mkF m 1 #[VR ua, VR uc, UU] [(.ref uc)])) (fun _ k => XS.aloadN X0.here hx rfl (hb hby d10_0) rfl rfl  k) ?_
  refine own_by (B := s₁.setTop (mkF m 9 #[VR ua, VR uc, UU] [])) (fun _ k => XT.ifnonnullYes X0.here hx rfl (pc0 := 1) (pc' := 9) rfl (hb hby d10_1) rfl (by decide) (by decide) k) ?_
  refine own_by (B := s₁.setTop (mkF m 10 #[VR ua, VR uc, UU] [(.ref uc)])) (fun _ k => XS.aloadN X0.here hx rfl (hb hby d10_9) rfl rfl  k) ?_
  obtain ⟨cq1, kq1, qa1, qb1, qc1⟩ := isOf hZ e0 E_uc
  obtain ⟨_, _, ⟨T1, L1, k1, n1⟩, -, X1, ⟨Lc1, hQ1, l1, y1, z1⟩, st1⟩ := X0.virtualBack hx (y := (⟨"java/lang/String", "length", "()I"⟩ : MethodName)) (z := (⟨"java/lang/String", "length", "()I"⟩ : MethodName)) hown (mvT hZ (own_hw 69 hw rfl)) (mvT hZ (own_hw 70 hw rfl)) (notFace_of_selects (args := #[]) (mvT hZ (own_hw 72 hw rfl))) (mvT hZ (own_hw 72 hw rfl)) (mvT hZ (own_hw 71 hw rfl)) (by decide) (backOf (W := 0) (rmLen3 l Z a0 hw [] a_INPUT_BIT a_OUTPUT_BIT a_OUTPUT_WORD a_INPUT_WORD a_MEMORY_WORD p_INPUT_BIT v_INPUT_BIT p_OUTPUT_WORD v_OUTPUT_WORD p_OUTPUT_BIT v_OUTPUT_BIT p_MEMORY_WORD v_MEMORY_WORD p_INPUT_WORD v_INPUT_WORD a_DigitOnes k_INPUT_BIT k_OUTPUT_WORD k_OUTPUT_BIT k_MEMORY_WORD k_INPUT_WORD ucs uff uc ud kd uy0 uy1 uy2 h0 n0 (own_old_le O0) O0 HW E_uc F_uc_value F_uc_coder V_ud) hZ (own_hw 73 hw rfl) (own_hw 51 hw rfl) (by decide) (by decide)) qa1 qc1 (g := (mkF m 10 #[VR ua, VR uc, UU] [(.ref uc)])) rfl (by rw [hml]; rfl) (Steps.refl _) (argsL := []) (rest := []) (lenOf pd_10___I rfl) rfl (by show 2 * 0 + _ ≤ _; exact Nat.le_of_eq rfl) (hb hby d10_10) (fun _ _ => ⟨rfl, e0, (by decide : 0 + 0 ≤ _), (by decide : 0 + 0 ≤ _)⟩)
  dsimp only [Pt.U, Pt.locs, Pt.cells, Pt.slots] at X1 l1 y1 z1 st1 hQ1
  subst l1 y1 z1
  obtain ⟨rfl, NC1, KC1⟩ := hQ1
  refine own_by (B := T1.setTop (mkF m 13 #[VR ua, VR uc, UU] [(.int 3)])) (fun _ k => st1.trans k) ?_
  obtain ⟨h1, e1⟩ : ∃ z, T1.heap = z := ⟨_, rfl⟩
  rw [e1] at KC1
  have sz1 := KC1.1
  have O1 := O0.keep KC1 all0
  have K1 := K0.trans KC1 all0
  have N1 := Fr.app N0 NC1
  refine own_by (B := T1.setTop (mkF m 14 #[VR ua, VR uc, VI 3] [])) (fun _ k => XS.istoreN X1.here hx rfl (hb hby d10_13) rfl (l' := #[VR ua, VR uc, VI 3]) rfl k) ?_
  refine own_by (B := T1.setTop (mkF m 15 #[VR ua, VR uc, VI 3] [(.ref ua)])) (fun _ k => XS.aloadN X1.here hx rfl (hb hby d10_14) rfl rfl  k) ?_
  refine own_by (B := T1.setTop (mkF m 16 #[VR ua, VR uc, VI 3] [(.ref ua), (.ref ua)])) (fun _ k => XS.aloadN X1.here hx rfl (hb hby d10_15) rfl rfl  k) ?_
  have c2 := (F_ua_count.keep KC1 nin0)
  obtain ⟨T3, X3, e3, st3⟩ := getF X1 hx hZ hown (host := "") (Or.inl (own_hw 84 hw rfl)) Via.refl e1 c2 (g := (mkF m 16 #[VR ua, VR uc, VI 3] [(.ref ua), (.ref ua)])) rfl rfl (hb hby d10_16)
  refine own_by (B := T3.setTop (mkF m 19 #[VR ua, VR uc, VI 3] [(.int 0), (.ref ua)])) st3 ?_
  refine own_by (B := T3.setTop (mkF m 20 #[VR ua, VR uc, VI 3] [(.int 3), (.int 0), (.ref ua)])) (fun _ k => XS.iloadN X3.here hx rfl (hb hby d10_19) rfl  k) ?_
  refine own_by (B := T3.setTop (mkF m 21 #[VR ua, VR uc, VI 3] [(.int 3), (.ref ua)])) (fun _ k => XS.iadd X3.here hx rfl (hb hby d10_20) rfl k) ?_
  have c4 := (E_ua.keep KC1)
  have c5 := (F_ua_value.keep KC1 nin0)
  have c6 := (F_ua_coder.keep KC1 nin0)
  have c7 := (V_ub.keep KC1 nin0)
  obtain ⟨cq8, qa8, qc8⟩ := Exa.cell c4
  obtain ⟨_, _, ⟨T8, L8, k8, n8⟩, -, X8, ⟨Lc8, hQ8, l8, y8, z8⟩, st8⟩ := X3.privateBack hx (y := (⟨"java/lang/AbstractStringBuilder", "ensureCapacityInternal", "(I)V"⟩ : MethodName)) hown (mvT hZ (own_hw 86 hw rfl)) (mvT hZ (own_hw 87 hw rfl)) (mvT hZ (own_selpriv2 (y := (⟨"java/lang/AbstractStringBuilder", "ensureCapacityInternal", "(I)V"⟩ : MethodName)) (own_hw 89 hw rfl) (own_hw 88 hw rfl) (own_hw 87 hw rfl) (by decide))) (Cond.privateMethod_at (mvP hZ (own_hw 88 hw rfl) (args := #[]))) (mvT hZ (own_hw 90 hw rfl)) (by decide) (backOf (W := 0) (rmEns0_3 l Z a0 hw [] a_INPUT_BIT a_OUTPUT_BIT a_OUTPUT_WORD a_INPUT_WORD a_MEMORY_WORD p_INPUT_BIT v_INPUT_BIT p_OUTPUT_WORD v_OUTPUT_WORD p_OUTPUT_BIT v_OUTPUT_BIT p_MEMORY_WORD v_MEMORY_WORD p_INPUT_WORD v_INPUT_WORD a_DigitOnes k_INPUT_BIT k_OUTPUT_WORD k_OUTPUT_BIT k_MEMORY_WORD k_INPUT_WORD ucs uff ua ub kb h1 n0 (own_old_le O1) O1 HW c4 c5 c6 c2 c7) hZ (own_hw 90 hw rfl) (own_hw 47 hw rfl) (by decide) (by decide)) (g := (mkF m 21 #[VR ua, VR uc, VI 3] [(.int 3), (.ref ua)])) rfl (by rw [hml]; rfl) (Steps.refl _) (a := ua) (by rw [e3]; exact qa8) qc8 (argsL := [(.int 3)]) (rest := []) (lenOf pd_10__I_V rfl) rfl (by show 2 * 0 + _ ≤ _; exact Nat.le_of_eq rfl) (hb hby d10_21) (fun _ _ => ⟨rfl, e3, (by decide : 0 + 0 ≤ _), (by decide : 0 + 0 ≤ _)⟩)
  dsimp only [Pt.U, Pt.locs, Pt.cells, Pt.slots] at X8 l8 y8 z8 st8 hQ8
  subst l8 y8 z8
  obtain ⟨rfl, NC8, KC8⟩ := hQ8
  refine own_by (B := T8.setTop (mkF m 24 #[VR ua, VR uc, VI 3] [])) (fun _ k => st8.trans k) ?_
  obtain ⟨h8, e8⟩ : ∃ z, T8.heap = z := ⟨_, rfl⟩
  rw [e8] at KC8
  have sz8 := KC8.1
  have O8 := O1.keep KC8 all0
  have K8 := K1.trans KC8 all0
  have N8 := Fr.app N1 NC8
  refine own_by (B := T8.setTop (mkF m 25 #[VR ua, VR uc, VI 3] [(.ref ua)])) (fun _ k => XS.aloadN X8.here hx rfl (hb hby d10_24) rfl rfl  k) ?_
  refine own_by (B := T8.setTop (mkF m 26 #[VR ua, VR uc, VI 3] [(.ref ua), (.ref ua)])) (fun _ k => XS.aloadN X8.here hx rfl (hb hby d10_25) rfl rfl  k) ?_
  have c9 := (c2.keep KC8 nin0)
  obtain ⟨T10, X10, e10, st10⟩ := getF X8 hx hZ hown (host := "") (Or.inl (own_hw 84 hw rfl)) Via.refl e8 c9 (g := (mkF m 26 #[VR ua, VR uc, VI 3] [(.ref ua), (.ref ua)])) rfl rfl (hb hby d10_26)
  refine own_by (B := T10.setTop (mkF m 29 #[VR ua, VR uc, VI 3] [(.int 0), (.ref ua)])) st10 ?_
  refine own_by (B := T10.setTop (mkF m 30 #[VR ua, VR uc, VI 3] [(.ref uc), (.int 0), (.ref ua)])) (fun _ k => XS.aloadN X10.here hx rfl (hb hby d10_29) rfl rfl  k) ?_
  have c11 := (c4.keep KC8)
  have c12 := (c5.keep KC8 nin0)
  have c13 := (c6.keep KC8 nin0)
  have c14 := (c7.keep KC8 nin0)
  have c15 := ((E_uc.keep KC1).keep KC8)
  have c16 := ((F_uc_value.keep KC1 nin0).keep KC8 nin0)
  have c17 := ((F_uc_coder.keep KC1 nin0).keep KC8 nin0)
  have c18 := ((V_ud.keep KC1 nin0).keep KC8 nin0)
  obtain ⟨cq19, qa19, qc19⟩ := Exa.cell c11
  obtain ⟨_, _, ⟨T19, L19, k19, n19⟩, -, X19, ⟨Lc19, hQ19, l19, y19, z19⟩, st19⟩ := X10.privateBack hx (y := (⟨"java/lang/AbstractStringBuilder", "putStringAt", "(ILjava/lang/String;)V"⟩ : MethodName)) hown (mvT hZ (own_hw 91 hw rfl)) (mvT hZ (own_hw 92 hw rfl)) (mvT hZ (own_selpriv2 (y := (⟨"java/lang/AbstractStringBuilder", "putStringAt", "(ILjava/lang/String;)V"⟩ : MethodName)) (own_hw 94 hw rfl) (own_hw 93 hw rfl) (own_hw 92 hw rfl) (by decide))) (Cond.privateMethod_at (mvP hZ (own_hw 93 hw rfl) (args := #[]))) (mvT hZ (own_hw 95 hw rfl)) (by decide) (backOf (W := 0) (rmPut0_3 l Z a0 hw [] a_INPUT_BIT a_OUTPUT_BIT a_OUTPUT_WORD a_INPUT_WORD a_MEMORY_WORD p_INPUT_BIT v_INPUT_BIT p_OUTPUT_WORD v_OUTPUT_WORD p_OUTPUT_BIT v_OUTPUT_BIT p_MEMORY_WORD v_MEMORY_WORD p_INPUT_WORD v_INPUT_WORD a_DigitOnes k_INPUT_BIT k_OUTPUT_WORD k_OUTPUT_BIT k_MEMORY_WORD k_INPUT_WORD ucs uff ua ub kb uc ud kd uy0 uy1 uy2 h8 n0 (own_old_le O8) O8 HW c11 c12 c13 c9 c14 c15 c16 c17 c18 gn_ub) hZ (own_hw 95 hw rfl) (own_hw 47 hw rfl) (by decide) (by decide)) (g := (mkF m 30 #[VR ua, VR uc, VI 3] [(.ref uc), (.int 0), (.ref ua)])) rfl (by rw [hml]; rfl) (Steps.refl _) (a := ua) (by rw [e10]; exact qa19) qc19 (argsL := [(.int 0), (.ref uc)]) (rest := []) (lenOf pd_10__ILjava_lang_String__V rfl) rfl (by show 2 * 0 + _ ≤ _; exact Nat.le_of_eq rfl) (hb hby d10_30) (fun _ _ => ⟨rfl, e10, (by decide : 0 + 0 ≤ _), (by decide : 0 + 0 ≤ _)⟩)
  dsimp only [Pt.U, Pt.locs, Pt.cells, Pt.slots] at X19 l19 y19 z19 st19 hQ19
  subst l19 y19 z19
  obtain ⟨rfl, NC19, KC19, Q0_N19⟩ := hQ19
  refine own_by (B := T19.setTop (mkF m 33 #[VR ua, VR uc, VI 3] [])) (fun _ k => st19.trans k) ?_
  obtain ⟨h19, e19⟩ : ∃ z, T19.heap = z := ⟨_, rfl⟩
  rw [e19] at KC19 Q0_N19
  have sz19 := KC19.1
  have O19 := O8.keep KC19 (allS gn_ub all0)
  have K19 := K8.trans KC19 (allS (Or.inl (List.mem_of_getElem? (i := 1) rfl)) all0)
  have N19 := Fr.app N8 NC19
  refine own_by (B := T19.setTop (mkF m 34 #[VR ua, VR uc, VI 3] [(.ref ua)])) (fun _ k => XS.aloadN X19.here hx rfl (hb hby d10_33) rfl rfl  k) ?_
  refine own_by (B := T19.setTop (mkF m 35 #[VR ua, VR uc, VI 3] [(.ref ua), (.ref ua)])) (fun _ k => XS.dup X19.here hx rfl (hb hby d10_34) rfl rfl k) ?_
  have c20 := (c9.keep KC19 (ninS (own_ne (by omega)) nin0))
  obtain ⟨T21, X21, e21, st21⟩ := getF X19 hx hZ hown (host := "") (Or.inl (own_hw 84 hw rfl)) Via.refl e19 c20 (g := (mkF m 35 #[VR ua, VR uc, VI 3] [(.ref ua), (.ref ua)])) rfl rfl (hb hby d10_35)
  refine own_by (B := T21.setTop (mkF m 38 #[VR ua, VR uc, VI 3] [(.int 0), (.ref ua)])) st21 ?_
  refine own_by (B := T21.setTop (mkF m 39 #[VR ua, VR uc, VI 3] [(.int 3), (.int 0), (.ref ua)])) (fun _ k => XS.iloadN X21.here hx rfl (hb hby d10_38) rfl  k) ?_
  refine own_by (B := T21.setTop (mkF m 40 #[VR ua, VR uc, VI 3] [(.int 3), (.ref ua)])) (fun _ k => XS.iadd X21.here hx rfl (hb hby d10_39) rfl k) ?_
  have c23 := (c11.keep KC19)
  obtain ⟨T22, h22, X22, e22, W22, st22⟩ := putF X21 hx hZ hown (host := "") (Or.inl (own_hw 84 hw rfl)) Via.refl e21 c20 c23 (Or.inl (own_hw 85 hw rfl)) (own_hw 38 hw rfl) (ty := .int) (by decide) rfl rfl (g := (mkF m 40 #[VR ua, VR uc, VI 3] [(.int 3), (.ref ua)])) rfl rfl (hb hby d10_40)
  have sz22 := W22.size
  have O22 := O19.wr W22 gn_ua
  have K22 := K19.wr W22 (Or.inl (List.mem_of_getElem? (i := 0) rfl))
  have N22 := Fr.snoc X22 N19 gn_ua
  have F22 := c20.same W22
  refine own_by (B := T22.setTop (mkF m 43 #[VR ua, VR uc, VI 3] [])) st22 ?_
  refine own_by (B := T22.setTop (mkF m 44 #[VR ua, VR uc, VI 3] [(.ref ua)])) (fun _ k => XS.aloadN X22.here hx rfl (hb hby d10_43) rfl rfl  k) ?_
  have c24 := (c23.wr W22)
  have c25 := ((c12.keep KC19 (ninS (own_ne (by omega)) nin0)).other W22 (Or.inr (slot_ne (Or.inl (own_hw 54 hw rfl)) (Or.inl (own_hw 85 hw rfl)) (by decide) (t := (.array .byte)) (t' := .int) (by decide) (by decide))))
  have c26 := ((c13.keep KC19 (ninS (own_ne (by omega)) nin0)).other W22 (Or.inr (slot_ne (Or.inl (own_hw 56 hw rfl)) (Or.inl (own_hw 85 hw rfl)) (by decide) (t := .byte) (t' := .int) (by decide) (by decide))))
  have c27 := (Q0_N19.other W22 (own_ne (by omega)))
  exact own_retA X22 hx hrt rfl rfl hlk (hb hby d10_44) (by decide) (by decide) (by show own_Q_rmAap0_3 Z ua ub kb uc ud kd uy0 uy1 uy2 h0 n0 _ T22.heap _; rw [e22]; exact ⟨rfl, N22, K22, c24, c25, c26, F22, c27⟩)

def own_Q_rmAp0_3 (Z : State) (ua : Nat) (ub : Nat) (kb : ClassId) (uc : Nat) (ud : Nat) (kd : ClassId) (uy0 : Int32) (uy1 : Int32) (uy2 : Int32) (h0 : Heap) (n0 : Nat) (v : Option Value) (h : Heap) (L : List Loc) : Prop := v = some (.ref ua) ∧ Fr n0 L ∧ Keep h0 h [ua, ub] ∧ Exa Z h ua "java/lang/StringBuilder" ∧ Fld Z h ua "java/lang/AbstractStringBuilder" "value" "[B" (.ref ub) ∧ Fld Z h ua "java/lang/AbstractStringBuilder" "coder" "B" (.int 0) ∧ Fld Z h ua "java/lang/AbstractStringBuilder" "count" "I" (.int 3) ∧ Arv Z h ub kb .byte (16 : Int32) [(.int uy0), (.int uy1), (.int uy2), (.int 0), (.int 0), (.int 0), (.int 0), (.int 0), (.int 0), (.int 0), (.int 0), (.int 0), (.int 0), (.int 0), (.int 0), (.int 0)] (.int 0)

theorem d9_0 : decode jdk_67_method_7_code 0 = .ok (.aload_n 0, 1) := by decide +kernel
theorem d9_1 : decode jdk_67_method_7_code 1 = .ok (.aload_n 1, 1) := by decide +kernel
theorem d9_2 : decode jdk_67_method_7_code 2 = .ok (.invokespecial 29, 3) := by decide +kernel
theorem d9_5 : decode jdk_67_method_7_code 5 = .ok (.pop, 1) := by decide +kernel
theorem d9_6 : decode jdk_67_method_7_code 6 = .ok (.aload_n 0, 1) := by decide +kernel
theorem d9_7 : decode jdk_67_method_7_code 7 = .ok (.areturn, 1) := by decide +kernel
theorem pd_9__Ljava_lang_String__Ljava_lang_AbstractStringBuilder_ : parseMethodDescriptor "(Ljava/lang/String;)Ljava/lang/AbstractStringBuilder;" = some ⟨[(.object "java/lang/String")], some (.object "java/lang/AbstractStringBuilder")⟩ := by decide +kernel
theorem pn_rmAp0_3 : plainFor (⟨"java/lang/StringBuilder", "append", "(Ljava/lang/String;)Ljava/lang/StringBuilder;"⟩ : MethodName) = true := by first | exact plainFor_of_name (by first | (simp [plainName, overriddenIn]; done) | decide +kernel) | exact Jvm.Free.JP.mathPlain rfl (by decide +kernel) | decide +kernel
theorem ef_rmAp0_3 (m : MethodId) (x0 : Nat) (x1 : Nat) : entryFrame m #[(.ref x0), (.ref x1)] 2 = mkF m 0 #[VR x0, VR x1] [] := by first | (simp [entryFrame, mkF, argsToLocals, Value.category]; done) | rfl
set_option maxRecDepth 65536 in
set_option maxHeartbeats 40000000 in
theorem rmAp0_3 (l : Launch) (Z : State) (a0 : Array Value) (hw : ∀ d ∈ tables_1, d.before a0 Z = true) (ws : List Jvm.Cond) (a_INPUT_BIT a_OUTPUT_BIT a_OUTPUT_WORD a_INPUT_WORD a_MEMORY_WORD p_INPUT_BIT v_INPUT_BIT p_OUTPUT_WORD v_OUTPUT_WORD p_OUTPUT_BIT v_OUTPUT_BIT p_MEMORY_WORD v_MEMORY_WORD p_INPUT_WORD v_INPUT_WORD a_DigitOnes : Nat) (k_INPUT_BIT : ClassId) (k_OUTPUT_WORD : ClassId) (k_OUTPUT_BIT : ClassId) (k_MEMORY_WORD : ClassId) (k_INPUT_WORD : ClassId) (ucs : Int32) (uff : Value) (ua : Nat) (ub : Nat) (kb : ClassId) (uc : Nat) (ud : Nat) (kd : ClassId) (uy0 : Int32) (uy1 : Int32) (uy2 : Int32) (h0 : Heap) (n0 : Nat) (Z0 : n0 ≤ h0.size) (O0 : Old Z n0 h0) (HW : own_W Z Z.heap a_INPUT_BIT a_OUTPUT_BIT a_OUTPUT_WORD a_INPUT_WORD a_MEMORY_WORD p_INPUT_BIT v_INPUT_BIT p_OUTPUT_WORD v_OUTPUT_WORD p_OUTPUT_BIT v_OUTPUT_BIT p_MEMORY_WORD v_MEMORY_WORD p_INPUT_WORD v_INPUT_WORD a_DigitOnes k_INPUT_BIT k_OUTPUT_WORD k_OUTPUT_BIT k_MEMORY_WORD k_INPUT_WORD ucs uff) (E_ua : Exa Z h0 ua "java/lang/StringBuilder") (F_ua_value : Fld Z h0 ua "java/lang/AbstractStringBuilder" "value" "[B" (.ref ub)) (F_ua_coder : Fld Z h0 ua "java/lang/AbstractStringBuilder" "coder" "B" (.int 0)) (F_ua_count : Fld Z h0 ua "java/lang/AbstractStringBuilder" "count" "I" (.int 0)) (V_ub : Arv Z h0 ub kb .byte (16 : Int32) [(.int 0), (.int 0), (.int 0), (.int 0), (.int 0), (.int 0), (.int 0), (.int 0), (.int 0), (.int 0), (.int 0), (.int 0), (.int 0), (.int 0), (.int 0), (.int 0)] (.int 0)) (E_uc : Exa Z h0 uc "java/lang/String") (F_uc_value : Fld Z h0 uc "java/lang/String" "value" "[B" (.ref ud)) (F_uc_coder : Fld Z h0 uc "java/lang/String" "coder" "B" (.int 0)) (V_ud : Arv Z h0 ud kd .byte (3 : Int32) [(.int uy0), (.int uy1), (.int uy2)] (.int 0)) (gn_ua : n0 ≤ ua) (gn_ub : n0 ≤ ub)  :
    MetFree l (⟨"java/lang/StringBuilder", "append", "(Ljava/lang/String;)Ljava/lang/StringBuilder;"⟩ : MethodName) (head1 (Jvm.Cond.code (⟨"java/lang/StringBuilder", "append", "(Ljava/lang/String;)Ljava/lang/StringBuilder;"⟩ : MethodName) jdk_67_method_7_code 2 (some (.object "java/lang/StringBuilder")) :: ws) ({ frames := 4, cells := 0, slots := 0, locals := 94 } : Room)) (fun a U => a = #[(.ref ua), (.ref uc)] ∧ Z.Warmed39 U.vm ∧ U.heap = h0) (fun _ _ _ _ _ => True) (fun _ U o U' => ∃ v L, o = .returned v ∧ (own_Q_rmAp0_3 Z ua ub kb uc ud kd uy0 uy1 uy2 h0 n0) v U'.heap L ∧ FrameEnd U o U' L 0 0) := by
  refine MetFree.of_bodySF pn_rmAp0_3 hisR ?_
  intro p e s m args below meth c s₁ Bd hml0 hP hK
  obtain ⟨rfl, hZ, hh⟩ := hP
  have hx := Bd.exec
  have hby := Bd.bytes
  have hml : c.maxLocals = 2 := hml0
  have hown : s.vm.findClass "java/lang/StringBuilder" = some m.cls := findClass_of_methodNamed Bd.named
  have hnm := (name_of_methodNamed Bd.named Bd.method).1
  have hrt := Bd.returns
  have hlk := Bd.notSynchronized
  have X0 : Stand p l e ({ frames := 4, cells := 0, slots := 0, locals := 94 } : Room) s m #[(.ref ua), (.ref uc)] below meth c s₁ [] 0 0 := Stand.of_body Bd
  have e0 : s₁.heap = h0 := by rw [← hh, Bd.state]; rfl
  have N0 := Fr.nil n0
  have K0 := Keep.refl h0 [ua, ub]
  have lt_E_ua := own_lt E_ua.lt
  have lt_V_ub := own_lt V_ub.lt
  have lt_E_uc := own_lt E_uc.lt
  have lt_V_ud := own_lt V_ud.lt
  have nl_ua_ub := own_lg (Exa.neArv E_ua V_ub (own_hw 38 hw rfl))
  have nl_ua_ud := own_lg (Exa.neArv E_ua V_ud (own_hw 38 hw rfl))
  have nl_uc_ub := own_lg (Exa.neArv E_uc V_ub (own_hw 134 hw rfl))
  have nl_uc_ud := own_lg (Exa.neArv E_uc V_ud (own_hw 134 hw rfl))
  refine own_done (B := s₁.setTop (mkF m 0 #[VR ua, VR uc] [])) (fun t k => castTop (ef_rmAp0_3 m ua uc) k) ?_
  refine own_by (B := s₁.setTop (mkF m 1 #[VR ua, VR uc] [(.ref ua)])) (fun _ k => XS.aloadN X0.here hx rfl (hb hby d9_0) rfl rfl  k) ?_
  refine own_by (B := s₁.setTop (mkF m 2 #[VR ua, VR uc] [(.ref uc), (.ref ua)])) (fun _ k => XS.aloadN X0.here hx rfl (hb hby d9_1) rfl rfl  k) ?_
  obtain ⟨_, _, ⟨T1, L1, k1, n1⟩, -, X1, ⟨Lc1, hQ1, l1, y1, z1⟩, st1⟩ := superBack X0 hx hZ (y := (⟨"java/lang/AbstractStringBuilder", "append", "(Ljava/lang/String;)Ljava/lang/AbstractStringBuilder;"⟩ : MethodName)) (K := "java/lang/StringBuilder") hown (own_hw 64 hw rfl) (own_sameM (y := (⟨"java/lang/AbstractStringBuilder", "append", "(Ljava/lang/String;)Ljava/lang/AbstractStringBuilder;"⟩ : MethodName)) (w := (⟨"java/lang/AbstractStringBuilder", "isLatin1", "()Z"⟩ : MethodName)) (own_hw 67 hw rfl) (own_hw 127 hw rfl) rfl (by decide)) (own_hw 65 hw rfl) (own_hw 66 hw rfl) (by decide) (backOf (W := 0) (rmAap0_3 l Z a0 hw [] a_INPUT_BIT a_OUTPUT_BIT a_OUTPUT_WORD a_INPUT_WORD a_MEMORY_WORD p_INPUT_BIT v_INPUT_BIT p_OUTPUT_WORD v_OUTPUT_WORD p_OUTPUT_BIT v_OUTPUT_BIT p_MEMORY_WORD v_MEMORY_WORD p_INPUT_WORD v_INPUT_WORD a_DigitOnes k_INPUT_BIT k_OUTPUT_WORD k_OUTPUT_BIT k_MEMORY_WORD k_INPUT_WORD ucs uff ua ub kb uc ud kd uy0 uy1 uy2 h0 n0 (own_old_le O0) O0 HW E_ua F_ua_value F_ua_coder F_ua_count V_ub E_uc F_uc_value F_uc_coder V_ud gn_ua gn_ub) hZ (own_hw 68 hw rfl) (own_hw 47 hw rfl) (by decide) (by decide)) e0 (Ins.self E_ua) (g := (mkF m 2 #[VR ua, VR uc] [(.ref uc), (.ref ua)])) rfl (by rw [hml]; rfl) (own_hw 68 hw rfl) (argsL := [(.ref uc)]) (rest := []) (lenOf pd_9__Ljava_lang_String__Ljava_lang_AbstractStringBuilder_ rfl) rfl (by show 2 * 0 + _ ≤ _; exact Nat.le_of_eq rfl) (hb hby d9_2) (fun _ _ => ⟨rfl, e0, (by decide : 0 + 0 ≤ _), (by decide : 0 + 0 ≤ _)⟩)
  dsimp only [Pt.U, Pt.locs, Pt.cells, Pt.slots] at X1 l1 y1 z1 st1 hQ1
  subst l1 y1 z1
  obtain ⟨rfl, NC1, KC1, Q0_N1, Q1_N1, Q2_N1, Q3_N1, Q4_N1⟩ := hQ1
  refine own_by (B := T1.setTop (mkF m 5 #[VR ua, VR uc] [(.ref ua)])) (fun _ k => st1.trans k) ?_
  obtain ⟨h1, e1⟩ : ∃ z, T1.heap = z := ⟨_, rfl⟩
  rw [e1] at KC1 Q0_N1 Q1_N1 Q2_N1 Q3_N1 Q4_N1
  have sz1 := KC1.1
  have O1 := O0.keep KC1 (allS gn_ua (allS gn_ub all0))
  have K1 := K0.trans KC1 (allS (Or.inl (List.mem_of_getElem? (i := 0) rfl)) (allS (Or.inl (List.mem_of_getElem? (i := 1) rfl)) all0))
  have N1 := Fr.app N0 NC1
  refine own_by (B := T1.setTop (mkF m 6 #[VR ua, VR uc] [])) (fun _ k => XT.pop X1.here hx rfl (hb hby d9_5) rfl rfl k) ?_
  refine own_by (B := T1.setTop (mkF m 7 #[VR ua, VR uc] [(.ref ua)])) (fun _ k => XS.aloadN X1.here hx rfl (hb hby d9_6) rfl rfl  k) ?_
  exact own_retA X1 hx hrt rfl rfl hlk (hb hby d9_7) (by decide) (by decide) (by show own_Q_rmAp0_3 Z ua ub kb uc ud kd uy0 uy1 uy2 h0 n0 _ T1.heap _; rw [e1]; exact ⟨rfl, N1, K1, Q0_N1, Q1_N1, Q2_N1, Q3_N1, Q4_N1⟩)

def own_Q_rmEns4_1 (Z : State) (ua : Nat) (ub : Nat) (kb : ClassId) (ux0 : Int32) (ux1 : Int32) (ux2 : Int32) (ux3 : Int32) (h0 : Heap) (n0 : Nat) (v : Option Value) (h : Heap) (L : List Loc) : Prop := v = none ∧ Fr n0 L ∧ Keep h0 h []

theorem pn_rmEns4_1 : plainFor (⟨"java/lang/AbstractStringBuilder", "ensureCapacityInternal", "(I)V"⟩ : MethodName) = true := by first | exact plainFor_of_name (by first | (simp [plainName, overriddenIn]; done) | decide +kernel) | exact Jvm.Free.JP.mathPlain rfl (by decide +kernel) | decide +kernel
theorem ef_rmEns4_1 (m : MethodId) (x0 : Nat) (x1 : Int32) : entryFrame m #[(.ref x0), (.int x1)] 3 = mkF m 0 #[VR x0, VI x1, UU] [] := by first | (simp [entryFrame, mkF, argsToLocals, Value.category]; done) | rfl
set_option maxRecDepth 65536 in
set_option maxHeartbeats 40000000 in
theorem rmEns4_1 (l : Launch) (Z : State) (a0 : Array Value) (hw : ∀ d ∈ tables_1, d.before a0 Z = true) (ws : List Jvm.Cond) (a_INPUT_BIT a_OUTPUT_BIT a_OUTPUT_WORD a_INPUT_WORD a_MEMORY_WORD p_INPUT_BIT v_INPUT_BIT p_OUTPUT_WORD v_OUTPUT_WORD p_OUTPUT_BIT v_OUTPUT_BIT p_MEMORY_WORD v_MEMORY_WORD p_INPUT_WORD v_INPUT_WORD a_DigitOnes : Nat) (k_INPUT_BIT : ClassId) (k_OUTPUT_WORD : ClassId) (k_OUTPUT_BIT : ClassId) (k_MEMORY_WORD : ClassId) (k_INPUT_WORD : ClassId) (ucs : Int32) (uff : Value) (ua : Nat) (ub : Nat) (kb : ClassId) (ux0 : Int32) (ux1 : Int32) (ux2 : Int32) (ux3 : Int32) (h0 : Heap) (n0 : Nat) (Z0 : n0 ≤ h0.size) (O0 : Old Z n0 h0) (HW : own_W Z Z.heap a_INPUT_BIT a_OUTPUT_BIT a_OUTPUT_WORD a_INPUT_WORD a_MEMORY_WORD p_INPUT_BIT v_INPUT_BIT p_OUTPUT_WORD v_OUTPUT_WORD p_OUTPUT_BIT v_OUTPUT_BIT p_MEMORY_WORD v_MEMORY_WORD p_INPUT_WORD v_INPUT_WORD a_DigitOnes k_INPUT_BIT k_OUTPUT_WORD k_OUTPUT_BIT k_MEMORY_WORD k_INPUT_WORD ucs uff) (E_ua : Exa Z h0 ua "java/lang/StringBuilder") (F_ua_value : Fld Z h0 ua "java/lang/AbstractStringBuilder" "value" "[B" (.ref ub)) (F_ua_coder : Fld Z h0 ua "java/lang/AbstractStringBuilder" "coder" "B" (.int 0)) (F_ua_count : Fld Z h0 ua "java/lang/AbstractStringBuilder" "count" "I" (.int 4)) (V_ub : Arv Z h0 ub kb .byte (16 : Int32) [(.int ux0), (.int ux1), (.int ux2), (.int ux3), (.int 0), (.int 0), (.int 0), (.int 0), (.int 0), (.int 0), (.int 0), (.int 0), (.int 0), (.int 0), (.int 0), (.int 0)] (.int 0))   :
    MetFree l (⟨"java/lang/AbstractStringBuilder", "ensureCapacityInternal", "(I)V"⟩ : MethodName) (head1 (Jvm.Cond.code (⟨"java/lang/AbstractStringBuilder", "ensureCapacityInternal", "(I)V"⟩ : MethodName) jdk_68_method_9_code 3 none :: ws) ({ frames := 0, cells := 0, slots := 0, locals := 0 } : Room)) (fun a U => a = #[(.ref ua), (.int 5)] ∧ Z.Warmed39 U.vm ∧ U.heap = h0) (fun _ _ _ _ _ => True) (fun _ U o U' => ∃ v L, o = .returned v ∧ (own_Q_rmEns4_1 Z ua ub kb ux0 ux1 ux2 ux3 h0 n0) v U'.heap L ∧ FrameEnd U o U' L 0 0) := by
  refine MetFree.of_bodySF pn_rmEns4_1 hisR ?_
  intro p e s m args below meth c s₁ Bd hml0 hP hK
  obtain ⟨rfl, hZ, hh⟩ := hP
  have hx := Bd.exec
  have hby := Bd.bytes
  have hml : c.maxLocals = 3 := hml0
  have hown : s.vm.findClass "java/lang/AbstractStringBuilder" = some m.cls := findClass_of_methodNamed Bd.named
  have hnm := (name_of_methodNamed Bd.named Bd.method).1
  have hrt := Bd.returns
  have hlk := Bd.notSynchronized
  have X0 : Stand p l e ({ frames := 0, cells := 0, slots := 0, locals := 0 } : Room) s m #[(.ref ua), (.int 5)] below meth c s₁ [] 0 0 := Stand.of_body Bd
  have e0 : s₁.heap = h0 := by rw [← hh, Bd.state]; rfl
  have N0 := Fr.nil n0
  have K0 := Keep.refl h0 []
  have lt_E_ua := own_lt E_ua.lt
  have lt_V_ub := own_lt V_ub.lt
  have nl_ua_ub := own_lg (Exa.neArv E_ua V_ub (own_hw 38 hw rfl))
  refine own_done (B := s₁.setTop (mkF m 0 #[VR ua, VI 5, UU] [])) (fun t k => castTop (ef_rmEns4_1 m ua (5 : Int32)) k) ?_
  refine own_by (B := s₁.setTop (mkF m 1 #[VR ua, VI 5, UU] [(.ref ua)])) (fun _ k => XS.aloadN X0.here hx rfl (hb hby d13_0) rfl rfl  k) ?_
  obtain ⟨T1, X1, e1, st1⟩ := getF X0 hx hZ hown (host := "") (Or.inl (own_hw 53 hw rfl)) Via.refl e0 F_ua_value (g := (mkF m 1 #[VR ua, VI 5, UU] [(.ref ua)])) rfl rfl (hb hby d13_1)
  refine own_by (B := T1.setTop (mkF m 4 #[VR ua, VI 5, UU] [(.ref ub)])) st1 ?_
  obtain ⟨cl2, Ar2, qq2, Sz2, Nn2, Hh2, Gg2⟩ := id (V_ub)
  refine own_by (B := T1.setTop (mkF m 5 #[VR ua, VI 5, UU] [(.int 16)])) (fun t k => X1.arraylength hx (by rw [e1]; exact Ar2.1) (State.isArrayOf_alike hZ.alike Ar2.2.1) (g := (mkF m 4 #[VR ua, VI 5, UU] [(.ref ub)])) rfl rfl (hb hby d13_4) t (by rw [len_of Sz2 Nn2]; exact k)) ?_
  refine own_by (B := T1.setTop (mkF m 6 #[VR ua, VI 5, UU] [(.ref ua), (.int 16)])) (fun _ k => XS.aloadN X1.here hx rfl (hb hby d13_5) rfl rfl  k) ?_
  obtain ⟨T3, X3, e3, st3⟩ := getF X1 hx hZ hown (host := "") (Or.inl (own_hw 55 hw rfl)) Via.refl e1 F_ua_coder (g := (mkF m 6 #[VR ua, VI 5, UU] [(.ref ua), (.int 16)])) rfl rfl (hb hby d13_6)
  refine own_by (B := T3.setTop (mkF m 9 #[VR ua, VI 5, UU] [(.int 0), (.int 16)])) st3 ?_
  refine own_by (B := T3.setTop (mkF m 10 #[VR ua, VI 5, UU] [(.int 16)])) (fun _ k => XT.ishr X3.here hx rfl (hb hby d13_9) rfl k) ?_
  refine own_by (B := T3.setTop (mkF m 11 #[VR ua, VI 5, VI 16] [])) (fun _ k => XS.istoreN X3.here hx rfl (hb hby d13_10) rfl (l' := #[VR ua, VI 5, VI 16]) rfl k) ?_
  refine own_by (B := T3.setTop (mkF m 12 #[VR ua, VI 5, VI 16] [(.int 5)])) (fun _ k => XS.iloadN X3.here hx rfl (hb hby d13_11) rfl  k) ?_
  refine own_by (B := T3.setTop (mkF m 13 #[VR ua, VI 5, VI 16] [(.int 16), (.int 5)])) (fun _ k => XS.iloadN X3.here hx rfl (hb hby d13_12) rfl  k) ?_
  refine own_by (B := T3.setTop (mkF m 14 #[VR ua, VI 5, VI 16] [(.int (-11 : Int32))])) (fun _ k => XS.isub X3.here hx rfl (hb hby d13_13) rfl k) ?_
  refine own_by (B := T3.setTop (mkF m 38 #[VR ua, VI 5, VI 16] [])) (fun _ k => XS.ifYes X3.here hx rfl (pc0 := 14) (pc' := 38) rfl (hb hby d13_14) rfl (XT.i0_le_t (by decide)) (by decide) (by decide) k) ?_
  exact own_retV X3 hx hrt hlk (hb hby d13_38) (by decide) (by decide) (by show own_Q_rmEns4_1 Z ua ub kb ux0 ux1 ux2 ux3 h0 n0 _ T3.heap _; rw [e3]; exact ⟨rfl, N0, K0⟩)

def own_Q_rmInf4_1 (Z : State) (ua : Nat) (ub : Nat) (kb : ClassId) (uc : Nat) (ud : Nat) (kd : ClassId) (ux0 : Int32) (ux1 : Int32) (ux2 : Int32) (ux3 : Int32) (uy0 : Int32) (h0 : Heap) (n0 : Nat) (v : Option Value) (h : Heap) (L : List Loc) : Prop := v = none ∧ Fr n0 L ∧ Keep h0 h []

theorem pn_rmInf4_1 : plainFor (⟨"java/lang/AbstractStringBuilder", "inflateIfNeededFor", "(Ljava/lang/String;)V"⟩ : MethodName) = true := by first | exact plainFor_of_name (by first | (simp [plainName, overriddenIn]; done) | decide +kernel) | exact Jvm.Free.JP.mathPlain rfl (by decide +kernel) | decide +kernel
theorem ef_rmInf4_1 (m : MethodId) (x0 : Nat) (x1 : Nat) : entryFrame m #[(.ref x0), (.ref x1)] 2 = mkF m 0 #[VR x0, VR x1] [] := by first | (simp [entryFrame, mkF, argsToLocals, Value.category]; done) | rfl
set_option maxRecDepth 65536 in
set_option maxHeartbeats 40000000 in
theorem rmInf4_1 (l : Launch) (Z : State) (a0 : Array Value) (hw : ∀ d ∈ tables_1, d.before a0 Z = true) (ws : List Jvm.Cond) (a_INPUT_BIT a_OUTPUT_BIT a_OUTPUT_WORD a_INPUT_WORD a_MEMORY_WORD p_INPUT_BIT v_INPUT_BIT p_OUTPUT_WORD v_OUTPUT_WORD p_OUTPUT_BIT v_OUTPUT_BIT p_MEMORY_WORD v_MEMORY_WORD p_INPUT_WORD v_INPUT_WORD a_DigitOnes : Nat) (k_INPUT_BIT : ClassId) (k_OUTPUT_WORD : ClassId) (k_OUTPUT_BIT : ClassId) (k_MEMORY_WORD : ClassId) (k_INPUT_WORD : ClassId) (ucs : Int32) (uff : Value) (ua : Nat) (ub : Nat) (kb : ClassId) (uc : Nat) (ud : Nat) (kd : ClassId) (ux0 : Int32) (ux1 : Int32) (ux2 : Int32) (ux3 : Int32) (uy0 : Int32) (h0 : Heap) (n0 : Nat) (Z0 : n0 ≤ h0.size) (O0 : Old Z n0 h0) (HW : own_W Z Z.heap a_INPUT_BIT a_OUTPUT_BIT a_OUTPUT_WORD a_INPUT_WORD a_MEMORY_WORD p_INPUT_BIT v_INPUT_BIT p_OUTPUT_WORD v_OUTPUT_WORD p_OUTPUT_BIT v_OUTPUT_BIT p_MEMORY_WORD v_MEMORY_WORD p_INPUT_WORD v_INPUT_WORD a_DigitOnes k_INPUT_BIT k_OUTPUT_WORD k_OUTPUT_BIT k_MEMORY_WORD k_INPUT_WORD ucs uff) (E_ua : Exa Z h0 ua "java/lang/StringBuilder") (F_ua_value : Fld Z h0 ua "java/lang/AbstractStringBuilder" "value" "[B" (.ref ub)) (F_ua_coder : Fld Z h0 ua "java/lang/AbstractStringBuilder" "coder" "B" (.int 0)) (F_ua_count : Fld Z h0 ua "java/lang/AbstractStringBuilder" "count" "I" (.int 4)) (V_ub : Arv Z h0 ub kb .byte (16 : Int32) [(.int ux0), (.int ux1), (.int ux2), (.int ux3), (.int 0), (.int 0), (.int 0), (.int 0), (.int 0), (.int 0), (.int 0), (.int 0), (.int 0), (.int 0), (.int 0), (.int 0)] (.int 0)) (E_uc : Exa Z h0 uc "java/lang/String") (F_uc_value : Fld Z h0 uc "java/lang/String" "value" "[B" (.ref ud)) (F_uc_coder : Fld Z h0 uc "java/lang/String" "coder" "B" (.int 0)) (V_ud : Arv Z h0 ud kd .byte (1 : Int32) [(.int uy0)] (.int 0))   :
    MetFree l (⟨"java/lang/AbstractStringBuilder", "inflateIfNeededFor", "(Ljava/lang/String;)V"⟩ : MethodName) (head1 (Jvm.Cond.code (⟨"java/lang/AbstractStringBuilder", "inflateIfNeededFor", "(Ljava/lang/String;)V"⟩ : MethodName) jdk_68_method_71_code 2 none :: ws) ({ frames := 1, cells := 0, slots := 0, locals := 13 } : Room)) (fun a U => a = #[(.ref ua), (.ref uc)] ∧ Z.Warmed39 U.vm ∧ U.heap = h0) (fun _ _ _ _ _ => True) (fun _ U o U' => ∃ v L, o = .returned v ∧ (own_Q_rmInf4_1 Z ua ub kb uc ud kd ux0 ux1 ux2 ux3 uy0 h0 n0) v U'.heap L ∧ FrameEnd U o U' L 0 0) := by
  refine MetFree.of_bodySF pn_rmInf4_1 hisR ?_
  intro p e s m args below meth c s₁ Bd hml0 hP hK
  obtain ⟨rfl, hZ, hh⟩ := hP
  have hx := Bd.exec
  have hby := Bd.bytes
  have hml : c.maxLocals = 2 := hml0
  have hown : s.vm.findClass "java/lang/AbstractStringBuilder" = some m.cls := findClass_of_methodNamed Bd.named
  have hnm := (name_of_methodNamed Bd.named Bd.method).1
  have hrt := Bd.returns
  have hlk := Bd.notSynchronized
  have X0 : Stand p l e ({ frames := 1, cells := 0, slots := 0, locals := 13 } : Room) s m #[(.ref ua), (.ref uc)] below meth c s₁ [] 0 0 := Stand.of_body Bd
  have e0 : s₁.heap = h0 := by rw [← hh, Bd.state]; rfl
  have N0 := Fr.nil n0
  have K0 := Keep.refl h0 []
  have HW' := HW
  obtain ⟨-, -, -, -, -, -, -, -, -, -, -, -, -, -, -, -, -, -, -, -, -, -, -, -, -, -, -, -, -, -, -, -, -, -, -, -, -, -, -, -, S_CS, H_CS, -, -, -, -⟩ := HW'
  have lt_E_ua := own_lt E_ua.lt
  have lt_V_ub := own_lt V_ub.lt
  have lt_E_uc := own_lt E_uc.lt
  have lt_V_ud := own_lt V_ud.lt
  have nl_ua_ub := own_lg (Exa.neArv E_ua V_ub (own_hw 38 hw rfl))
  have nl_ua_ud := own_lg (Exa.neArv E_ua V_ud (own_hw 38 hw rfl))
  have nl_uc_ub := own_lg (Exa.neArv E_uc V_ub (own_hw 134 hw rfl))
  have nl_uc_ud := own_lg (Exa.neArv E_uc V_ud (own_hw 134 hw rfl))
  refine own_done (B := s₁.setTop (mkF m 0 #[VR ua, VR uc] [])) (fun t k => castTop (ef_rmInf4_1 m ua uc) k) ?_
  obtain ⟨T1, X1, e1, st1⟩ := getS2 X0 hx hZ hown (host := "") (Or.inl (own_hw 50 hw rfl)) Via.refl e0 (S_CS.ext O0.2) (g := (mkF m 0 #[VR ua, VR uc] [])) rfl (hb hby d15_0)
  refine own_by (B := T1.setTop (mkF m 3 #[VR ua, VR uc] [(.int ucs)])) st1 ?_
  refine own_by (B := T1.setTop (mkF m 6 #[VR ua, VR uc] [])) (fun _ k => XS.ifNo X1.here hx rfl (hb hby d15_3) rfl (XT.i0_eq_f H_CS) k) ?_
  refine own_by (B := T1.setTop (mkF m 7 #[VR ua, VR uc] [(.ref ua)])) (fun _ k => XS.aloadN X1.here hx rfl (hb hby d15_6) rfl rfl  k) ?_
  obtain ⟨T2, X2, e2, st2⟩ := getF X1 hx hZ hown (host := "") (Or.inl (own_hw 55 hw rfl)) Via.refl e1 F_ua_coder (g := (mkF m 7 #[VR ua, VR uc] [(.ref ua)])) rfl rfl (hb hby d15_7)
  refine own_by (B := T2.setTop (mkF m 10 #[VR ua, VR uc] [(.int 0)])) st2 ?_
  refine own_by (B := T2.setTop (mkF m 11 #[VR ua, VR uc] [(.ref uc), (.int 0)])) (fun _ k => XS.aloadN X2.here hx rfl (hb hby d15_10) rfl rfl  k) ?_
  obtain ⟨cq3, kq3, qa3, qb3, qc3⟩ := isOf hZ e2 E_uc
  obtain ⟨_, _, ⟨T3, L3, k3, n3⟩, -, X3, ⟨Lc3, hQ3, l3, y3, z3⟩, st3⟩ := X2.virtualBack hx (y := (⟨"java/lang/String", "coder", "()B"⟩ : MethodName)) (z := (⟨"java/lang/String", "coder", "()B"⟩ : MethodName)) hown (mvT hZ (own_hw 101 hw rfl)) (mvT hZ (own_hw 77 hw rfl)) (notFace_of_selects (args := #[]) (mvT hZ (own_hw 79 hw rfl))) (mvT hZ (own_hw 79 hw rfl)) (mvT hZ (own_hw 78 hw rfl)) (by decide) (backOf (W := 1) (rmCoder1 l Z a0 hw [] a_INPUT_BIT a_OUTPUT_BIT a_OUTPUT_WORD a_INPUT_WORD a_MEMORY_WORD p_INPUT_BIT v_INPUT_BIT p_OUTPUT_WORD v_OUTPUT_WORD p_OUTPUT_BIT v_OUTPUT_BIT p_MEMORY_WORD v_MEMORY_WORD p_INPUT_WORD v_INPUT_WORD a_DigitOnes k_INPUT_BIT k_OUTPUT_WORD k_OUTPUT_BIT k_MEMORY_WORD k_INPUT_WORD ucs uff uc ud kd uy0 h0 n0 (own_old_le O0) O0 HW E_uc F_uc_value F_uc_coder V_ud) hZ (own_hw 80 hw rfl) (own_hw 51 hw rfl) (by decide) (by decide)) qa3 qc3 (g := (mkF m 11 #[VR ua, VR uc] [(.ref uc), (.int 0)])) rfl (by rw [hml]; rfl) (Steps.refl _) (argsL := []) (rest := [(.int 0)]) (lenOf pd_15___B rfl) rfl (by show 2 * 0 + _ ≤ _; exact Nat.le_of_eq rfl) (hb hby d15_11) (fun _ _ => ⟨rfl, e2, (by decide : 0 + 0 ≤ _), (by decide : 0 + 0 ≤ _)⟩)
  dsimp only [Pt.U, Pt.locs, Pt.cells, Pt.slots] at X3 l3 y3 z3 st3 hQ3
  subst l3 y3 z3
  obtain ⟨rfl, NC3, KC3⟩ := hQ3
  refine own_by (B := T3.setTop (mkF m 14 #[VR ua, VR uc] [(.int 0), (.int 0)])) (fun _ k => st3.trans k) ?_
  obtain ⟨h3, e3⟩ : ∃ z, T3.heap = z := ⟨_, rfl⟩
  rw [e3] at KC3
  have sz3 := KC3.1
  have O3 := O0.keep KC3 all0
  have K3 := K0.trans KC3 all0
  have N3 := Fr.app N0 NC3
  refine own_by (B := T3.setTop (mkF m 21 #[VR ua, VR uc] [])) (fun _ k => XS.icmpYes X3.here hx rfl (pc0 := 14) (pc' := 21) rfl (hb hby d15_14) rfl (XT.ii_eq_t (by decide)) (by decide) (by decide) k) ?_
  exact own_retV X3 hx hrt hlk (hb hby d15_21) (by decide) (by decide) (by show own_Q_rmInf4_1 Z ua ub kb uc ud kd ux0 ux1 ux2 ux3 uy0 h0 n0 _ T3.heap _; rw [e3]; exact ⟨rfl, N3, K3⟩)

def own_Q_rmGet4_1 (Z : State) (ub : Nat) (kb : ClassId) (uc : Nat) (ud : Nat) (kd : ClassId) (ux0 : Int32) (ux1 : Int32) (ux2 : Int32) (ux3 : Int32) (uy0 : Int32) (h0 : Heap) (n0 : Nat) (v : Option Value) (h : Heap) (L : List Loc) : Prop := v = none ∧ Fr n0 L ∧ Keep h0 h [ub] ∧ Arv Z h ub kb .byte (16 : Int32) [(.int ux0), (.int ux1), (.int ux2), (.int ux3), (.int uy0), (.int 0), (.int 0), (.int 0), (.int 0), (.int 0), (.int 0), (.int 0), (.int 0), (.int 0), (.int 0), (.int 0)] (.int 0)

theorem pn_rmGet4_1 : plainFor (⟨"java/lang/String", "getBytes", "([BIB)V"⟩ : MethodName) = true := by first | exact plainFor_of_name (by first | (simp [plainName, overriddenIn]; done) | decide +kernel) | exact Jvm.Free.JP.mathPlain rfl (by decide +kernel) | decide +kernel
theorem ef_rmGet4_1 (m : MethodId) (x0 : Nat) (x1 : Nat) (x2 : Int32) (x3 : Int32) : entryFrame m #[(.ref x0), (.ref x1), (.int x2), (.int x3)] 4 = mkF m 0 #[VR x0, VR x1, VI x2, VI x3] [] := by first | (simp [entryFrame, mkF, argsToLocals, Value.category]; done) | rfl
set_option maxRecDepth 65536 in
set_option maxHeartbeats 40000000 in
theorem rmGet4_1 (l : Launch) (Z : State) (a0 : Array Value) (hw : ∀ d ∈ tables_1, d.before a0 Z = true) (ws : List Jvm.Cond) (a_INPUT_BIT a_OUTPUT_BIT a_OUTPUT_WORD a_INPUT_WORD a_MEMORY_WORD p_INPUT_BIT v_INPUT_BIT p_OUTPUT_WORD v_OUTPUT_WORD p_OUTPUT_BIT v_OUTPUT_BIT p_MEMORY_WORD v_MEMORY_WORD p_INPUT_WORD v_INPUT_WORD a_DigitOnes : Nat) (k_INPUT_BIT : ClassId) (k_OUTPUT_WORD : ClassId) (k_OUTPUT_BIT : ClassId) (k_MEMORY_WORD : ClassId) (k_INPUT_WORD : ClassId) (ucs : Int32) (uff : Value) (ub : Nat) (kb : ClassId) (uc : Nat) (ud : Nat) (kd : ClassId) (ux0 : Int32) (ux1 : Int32) (ux2 : Int32) (ux3 : Int32) (uy0 : Int32) (h0 : Heap) (n0 : Nat) (Z0 : n0 ≤ h0.size) (O0 : Old Z n0 h0) (HW : own_W Z Z.heap a_INPUT_BIT a_OUTPUT_BIT a_OUTPUT_WORD a_INPUT_WORD a_MEMORY_WORD p_INPUT_BIT v_INPUT_BIT p_OUTPUT_WORD v_OUTPUT_WORD p_OUTPUT_BIT v_OUTPUT_BIT p_MEMORY_WORD v_MEMORY_WORD p_INPUT_WORD v_INPUT_WORD a_DigitOnes k_INPUT_BIT k_OUTPUT_WORD k_OUTPUT_BIT k_MEMORY_WORD k_INPUT_WORD ucs uff) (V_ub : Arv Z h0 ub kb .byte (16 : Int32) [(.int ux0), (.int ux1), (.int ux2), (.int ux3), (.int 0), (.int 0), (.int 0), (.int 0), (.int 0), (.int 0), (.int 0), (.int 0), (.int 0), (.int 0), (.int 0), (.int 0)] (.int 0)) (E_uc : Exa Z h0 uc "java/lang/String") (F_uc_value : Fld Z h0 uc "java/lang/String" "value" "[B" (.ref ud)) (F_uc_coder : Fld Z h0 uc "java/lang/String" "coder" "B" (.int 0)) (V_ud : Arv Z h0 ud kd .byte (1 : Int32) [(.int uy0)] (.int 0)) (gn_ub : n0 ≤ ub)  :
    MetFree l (⟨"java/lang/String", "getBytes", "([BIB)V"⟩ : MethodName) (head1 (Jvm.Cond.code (⟨"java/lang/String", "getBytes", "([BIB)V"⟩ : MethodName) jdk_42_method_147_code 4 none :: ws) ({ frames := 1, cells := 0, slots := 0, locals := 51 } : Room)) (fun a U => a = #[(.ref uc), (.ref ub), (.int 4), (.int 0)] ∧ Z.Warmed39 U.vm ∧ U.heap = h0) (fun _ _ _ _ _ => True) (fun _ U o U' => ∃ v L, o = .returned v ∧ (own_Q_rmGet4_1 Z ub kb uc ud kd ux0 ux1 ux2 ux3 uy0 h0 n0) v U'.heap L ∧ FrameEnd U o U' L 0 0) := by
  refine MetFree.of_bodySF pn_rmGet4_1 hisR ?_
  intro p e s m args below meth c s₁ Bd hml0 hP hK
  obtain ⟨rfl, hZ, hh⟩ := hP
  have hx := Bd.exec
  have hby := Bd.bytes
  have hml : c.maxLocals = 4 := hml0
  have hown : s.vm.findClass "java/lang/String" = some m.cls := findClass_of_methodNamed Bd.named
  have hnm := (name_of_methodNamed Bd.named Bd.method).1
  have hrt := Bd.returns
  have hlk := Bd.notSynchronized
  have X0 : Stand p l e ({ frames := 1, cells := 0, slots := 0, locals := 51 } : Room) s m #[(.ref uc), (.ref ub), (.int 4), (.int 0)] below meth c s₁ [] 0 0 := Stand.of_body Bd
  have e0 : s₁.heap = h0 := by rw [← hh, Bd.state]; rfl
  have N0 := Fr.nil n0
  have K0 := Keep.refl h0 [ub]
  have lt_V_ub := own_lt V_ub.lt
  have lt_E_uc := own_lt E_uc.lt
  have lt_V_ud := own_lt V_ud.lt
  have nl_uc_ub := own_lg (Exa.neArv E_uc V_ub (own_hw 134 hw rfl))
  have nl_uc_ud := own_lg (Exa.neArv E_uc V_ud (own_hw 134 hw rfl))
  refine own_done (B := s₁.setTop (mkF m 0 #[VR uc, VR ub, VI 4, VI 0] [])) (fun t k => castTop (ef_rmGet4_1 m uc ub (4 : Int32) (0 : Int32)) k) ?_
  refine own_by (B := s₁.setTop (mkF m 1 #[VR uc, VR ub, VI 4, VI 0] [(.ref uc)])) (fun _ k => XS.aloadN X0.here hx rfl (hb hby d16_0) rfl rfl  k) ?_
  obtain ⟨cq1, kq1, qa1, qb1, qc1⟩ := isOf hZ e0 E_uc
  obtain ⟨_, _, ⟨T1, L1, k1, n1⟩, -, X1, ⟨Lc1, hQ1, l1, y1, z1⟩, st1⟩ := X0.virtualBack hx (y := (⟨"java/lang/String", "coder", "()B"⟩ : MethodName)) (z := (⟨"java/lang/String", "coder", "()B"⟩ : MethodName)) hown (mvT hZ (own_hw 76 hw rfl)) (mvT hZ (own_hw 77 hw rfl)) (notFace_of_selects (args := #[]) (mvT hZ (own_hw 79 hw rfl))) (mvT hZ (own_hw 79 hw rfl)) (mvT hZ (own_hw 78 hw rfl)) (by decide) (backOf (W := 0) (rmCoder1 l Z a0 hw [] a_INPUT_BIT a_OUTPUT_BIT a_OUTPUT_WORD a_INPUT_WORD a_MEMORY_WORD p_INPUT_BIT v_INPUT_BIT p_OUTPUT_WORD v_OUTPUT_WORD p_OUTPUT_BIT v_OUTPUT_BIT p_MEMORY_WORD v_MEMORY_WORD p_INPUT_WORD v_INPUT_WORD a_DigitOnes k_INPUT_BIT k_OUTPUT_WORD k_OUTPUT_BIT k_MEMORY_WORD k_INPUT_WORD ucs uff uc ud kd uy0 h0 n0 (own_old_le O0) O0 HW E_uc F_uc_value F_uc_coder V_ud) hZ (own_hw 80 hw rfl) (own_hw 51 hw rfl) (by decide) (by decide)) qa1 qc1 (g := (mkF m 1 #[VR uc, VR ub, VI 4, VI 0] [(.ref uc)])) rfl (by rw [hml]; rfl) (Steps.refl _) (argsL := []) (rest := []) (lenOf pd_16___B rfl) rfl (by show 2 * 0 + _ ≤ _; exact Nat.le_of_eq rfl) (hb hby d16_1) (fun _ _ => ⟨rfl, e0, (by decide : 0 + 0 ≤ _), (by decide : 0 + 0 ≤ _)⟩)
  dsimp only [Pt.U, Pt.locs, Pt.cells, Pt.slots] at X1 l1 y1 z1 st1 hQ1
  subst l1 y1 z1
  obtain ⟨rfl, NC1, KC1⟩ := hQ1
  refine own_by (B := T1.setTop (mkF m 4 #[VR uc, VR ub, VI 4, VI 0] [(.int 0)])) (fun _ k => st1.trans k) ?_
  obtain ⟨h1, e1⟩ : ∃ z, T1.heap = z := ⟨_, rfl⟩
  rw [e1] at KC1
  have sz1 := KC1.1
  have O1 := O0.keep KC1 all0
  have K1 := K0.trans KC1 all0
  have N1 := Fr.app N0 NC1
  refine own_by (B := T1.setTop (mkF m 5 #[VR uc, VR ub, VI 4, VI 0] [(.int 0), (.int 0)])) (fun _ k => XS.iloadN X1.here hx rfl (hb hby d16_4) rfl  k) ?_
  refine own_by (B := T1.setTop (mkF m 8 #[VR uc, VR ub, VI 4, VI 0] [])) (fun _ k => XS.icmpNo X1.here hx rfl (hb hby d16_5) rfl (XT.ii_ne_f (by decide)) k) ?_
  refine own_by (B := T1.setTop (mkF m 9 #[VR uc, VR ub, VI 4, VI 0] [(.ref uc)])) (fun _ k => XS.aloadN X1.here hx rfl (hb hby d16_8) rfl rfl  k) ?_
  have c2 := (F_uc_value.keep KC1 nin0)
  obtain ⟨T3, X3, e3, st3⟩ := getF X1 hx hZ hown (host := "") (Or.inl (own_hw 74 hw rfl)) Via.refl e1 c2 (g := (mkF m 9 #[VR uc, VR ub, VI 4, VI 0] [(.ref uc)])) rfl rfl (hb hby d16_9)
  refine own_by (B := T3.setTop (mkF m 12 #[VR uc, VR ub, VI 4, VI 0] [(.ref ud)])) st3 ?_
  refine own_by (B := T3.setTop (mkF m 13 #[VR uc, VR ub, VI 4, VI 0] [(.int 0), (.ref ud)])) (fun _ k => XS.iconst X3.here hx rfl (hb hby d16_12) k) ?_
  refine own_by (B := T3.setTop (mkF m 14 #[VR uc, VR ub, VI 4, VI 0] [(.ref ub), (.int 0), (.ref ud)])) (fun _ k => XS.aloadN X3.here hx rfl (hb hby d16_13) rfl rfl  k) ?_
  refine own_by (B := T3.setTop (mkF m 15 #[VR uc, VR ub, VI 4, VI 0] [(.int 4), (.ref ub), (.int 0), (.ref ud)])) (fun _ k => XS.iloadN X3.here hx rfl (hb hby d16_14) rfl  k) ?_
  refine own_by (B := T3.setTop (mkF m 16 #[VR uc, VR ub, VI 4, VI 0] [(.int 0), (.int 4), (.ref ub), (.int 0), (.ref ud)])) (fun _ k => XS.iloadN X3.here hx rfl (hb hby d16_15) rfl  k) ?_
  refine own_by (B := T3.setTop (mkF m 17 #[VR uc, VR ub, VI 4, VI 0] [(.int 4), (.ref ub), (.int 0), (.ref ud)])) (fun _ k => XT.ishl X3.here hx rfl (hb hby d16_16) rfl k) ?_
  refine own_by (B := T3.setTop (mkF m 18 #[VR uc, VR ub, VI 4, VI 0] [(.ref uc), (.int 4), (.ref ub), (.int 0), (.ref ud)])) (fun _ k => XS.aloadN X3.here hx rfl (hb hby d16_17) rfl rfl  k) ?_
  obtain ⟨T4, X4, e4, st4⟩ := getF X3 hx hZ hown (host := "") (Or.inl (own_hw 74 hw rfl)) Via.refl e3 c2 (g := (mkF m 18 #[VR uc, VR ub, VI 4, VI 0] [(.ref uc), (.int 4), (.ref ub), (.int 0), (.ref ud)])) rfl rfl (hb hby d16_18)
  refine own_by (B := T4.setTop (mkF m 21 #[VR uc, VR ub, VI 4, VI 0] [(.ref ud), (.int 4), (.ref ub), (.int 0), (.ref ud)])) st4 ?_
  have c5 := (V_ud.keep KC1 nin0)
  obtain ⟨cl6, Ar6, qq6, Sz6, Nn6, Hh6, Gg6⟩ := id (c5)
  refine own_by (B := T4.setTop (mkF m 22 #[VR uc, VR ub, VI 4, VI 0] [(.int 1), (.int 4), (.ref ub), (.int 0), (.ref ud)])) (fun t k => X4.arraylength hx (by rw [e4]; exact Ar6.1) (State.isArrayOf_alike hZ.alike Ar6.2.1) (g := (mkF m 21 #[VR uc, VR ub, VI 4, VI 0] [(.ref ud), (.int 4), (.ref ub), (.int 0), (.ref ud)])) rfl rfl (hb hby d16_21) t (by rw [len_of Sz6 Nn6]; exact k)) ?_
  have c8 := (V_ub.keep KC1 nin0)
  obtain ⟨T7, h7, L7, X7, e7, NC7, KC7, VC7, st7⟩ := cpA X4 hx hZ hown (own_hw 107 hw rfl) (own_hw 110 hw rfl) (own_hw 108 hw rfl) (own_hw 109 hw rfl) e4 c5 c8 (us := [(.int uy0)]) (Or.inl ⟨rfl, rfl⟩) (by decide) (by decide) (by decide) (by decide) (by decide) rfl (Nat.le_of_ble_eq_true rfl) N1 gn_ub (g := (mkF m 22 #[VR uc, VR ub, VI 4, VI 0] [(.int 1), (.int 4), (.ref ub), (.int 0), (.ref ud)])) rfl (by rw [hml]; rfl) (rest := []) rfl (hb hby d16_22) (by decide) (W := 0) (by show 2 * 0 + _ ≤ _; exact Nat.le_of_eq rfl) (by decide)
  have V7 : Arv Z h7 ub kb .byte (16 : Int32) [(.int ux0), (.int ux1), (.int ux2), (.int ux3), (.int uy0), (.int 0), (.int 0), (.int 0), (.int 0), (.int 0), (.int 0), (.int 0), (.int 0), (.int 0), (.int 0), (.int 0)] (.int 0) := VC7
  have sz7 := KC7.1
  have O7 := O1.keep KC7 (allS gn_ub all0)
  have K7 := K1.trans KC7 (allS (Or.inl (List.mem_of_getElem? (i := 0) rfl)) all0)
  refine own_by (B := T7.setTop (mkF m 25 #[VR uc, VR ub, VI 4, VI 0] [])) st7 ?_
  refine own_by (B := T7.setTop (mkF m 43 #[VR uc, VR ub, VI 4, VI 0] [])) (fun _ k => XS.goto X7.here hx rfl (pc0 := 25) (pc' := 43) rfl (hb hby d16_25) (by decide) (by decide) k) ?_
  exact own_retV X7 hx hrt hlk (hb hby d16_43) (by decide) (by decide) (by show own_Q_rmGet4_1 Z ub kb uc ud kd ux0 ux1 ux2 ux3 uy0 h0 n0 _ T7.heap _; rw [e7]; exact ⟨rfl, NC7, K7, V7⟩)

def own_Q_rmPut4_1 (Z : State) (ua : Nat) (ub : Nat) (kb : ClassId) (uc : Nat) (ud : Nat) (kd : ClassId) (ux0 : Int32) (ux1 : Int32) (ux2 : Int32) (ux3 : Int32) (uy0 : Int32) (h0 : Heap) (n0 : Nat) (v : Option Value) (h : Heap) (L : List Loc) : Prop := v = none ∧ Fr n0 L ∧ Keep h0 h [ub] ∧ Arv Z h ub kb .byte (16 : Int32) [(.int ux0), (.int ux1), (.int ux2), (.int ux3), (.int uy0), (.int 0), (.int 0), (.int 0), (.int 0), (.int 0), (.int 0), (.int 0), (.int 0), (.int 0), (.int 0), (.int 0)] (.int 0)

theorem pn_rmPut4_1 : plainFor (⟨"java/lang/AbstractStringBuilder", "putStringAt", "(ILjava/lang/String;)V"⟩ : MethodName) = true := by first | exact plainFor_of_name (by first | (simp [plainName, overriddenIn]; done) | decide +kernel) | exact Jvm.Free.JP.mathPlain rfl (by decide +kernel) | decide +kernel
theorem ef_rmPut4_1 (m : MethodId) (x0 : Nat) (x1 : Int32) (x2 : Nat) : entryFrame m #[(.ref x0), (.int x1), (.ref x2)] 3 = mkF m 0 #[VR x0, VI x1, VR x2] [] := by first | (simp [entryFrame, mkF, argsToLocals, Value.category]; done) | rfl
set_option maxRecDepth 65536 in
set_option maxHeartbeats 40000000 in
theorem rmPut4_1 (l : Launch) (Z : State) (a0 : Array Value) (hw : ∀ d ∈ tables_1, d.before a0 Z = true) (ws : List Jvm.Cond) (a_INPUT_BIT a_OUTPUT_BIT a_OUTPUT_WORD a_INPUT_WORD a_MEMORY_WORD p_INPUT_BIT v_INPUT_BIT p_OUTPUT_WORD v_OUTPUT_WORD p_OUTPUT_BIT v_OUTPUT_BIT p_MEMORY_WORD v_MEMORY_WORD p_INPUT_WORD v_INPUT_WORD a_DigitOnes : Nat) (k_INPUT_BIT : ClassId) (k_OUTPUT_WORD : ClassId) (k_OUTPUT_BIT : ClassId) (k_MEMORY_WORD : ClassId) (k_INPUT_WORD : ClassId) (ucs : Int32) (uff : Value) (ua : Nat) (ub : Nat) (kb : ClassId) (uc : Nat) (ud : Nat) (kd : ClassId) (ux0 : Int32) (ux1 : Int32) (ux2 : Int32) (ux3 : Int32) (uy0 : Int32) (h0 : Heap) (n0 : Nat) (Z0 : n0 ≤ h0.size) (O0 : Old Z n0 h0) (HW : own_W Z Z.heap a_INPUT_BIT a_OUTPUT_BIT a_OUTPUT_WORD a_INPUT_WORD a_MEMORY_WORD p_INPUT_BIT v_INPUT_BIT p_OUTPUT_WORD v_OUTPUT_WORD p_OUTPUT_BIT v_OUTPUT_BIT p_MEMORY_WORD v_MEMORY_WORD p_INPUT_WORD v_INPUT_WORD a_DigitOnes k_INPUT_BIT k_OUTPUT_WORD k_OUTPUT_BIT k_MEMORY_WORD k_INPUT_WORD ucs uff) (E_ua : Exa Z h0 ua "java/lang/StringBuilder") (F_ua_value : Fld Z h0 ua "java/lang/AbstractStringBuilder" "value" "[B" (.ref ub)) (F_ua_coder : Fld Z h0 ua "java/lang/AbstractStringBuilder" "coder" "B" (.int 0)) (F_ua_count : Fld Z h0 ua "java/lang/AbstractStringBuilder" "count" "I" (.int 4)) (V_ub : Arv Z h0 ub kb .byte (16 : Int32) [(.int ux0), (.int ux1), (.int ux2), (.int ux3), (.int 0), (.int 0), (.int 0), (.int 0), (.int 0), (.int 0), (.int 0), (.int 0), (.int 0), (.int 0), (.int 0), (.int 0)] (.int 0)) (E_uc : Exa Z h0 uc "java/lang/String") (F_uc_value : Fld Z h0 uc "java/lang/String" "value" "[B" (.ref ud)) (F_uc_coder : Fld Z h0 uc "java/lang/String" "coder" "B" (.int 0)) (V_ud : Arv Z h0 ud kd .byte (1 : Int32) [(.int uy0)] (.int 0)) (gn_ub : n0 ≤ ub)  :
    MetFree l (⟨"java/lang/AbstractStringBuilder", "putStringAt", "(ILjava/lang/String;)V"⟩ : MethodName) (head1 (Jvm.Cond.code (⟨"java/lang/AbstractStringBuilder", "putStringAt", "(ILjava/lang/String;)V"⟩ : MethodName) jdk_68_method_73_code 3 none :: ws) ({ frames := 2, cells := 0, slots := 0, locals := 66 } : Room)) (fun a U => a = #[(.ref ua), (.int 4), (.ref uc)] ∧ Z.Warmed39 U.vm ∧ U.heap = h0) (fun _ _ _ _ _ => True) (fun _ U o U' => ∃ v L, o = .returned v ∧ (own_Q_rmPut4_1 Z ua ub kb uc ud kd ux0 ux1 ux2 ux3 uy0 h0 n0) v U'.heap L ∧ FrameEnd U o U' L 0 0) := by
  refine MetFree.of_bodySF pn_rmPut4_1 hisR ?_
  intro p e s m args below meth c s₁ Bd hml0 hP hK
  obtain ⟨rfl, hZ, hh⟩ := hP
  have hx := Bd.exec
  have hby := Bd.bytes
  have hml : c.maxLocals = 3 := hml0
  have hown : s.vm.findClass "java/lang/AbstractStringBuilder" = some m.cls := findClass_of_methodNamed Bd.named
  have hnm := (name_of_methodNamed Bd.named Bd.method).1
  have hrt := Bd.returns
  have hlk := Bd.notSynchronized
  have X0 : Stand p l e ({ frames := 2, cells := 0, slots := 0, locals := 66 } : Room) s m #[(.ref ua), (.int 4), (.ref uc)] below meth c s₁ [] 0 0 := Stand.of_body Bd
  have e0 : s₁.heap = h0 := by rw [← hh, Bd.state]; rfl
  have N0 := Fr.nil n0
  have K0 := Keep.refl h0 [ub]
  have lt_E_ua := own_lt E_ua.lt
  have lt_V_ub := own_lt V_ub.lt
  have lt_E_uc := own_lt E_uc.lt
  have lt_V_ud := own_lt V_ud.lt
  have nl_ua_ub := own_lg (Exa.neArv E_ua V_ub (own_hw 38 hw rfl))
  have nl_ua_ud := own_lg (Exa.neArv E_ua V_ud (own_hw 38 hw rfl))
  have nl_uc_ub := own_lg (Exa.neArv E_uc V_ub (own_hw 134 hw rfl))
  have nl_uc_ud := own_lg (Exa.neArv E_uc V_ud (own_hw 134 hw rfl))
  refine own_done (B := s₁.setTop (mkF m 0 #[VR ua, VI 4, VR uc] [])) (fun t k => castTop (ef_rmPut4_1 m ua (4 : Int32) uc) k) ?_
  refine own_by (B := s₁.setTop (mkF m 1 #[VR ua, VI 4, VR uc] [(.ref ua)])) (fun _ k => XS.aloadN X0.here hx rfl (hb hby d14_0) rfl rfl  k) ?_
  refine own_by (B := s₁.setTop (mkF m 2 #[VR ua, VI 4, VR uc] [(.ref uc), (.ref ua)])) (fun _ k => XS.aloadN X0.here hx rfl (hb hby d14_1) rfl rfl  k) ?_
  obtain ⟨cq1, qa1, qc1⟩ := Exa.cell E_ua
  obtain ⟨_, _, ⟨T1, L1, k1, n1⟩, -, X1, ⟨Lc1, hQ1, l1, y1, z1⟩, st1⟩ := X0.privateBack hx (y := (⟨"java/lang/AbstractStringBuilder", "inflateIfNeededFor", "(Ljava/lang/String;)V"⟩ : MethodName)) hown (mvT hZ (own_hw 96 hw rfl)) (mvT hZ (own_hw 97 hw rfl)) (mvT hZ (own_selpriv2 (y := (⟨"java/lang/AbstractStringBuilder", "inflateIfNeededFor", "(Ljava/lang/String;)V"⟩ : MethodName)) (own_hw 99 hw rfl) (own_hw 98 hw rfl) (own_hw 97 hw rfl) (by decide))) (Cond.privateMethod_at (mvP hZ (own_hw 98 hw rfl) (args := #[]))) (mvT hZ (own_hw 100 hw rfl)) (by decide) (backOf (W := 0) (rmInf4_1 l Z a0 hw [] a_INPUT_BIT a_OUTPUT_BIT a_OUTPUT_WORD a_INPUT_WORD a_MEMORY_WORD p_INPUT_BIT v_INPUT_BIT p_OUTPUT_WORD v_OUTPUT_WORD p_OUTPUT_BIT v_OUTPUT_BIT p_MEMORY_WORD v_MEMORY_WORD p_INPUT_WORD v_INPUT_WORD a_DigitOnes k_INPUT_BIT k_OUTPUT_WORD k_OUTPUT_BIT k_MEMORY_WORD k_INPUT_WORD ucs uff ua ub kb uc ud kd ux0 ux1 ux2 ux3 uy0 h0 n0 (own_old_le O0) O0 HW E_ua F_ua_value F_ua_coder F_ua_count V_ub E_uc F_uc_value F_uc_coder V_ud) hZ (own_hw 100 hw rfl) (own_hw 47 hw rfl) (by decide) (by decide)) (g := (mkF m 2 #[VR ua, VI 4, VR uc] [(.ref uc), (.ref ua)])) rfl (by rw [hml]; rfl) (Steps.refl _) (a := ua) (by rw [e0]; exact qa1) qc1 (argsL := [(.ref uc)]) (rest := []) (lenOf pd_14__Ljava_lang_String__V rfl) rfl (by show 2 * 0 + _ ≤ _; exact Nat.le_of_eq rfl) (hb hby d14_2) (fun _ _ => ⟨rfl, e0, (by decide : 0 + 0 ≤ _), (by decide : 0 + 0 ≤ _)⟩)
  dsimp only [Pt.U, Pt.locs, Pt.cells, Pt.slots] at X1 l1 y1 z1 st1 hQ1
  subst l1 y1 z1
  obtain ⟨rfl, NC1, KC1⟩ := hQ1
  refine own_by (B := T1.setTop (mkF m 5 #[VR ua, VI 4, VR uc] [])) (fun _ k => st1.trans k) ?_
  obtain ⟨h1, e1⟩ : ∃ z, T1.heap = z := ⟨_, rfl⟩
  rw [e1] at KC1
  have sz1 := KC1.1
  have O1 := O0.keep KC1 all0
  have K1 := K0.trans KC1 all0
  have N1 := Fr.app N0 NC1
  refine own_by (B := T1.setTop (mkF m 6 #[VR ua, VI 4, VR uc] [(.ref uc)])) (fun _ k => XS.aloadN X1.here hx rfl (hb hby d14_5) rfl rfl  k) ?_
  refine own_by (B := T1.setTop (mkF m 7 #[VR ua, VI 4, VR uc] [(.ref ua), (.ref uc)])) (fun _ k => XS.aloadN X1.here hx rfl (hb hby d14_6) rfl rfl  k) ?_
  have c2 := (F_ua_value.keep KC1 nin0)
  obtain ⟨T3, X3, e3, st3⟩ := getF X1 hx hZ hown (host := "") (Or.inl (own_hw 53 hw rfl)) Via.refl e1 c2 (g := (mkF m 7 #[VR ua, VI 4, VR uc] [(.ref ua), (.ref uc)])) rfl rfl (hb hby d14_7)
  refine own_by (B := T3.setTop (mkF m 10 #[VR ua, VI 4, VR uc] [(.ref ub), (.ref uc)])) st3 ?_
  refine own_by (B := T3.setTop (mkF m 11 #[VR ua, VI 4, VR uc] [(.int 4), (.ref ub), (.ref uc)])) (fun _ k => XS.iloadN X3.here hx rfl (hb hby d14_10) rfl  k) ?_
  refine own_by (B := T3.setTop (mkF m 12 #[VR ua, VI 4, VR uc] [(.ref ua), (.int 4), (.ref ub), (.ref uc)])) (fun _ k => XS.aloadN X3.here hx rfl (hb hby d14_11) rfl rfl  k) ?_
  have c4 := (F_ua_coder.keep KC1 nin0)
  obtain ⟨T5, X5, e5, st5⟩ := getF X3 hx hZ hown (host := "") (Or.inl (own_hw 55 hw rfl)) Via.refl e3 c4 (g := (mkF m 12 #[VR ua, VI 4, VR uc] [(.ref ua), (.int 4), (.ref ub), (.ref uc)])) rfl rfl (hb hby d14_12)
  refine own_by (B := T5.setTop (mkF m 15 #[VR ua, VI 4, VR uc] [(.int 0), (.int 4), (.ref ub), (.ref uc)])) st5 ?_
  have c6 := (V_ub.keep KC1 nin0)
  have c7 := (E_uc.keep KC1)
  have c8 := (F_uc_value.keep KC1 nin0)
  have c9 := (F_uc_coder.keep KC1 nin0)
  have c10 := (V_ud.keep KC1 nin0)
  obtain ⟨cq11, kq11, qa11, qb11, qc11⟩ := isOf hZ e5 c7
  obtain ⟨_, _, ⟨T11, L11, k11, n11⟩, -, X11, ⟨Lc11, hQ11, l11, y11, z11⟩, st11⟩ := X5.virtualBack hx (y := (⟨"java/lang/String", "getBytes", "([BIB)V"⟩ : MethodName)) (z := (⟨"java/lang/String", "getBytes", "([BIB)V"⟩ : MethodName)) hown (mvT hZ (own_hw 102 hw rfl)) (mvT hZ (own_hw 103 hw rfl)) (notFace_of_selects (args := #[]) (mvT hZ (own_hw 105 hw rfl))) (mvT hZ (own_hw 105 hw rfl)) (mvT hZ (own_hw 104 hw rfl)) (by decide) (backOf (W := 0) (rmGet4_1 l Z a0 hw [] a_INPUT_BIT a_OUTPUT_BIT a_OUTPUT_WORD a_INPUT_WORD a_MEMORY_WORD p_INPUT_BIT v_INPUT_BIT p_OUTPUT_WORD v_OUTPUT_WORD p_OUTPUT_BIT v_OUTPUT_BIT p_MEMORY_WORD v_MEMORY_WORD p_INPUT_WORD v_INPUT_WORD a_DigitOnes k_INPUT_BIT k_OUTPUT_WORD k_OUTPUT_BIT k_MEMORY_WORD k_INPUT_WORD ucs uff ub kb uc ud kd ux0 ux1 ux2 ux3 uy0 h1 n0 (own_old_le O1) O1 HW c6 c7 c8 c9 c10 gn_ub) hZ (own_hw 106 hw rfl) (own_hw 51 hw rfl) (by decide) (by decide)) qa11 qc11 (g := (mkF m 15 #[VR ua, VI 4, VR uc] [(.int 0), (.int 4), (.ref ub), (.ref uc)])) rfl (by rw [hml]; rfl) (Steps.refl _) (argsL := [(.ref ub), (.int 4), (.int 0)]) (rest := []) (lenOf pd_14___BIB_V rfl) rfl (by show 2 * 0 + _ ≤ _; exact Nat.le_of_eq rfl) (hb hby d14_15) (fun _ _ => ⟨rfl, e5, (by decide : 0 + 0 ≤ _), (by decide : 0 + 0 ≤ _)⟩)
  dsimp only [Pt.U, Pt.locs, Pt.cells, Pt.slots] at X11 l11 y11 z11 st11 hQ11
  subst l11 y11 z11
  obtain ⟨rfl, NC11, KC11, Q0_N11⟩ := hQ11
  refine own_by (B := T11.setTop (mkF m 18 #[VR ua, VI 4, VR uc] [])) (fun _ k => st11.trans k) ?_
  obtain ⟨h11, e11⟩ : ∃ z, T11.heap = z := ⟨_, rfl⟩
  rw [e11] at KC11 Q0_N11
  have sz11 := KC11.1
  have O11 := O1.keep KC11 (allS gn_ub all0)
  have K11 := K1.trans KC11 (allS (Or.inl (List.mem_of_getElem? (i := 0) rfl)) all0)
  have N11 := Fr.app N1 NC11
  exact own_retV X11 hx hrt hlk (hb hby d14_18) (by decide) (by decide) (by show own_Q_rmPut4_1 Z ua ub kb uc ud kd ux0 ux1 ux2 ux3 uy0 h0 n0 _ T11.heap _; rw [e11]; exact ⟨rfl, N11, K11, Q0_N11⟩)

def own_Q_rmAap4_1 (Z : State) (ua : Nat) (ub : Nat) (kb : ClassId) (uc : Nat) (ud : Nat) (kd : ClassId) (ux0 : Int32) (ux1 : Int32) (ux2 : Int32) (ux3 : Int32) (uy0 : Int32) (h0 : Heap) (n0 : Nat) (v : Option Value) (h : Heap) (L : List Loc) : Prop := v = some (.ref ua) ∧ Fr n0 L ∧ Keep h0 h [ua, ub] ∧ Exa Z h ua "java/lang/StringBuilder" ∧ Fld Z h ua "java/lang/AbstractStringBuilder" "value" "[B" (.ref ub) ∧ Fld Z h ua "java/lang/AbstractStringBuilder" "coder" "B" (.int 0) ∧ Fld Z h ua "java/lang/AbstractStringBuilder" "count" "I" (.int 5) ∧ Arv Z h ub kb .byte (16 : Int32) [(.int ux0), (.int ux1), (.int ux2), (.int ux3), (.int uy0), (.int 0), (.int 0), (.int 0), (.int 0), (.int 0), (.int 0), (.int 0), (.int 0), (.int 0), (.int 0), (.int 0)] (.int 0)

theorem pn_rmAap4_1 : plainFor (⟨"java/lang/AbstractStringBuilder", "append", "(Ljava/lang/String;)Ljava/lang/AbstractStringBuilder;"⟩ : MethodName) = true := by first | exact plainFor_of_name (by first | (simp [plainName, overriddenIn]; done) | decide +kernel) | exact Jvm.Free.JP.mathPlain rfl (by decide +kernel) | decide +kernel
theorem ef_rmAap4_1 (m : MethodId) (x0 : Nat) (x1 : Nat) : entryFrame m #[(.ref x0), (.ref x1)] 3 = mkF m 0 #[VR x0, VR x1, UU] [] := by first | (simp [entryFrame, mkF, argsToLocals, Value.category]; done) | rfl
set_option maxRecDepth 65536 in
set_option maxHeartbeats 40000000 in
theorem rmAap4_1 (l : Launch) (Z : State) (a0 : Array Value) (hw : ∀ d ∈ tables_1, d.before a0 Z = true) (ws : List Jvm.Cond) (a_INPUT_BIT a_OUTPUT_BIT a_OUTPUT_WORD a_INPUT_WORD a_MEMORY_WORD p_INPUT_BIT v_INPUT_BIT p_OUTPUT_WORD v_OUTPUT_WORD p_OUTPUT_BIT v_OUTPUT_BIT p_MEMORY_WORD v_MEMORY_WORD p_INPUT_WORD v_INPUT_WORD a_DigitOnes : Nat) (k_INPUT_BIT : ClassId) (k_OUTPUT_WORD : ClassId) (k_OUTPUT_BIT : ClassId) (k_MEMORY_WORD : ClassId) (k_INPUT_WORD : ClassId) (ucs : Int32) (uff : Value) (ua : Nat) (ub : Nat) (kb : ClassId) (uc : Nat) (ud : Nat) (kd : ClassId) (ux0 : Int32) (ux1 : Int32) (ux2 : Int32) (ux3 : Int32) (uy0 : Int32) (h0 : Heap) (n0 : Nat) (Z0 : n0 ≤ h0.size) (O0 : Old Z n0 h0) (HW : own_W Z Z.heap a_INPUT_BIT a_OUTPUT_BIT a_OUTPUT_WORD a_INPUT_WORD a_MEMORY_WORD p_INPUT_BIT v_INPUT_BIT p_OUTPUT_WORD v_OUTPUT_WORD p_OUTPUT_BIT v_OUTPUT_BIT p_MEMORY_WORD v_MEMORY_WORD p_INPUT_WORD v_INPUT_WORD a_DigitOnes k_INPUT_BIT k_OUTPUT_WORD k_OUTPUT_BIT k_MEMORY_WORD k_INPUT_WORD ucs uff) (E_ua : Exa Z h0 ua "java/lang/StringBuilder") (F_ua_value : Fld Z h0 ua "java/lang/AbstractStringBuilder" "value" "[B" (.ref ub)) (F_ua_coder : Fld Z h0 ua "java/lang/AbstractStringBuilder" "coder" "B" (.int 0)) (F_ua_count : Fld Z h0 ua "java/lang/AbstractStringBuilder" "count" "I" (.int 4)) (V_ub : Arv Z h0 ub kb .byte (16 : Int32) [(.int ux0), (.int ux1), (.int ux2), (.int ux3), (.int 0), (.int 0), (.int 0), (.int 0), (.int 0), (.int 0), (.int 0), (.int 0), (.int 0), (.int 0), (.int 0), (.int 0)] (.int 0)) (E_uc : Exa Z h0 uc "java/lang/String") (F_uc_value : Fld Z h0 uc "java/lang/String" "value" "[B" (.ref ud)) (F_uc_coder : Fld Z h0 uc "java/lang/String" "coder" "B" (.int 0)) (V_ud : Arv Z h0 ud kd .byte (1 : Int32) [(.int uy0)] (.int 0)) (gn_ua : n0 ≤ ua) (gn_ub : n0 ≤ ub)  :
    MetFree l (⟨"java/lang/AbstractStringBuilder", "append", "(Ljava/lang/String;)Ljava/lang/AbstractStringBuilder;"⟩ : MethodName) (head1 (Jvm.Cond.code (⟨"java/lang/AbstractStringBuilder", "append", "(Ljava/lang/String;)Ljava/lang/AbstractStringBuilder;"⟩ : MethodName) jdk_68_method_22_code 3 (some (.object "java/lang/AbstractStringBuilder")) :: ws) ({ frames := 3, cells := 0, slots := 0, locals := 80 } : Room)) (fun a U => a = #[(.ref ua), (.ref uc)] ∧ Z.Warmed39 U.vm ∧ U.heap = h0) (fun _ _ _ _ _ => True) (fun _ U o U' => ∃ v L, o = .returned v ∧ (own_Q_rmAap4_1 Z ua ub kb uc ud kd ux0 ux1 ux2 ux3 uy0 h0 n0) v U'.heap L ∧ FrameEnd U o U' L 0 0) := by
  refine MetFree.of_bodySF pn_rmAap4_1 hisR ?_
  intro p e s m args below meth c s₁ Bd hml0 hP hK
  obtain ⟨rfl, hZ, hh⟩ := hP
  have hx := Bd.exec
  have hby := Bd.bytes
  have hml : c.maxLocals = 3 := hml0
  have hown : s.vm.findClass "java/lang/AbstractStringBuilder" = some m.cls := findClass_of_methodNamed Bd.named
  have hnm := (name_of_methodNamed Bd.named Bd.method).1
  have hrt := Bd.returns
  have hlk := Bd.notSynchronized
  have X0 : Stand p l e ({ frames := 3, cells := 0, slots := 0, locals := 80 } : Room) s m #[(.ref ua), (.ref uc)] below meth c s₁ [] 0 0 := Stand.of_body Bd
  have e0 : s₁.heap = h0 := by rw [← hh, Bd.state]; rfl
  have N0 := Fr.nil n0
  have K0 := Keep.refl h0 [ua, ub]
  have lt_E_ua := own_lt E_ua.lt
  have lt_V_ub := own_lt V_ub.lt
  have lt_E_uc := own_lt E_uc.lt
  have lt_V_ud := own_lt V_ud.lt
  have nl_ua_ub := own_lg (Exa.neArv E_ua V_ub (own_hw 38 hw rfl))
  have nl_ua_ud := own_lg (Exa.neArv E_ua V_ud (own_hw 38 hw rfl))
  have nl_uc_ub := own_lg (Exa.neArv E_uc V_ub (own_hw 134 hw rfl))
  have nl_uc_ud := own_lg (Exa.neArv E_uc V_ud (own_hw 134 hw rfl))
  refine own_done (B := s₁.setTop (mkF m 0 #[VR ua, VR uc, UU] [])) (fun t k => castTop (ef_rmAap4_1 m ua uc) k) ?_
  refine own_by (B := s₁.setTop (mkF m 1 #[VR ua, VR uc, UU] [(.ref uc)])) (fun _ k => XS.aloadN X0.here hx rfl (hb hby d10_0) rfl rfl  k) ?_
  refine own_by (B := s₁.setTop (mkF m 9 #[VR ua, VR uc, UU] [])) (fun _ k => XT.ifnonnullYes X0.here hx rfl (pc0 := 1) (pc' := 9) rfl (hb hby d10_1) rfl (by decide) (by decide) k) ?_
  refine own_by (B := s₁.setTop (mkF m 10 #[VR ua, VR uc, UU] [(.ref uc)])) (fun _ k => XS.aloadN X0.here hx rfl (hb hby d10_9) rfl rfl  k) ?_
  obtain ⟨cq1, kq1, qa1, qb1, qc1⟩ := isOf hZ e0 E_uc
  obtain ⟨_, _, ⟨T1, L1, k1, n1⟩, -, X1, ⟨Lc1, hQ1, l1, y1, z1⟩, st1⟩ := X0.virtualBack hx (y := (⟨"java/lang/String", "length", "()I"⟩ : MethodName)) (z := (⟨"java/lang/String", "length", "()I"⟩ : MethodName)) hown (mvT hZ (own_hw 69 hw rfl)) (mvT hZ (own_hw 70 hw rfl)) (notFace_of_selects (args := #[]) (mvT hZ (own_hw 72 hw rfl))) (mvT hZ (own_hw 72 hw rfl)) (mvT hZ (own_hw 71 hw rfl)) (by decide) (backOf (W := 0) (rmLen1 l Z a0 hw [] a_INPUT_BIT a_OUTPUT_BIT a_OUTPUT_WORD a_INPUT_WORD a_MEMORY_WORD p_INPUT_BIT v_INPUT_BIT p_OUTPUT_WORD v_OUTPUT_WORD p_OUTPUT_BIT v_OUTPUT_BIT p_MEMORY_WORD v_MEMORY_WORD p_INPUT_WORD v_INPUT_WORD a_DigitOnes k_INPUT_BIT k_OUTPUT_WORD k_OUTPUT_BIT k_MEMORY_WORD k_INPUT_WORD ucs uff uc ud kd uy0 h0 n0 (own_old_le O0) O0 HW E_uc F_uc_value F_uc_coder V_ud) hZ (own_hw 73 hw rfl) (own_hw 51 hw rfl) (by decide) (by decide)) qa1 qc1 (g := (mkF m 10 #[VR ua, VR uc, UU] [(.ref uc)])) rfl (by rw [hml]; rfl) (Steps.refl _) (argsL := []) (rest := []) (lenOf pd_10___I rfl) rfl (by show 2 * 0 + _ ≤ _; exact Nat.le_of_eq rfl) (hb hby d10_10) (fun _ _ => ⟨rfl, e0, (by decide : 0 + 0 ≤ _), (by decide : 0 + 0 ≤ _)⟩)
  dsimp only [Pt.U, Pt.locs, Pt.cells, Pt.slots] at X1 l1 y1 z1 st1 hQ1
  subst l1 y1 z1
  obtain ⟨rfl, NC1, KC1⟩ := hQ1
  refine own_by (B := T1.setTop (mkF m 13 #[VR ua, VR uc, UU] [(.int 1)])) (fun _ k => st1.trans k) ?_
  obtain ⟨h1, e1⟩ : ∃ z, T1.heap = z := ⟨_, rfl⟩
  rw [e1] at KC1
  have sz1 := KC1.1
  have O1 := O0.keep KC1 all0
  have K1 := K0.trans KC1 all0
  have N1 := Fr.app N0 NC1
  refine own_by (B := T1.setTop (mkF m 14 #[VR ua, VR uc, VI 1] [])) (fun _ k => XS.istoreN X1.here hx rfl (hb hby d10_13) rfl (l' := #[VR ua, VR uc, VI 1]) rfl k) ?_
  refine own_by (B := T1.setTop (mkF m 15 #[VR ua, VR uc, VI 1] [(.ref ua)])) (fun _ k => XS.aloadN X1.here hx rfl (hb hby d10_14) rfl rfl  k) ?_
  refine own_by (B := T1.setTop (mkF m 16 #[VR ua, VR uc, VI 1] [(.ref ua), (.ref ua)])) (fun _ k => XS.aloadN X1.here hx rfl (hb hby d10_15) rfl rfl  k) ?_
  have c2 := (F_ua_count.keep KC1 nin0)
  obtain ⟨T3, X3, e3, st3⟩ := getF X1 hx hZ hown (host := "") (Or.inl (own_hw 84 hw rfl)) Via.refl e1 c2 (g := (mkF m 16 #[VR ua, VR uc, VI 1] [(.ref ua), (.ref ua)])) rfl rfl (hb hby d10_16)
  refine own_by (B := T3.setTop (mkF m 19 #[VR ua, VR uc, VI 1] [(.int 4), (.ref ua)])) st3 ?_
  refine own_by (B := T3.setTop (mkF m 20 #[VR ua, VR uc, VI 1] [(.int 1), (.int 4), (.ref ua)])) (fun _ k => XS.iloadN X3.here hx rfl (hb hby d10_19) rfl  k) ?_
  refine own_by (B := T3.setTop (mkF m 21 #[VR ua, VR uc, VI 1] [(.int 5), (.ref ua)])) (fun _ k => XS.iadd X3.here hx rfl (hb hby d10_20) rfl k) ?_
  have c4 := (E_ua.keep KC1)
  have c5 := (F_ua_value.keep KC1 nin0)
  have c6 := (F_ua_coder.keep KC1 nin0)
  have c7 := (V_ub.keep KC1 nin0)
  obtain ⟨cq8, qa8, qc8⟩ := Exa.cell c4
  obtain ⟨_, _, ⟨T8, L8, k8, n8⟩, -, X8, ⟨Lc8, hQ8, l8, y8, z8⟩, st8⟩ := X3.privateBack hx (y := (⟨"java/lang/AbstractStringBuilder", "ensureCapacityInternal", "(I)V"⟩ : MethodName)) hown (mvT hZ (own_hw 86 hw rfl)) (mvT hZ (own_hw 87 hw rfl)) (mvT hZ (own_selpriv2 (y := (⟨"java/lang/AbstractStringBuilder", "ensureCapacityInternal", "(I)V"⟩ : MethodName)) (own_hw 89 hw rfl) (own_hw 88 hw rfl) (own_hw 87 hw rfl) (by decide))) (Cond.privateMethod_at (mvP hZ (own_hw 88 hw rfl) (args := #[]))) (mvT hZ (own_hw 90 hw rfl)) (by decide) (backOf (W := 0) (rmEns4_1 l Z a0 hw [] a_INPUT_BIT a_OUTPUT_BIT a_OUTPUT_WORD a_INPUT_WORD a_MEMORY_WORD p_INPUT_BIT v_INPUT_BIT p_OUTPUT_WORD v_OUTPUT_WORD p_OUTPUT_BIT v_OUTPUT_BIT p_MEMORY_WORD v_MEMORY_WORD p_INPUT_WORD v_INPUT_WORD a_DigitOnes k_INPUT_BIT k_OUTPUT_WORD k_OUTPUT_BIT k_MEMORY_WORD k_INPUT_WORD ucs uff ua ub kb ux0 ux1 ux2 ux3 h1 n0 (own_old_le O1) O1 HW c4 c5 c6 c2 c7) hZ (own_hw 90 hw rfl) (own_hw 47 hw rfl) (by decide) (by decide)) (g := (mkF m 21 #[VR ua, VR uc, VI 1] [(.int 5), (.ref ua)])) rfl (by rw [hml]; rfl) (Steps.refl _) (a := ua) (by rw [e3]; exact qa8) qc8 (argsL := [(.int 5)]) (rest := []) (lenOf pd_10__I_V rfl) rfl (by show 2 * 0 + _ ≤ _; exact Nat.le_of_eq rfl) (hb hby d10_21) (fun _ _ => ⟨rfl, e3, (by decide : 0 + 0 ≤ _), (by decide : 0 + 0 ≤ _)⟩)
  dsimp only [Pt.U, Pt.locs, Pt.cells, Pt.slots] at X8 l8 y8 z8 st8 hQ8
  subst l8 y8 z8
  obtain ⟨rfl, NC8, KC8⟩ := hQ8
  refine own_by (B := T8.setTop (mkF m 24 #[VR ua, VR uc, VI 1] [])) (fun _ k => st8.trans k) ?_
  obtain ⟨h8, e8⟩ : ∃ z, T8.heap = z := ⟨_, rfl⟩
  rw [e8] at KC8
  have sz8 := KC8.1
  have O8 := O1.keep KC8 all0
  have K8 := K1.trans KC8 all0
  have N8 := Fr.app N1 NC8
  refine own_by (B := T8.setTop (mkF m 25 #[VR ua, VR uc, VI 1] [(.ref ua)])) (fun _ k => XS.aloadN X8.here hx rfl (hb hby d10_24) rfl rfl  k) ?_
  refine own_by (B := T8.setTop (mkF m 26 #[VR ua, VR uc, VI 1] [(.ref ua), (.ref ua)])) (fun _ k => XS.aloadN X8.here hx rfl (hb hby d10_25) rfl rfl  k) ?_
  have c9 := (c2.keep KC8 nin0)
  obtain ⟨T10, X10, e10, st10⟩ := getF X8 hx hZ hown (host := "") (Or.inl (own_hw 84 hw rfl)) Via.refl e8 c9 (g := (mkF m 26 #[VR ua, VR uc, VI 1] [(.ref ua), (.ref ua)])) rfl rfl (hb hby d10_26)
  refine own_by (B := T10.setTop (mkF m 29 #[VR ua, VR uc, VI 1] [(.int 4), (.ref ua)])) st10 ?_
  refine own_by (B := T10.setTop (mkF m 30 #[VR ua, VR uc, VI 1] [(.ref uc), (.int 4), (.ref ua)])) (fun _ k => XS.aloadN X10.here hx rfl (hb hby d10_29) rfl rfl  k) ?_
  have c11 := (c4.keep KC8)
  have c12 := (c5.keep KC8 nin0)
  have c13 := (c6.keep KC8 nin0)
  have c14 := (c7.keep KC8 nin0)
  have c15 := ((E_uc.keep KC1).keep KC8)
  have c16 := ((F_uc_value.keep KC1 nin0).keep KC8 nin0)
  have c17 := ((F_uc_coder.keep KC1 nin0).keep KC8 nin0)
  have c18 := ((V_ud.keep KC1 nin0).keep KC8 nin0)
  obtain ⟨cq19, qa19, qc19⟩ := Exa.cell c11
  obtain ⟨_, _, ⟨T19, L19, k19, n19⟩, -, X19, ⟨Lc19, hQ19, l19, y19, z19⟩, st19⟩ := X10.privateBack hx (y := (⟨"java/lang/AbstractStringBuilder", "putStringAt", "(ILjava/lang/String;)V"⟩ : MethodName)) hown (mvT hZ (own_hw 91 hw rfl)) (mvT hZ (own_hw 92 hw rfl)) (mvT hZ (own_selpriv2 (y := (⟨"java/lang/AbstractStringBuilder", "putStringAt", "(ILjava/lang/String;)V"⟩ : MethodName)) (own_hw 94 hw rfl) (own_hw 93 hw rfl) (own_hw 92 hw rfl) (by decide))) (Cond.privateMethod_at (mvP hZ (own_hw 93 hw rfl) (args := #[]))) (mvT hZ (own_hw 95 hw rfl)) (by decide) (backOf (W := 0) (rmPut4_1 l Z a0 hw [] a_INPUT_BIT a_OUTPUT_BIT a_OUTPUT_WORD a_INPUT_WORD a_MEMORY_WORD p_INPUT_BIT v_INPUT_BIT p_OUTPUT_WORD v_OUTPUT_WORD p_OUTPUT_BIT v_OUTPUT_BIT p_MEMORY_WORD v_MEMORY_WORD p_INPUT_WORD v_INPUT_WORD a_DigitOnes k_INPUT_BIT k_OUTPUT_WORD k_OUTPUT_BIT k_MEMORY_WORD k_INPUT_WORD ucs uff ua ub kb uc ud kd ux0 ux1 ux2 ux3 uy0 h8 n0 (own_old_le O8) O8 HW c11 c12 c13 c9 c14 c15 c16 c17 c18 gn_ub) hZ (own_hw 95 hw rfl) (own_hw 47 hw rfl) (by decide) (by decide)) (g := (mkF m 30 #[VR ua, VR uc, VI 1] [(.ref uc), (.int 4), (.ref ua)])) rfl (by rw [hml]; rfl) (Steps.refl _) (a := ua) (by rw [e10]; exact qa19) qc19 (argsL := [(.int 4), (.ref uc)]) (rest := []) (lenOf pd_10__ILjava_lang_String__V rfl) rfl (by show 2 * 0 + _ ≤ _; exact Nat.le_of_eq rfl) (hb hby d10_30) (fun _ _ => ⟨rfl, e10, (by decide : 0 + 0 ≤ _), (by decide : 0 + 0 ≤ _)⟩)
  dsimp only [Pt.U, Pt.locs, Pt.cells, Pt.slots] at X19 l19 y19 z19 st19 hQ19
  subst l19 y19 z19
  obtain ⟨rfl, NC19, KC19, Q0_N19⟩ := hQ19
  refine own_by (B := T19.setTop (mkF m 33 #[VR ua, VR uc, VI 1] [])) (fun _ k => st19.trans k) ?_
  obtain ⟨h19, e19⟩ : ∃ z, T19.heap = z := ⟨_, rfl⟩
  rw [e19] at KC19 Q0_N19
  have sz19 := KC19.1
  have O19 := O8.keep KC19 (allS gn_ub all0)
  have K19 := K8.trans KC19 (allS (Or.inl (List.mem_of_getElem? (i := 1) rfl)) all0)
  have N19 := Fr.app N8 NC19
  refine own_by (B := T19.setTop (mkF m 34 #[VR ua, VR uc, VI 1] [(.ref ua)])) (fun _ k => XS.aloadN X19.here hx rfl (hb hby d10_33) rfl rfl  k) ?_
  refine own_by (B := T19.setTop (mkF m 35 #[VR ua, VR uc, VI 1] [(.ref ua), (.ref ua)])) (fun _ k => XS.dup X19.here hx rfl (hb hby d10_34) rfl rfl k) ?_
  have c20 := (c9.keep KC19 (ninS (own_ne (by omega)) nin0))
  obtain ⟨T21, X21, e21, st21⟩ := getF X19 hx hZ hown (host := "") (Or.inl (own_hw 84 hw rfl)) Via.refl e19 c20 (g := (mkF m 35 #[VR ua, VR uc, VI 1] [(.ref ua), (.ref ua)])) rfl rfl (hb hby d10_35)
  refine own_by (B := T21.setTop (mkF m 38 #[VR ua, VR uc, VI 1] [(.int 4), (.ref ua)])) st21 ?_
  refine own_by (B := T21.setTop (mkF m 39 #[VR ua, VR uc, VI 1] [(.int 1), (.int 4), (.ref ua)])) (fun _ k => XS.iloadN X21.here hx rfl (hb hby d10_38) rfl  k) ?_
  refine own_by (B := T21.setTop (mkF m 40 #[VR ua, VR uc, VI 1] [(.int 5), (.ref ua)])) (fun _ k => XS.iadd X21.here hx rfl (hb hby d10_39) rfl k) ?_
  have c23 := (c11.keep KC19)
  obtain ⟨T22, h22, X22, e22, W22, st22⟩ := putF X21 hx hZ hown (host := "") (Or.inl (own_hw 84 hw rfl)) Via.refl e21 c20 c23 (Or.inl (own_hw 85 hw rfl)) (own_hw 38 hw rfl) (ty := .int) (by decide) rfl rfl (g := (mkF m 40 #[VR ua, VR uc, VI 1] [(.int 5), (.ref ua)])) rfl rfl (hb hby d10_40)
  have sz22 := W22.size
  have O22 := O19.wr W22 gn_ua
  have K22 := K19.wr W22 (Or.inl (List.mem_of_getElem? (i := 0) rfl))
  have N22 := Fr.snoc X22 N19 gn_ua
  have F22 := c20.same W22
  refine own_by (B := T22.setTop (mkF m 43 #[VR ua, VR uc, VI 1] [])) st22 ?_
  refine own_by (B := T22.setTop (mkF m 44 #[VR ua, VR uc, VI 1] [(.ref ua)])) (fun _ k => XS.aloadN X22.here hx rfl (hb hby d10_43) rfl rfl  k) ?_
  have c24 := (c23.wr W22)
  have c25 := ((c12.keep KC19 (ninS (own_ne (by omega)) nin0)).other W22 (Or.inr (slot_ne (Or.inl (own_hw 54 hw rfl)) (Or.inl (own_hw 85 hw rfl)) (by decide) (t := (.array .byte)) (t' := .int) (by decide) (by decide))))
  have c26 := ((c13.keep KC19 (ninS (own_ne (by omega)) nin0)).other W22 (Or.inr (slot_ne (Or.inl (own_hw 56 hw rfl)) (Or.inl (own_hw 85 hw rfl)) (by decide) (t := .byte) (t' := .int) (by decide) (by decide))))
  have c27 := (Q0_N19.other W22 (own_ne (by omega)))
  exact own_retA X22 hx hrt rfl rfl hlk (hb hby d10_44) (by decide) (by decide) (by show own_Q_rmAap4_1 Z ua ub kb uc ud kd ux0 ux1 ux2 ux3 uy0 h0 n0 _ T22.heap _; rw [e22]; exact ⟨rfl, N22, K22, c24, c25, c26, F22, c27⟩)

def own_Q_rmAp4_1 (Z : State) (ua : Nat) (ub : Nat) (kb : ClassId) (uc : Nat) (ud : Nat) (kd : ClassId) (ux0 : Int32) (ux1 : Int32) (ux2 : Int32) (ux3 : Int32) (uy0 : Int32) (h0 : Heap) (n0 : Nat) (v : Option Value) (h : Heap) (L : List Loc) : Prop := v = some (.ref ua) ∧ Fr n0 L ∧ Keep h0 h [ua, ub] ∧ Exa Z h ua "java/lang/StringBuilder" ∧ Fld Z h ua "java/lang/AbstractStringBuilder" "value" "[B" (.ref ub) ∧ Fld Z h ua "java/lang/AbstractStringBuilder" "coder" "B" (.int 0) ∧ Fld Z h ua "java/lang/AbstractStringBuilder" "count" "I" (.int 5) ∧ Arv Z h ub kb .byte (16 : Int32) [(.int ux0), (.int ux1), (.int ux2), (.int ux3), (.int uy0), (.int 0), (.int 0), (.int 0), (.int 0), (.int 0), (.int 0), (.int 0), (.int 0), (.int 0), (.int 0), (.int 0)] (.int 0)

theorem pn_rmAp4_1 : plainFor (⟨"java/lang/StringBuilder", "append", "(Ljava/lang/String;)Ljava/lang/StringBuilder;"⟩ : MethodName) = true := by first | exact plainFor_of_name (by first | (simp [plainName, overriddenIn]; done) | decide +kernel) | exact Jvm.Free.JP.mathPlain rfl (by decide +kernel) | decide +kernel
theorem ef_rmAp4_1 (m : MethodId) (x0 : Nat) (x1 : Nat) : entryFrame m #[(.ref x0), (.ref x1)] 2 = mkF m 0 #[VR x0, VR x1] [] := by first | (simp [entryFrame, mkF, argsToLocals, Value.category]; done) | rfl
set_option maxRecDepth 65536 in
set_option maxHeartbeats 40000000 in
theorem rmAp4_1 (l : Launch) (Z : State) (a0 : Array Value) (hw : ∀ d ∈ tables_1, d.before a0 Z = true) (ws : List Jvm.Cond) (a_INPUT_BIT a_OUTPUT_BIT a_OUTPUT_WORD a_INPUT_WORD a_MEMORY_WORD p_INPUT_BIT v_INPUT_BIT p_OUTPUT_WORD v_OUTPUT_WORD p_OUTPUT_BIT v_OUTPUT_BIT p_MEMORY_WORD v_MEMORY_WORD p_INPUT_WORD v_INPUT_WORD a_DigitOnes : Nat) (k_INPUT_BIT : ClassId) (k_OUTPUT_WORD : ClassId) (k_OUTPUT_BIT : ClassId) (k_MEMORY_WORD : ClassId) (k_INPUT_WORD : ClassId) (ucs : Int32) (uff : Value) (ua : Nat) (ub : Nat) (kb : ClassId) (uc : Nat) (ud : Nat) (kd : ClassId) (ux0 : Int32) (ux1 : Int32) (ux2 : Int32) (ux3 : Int32) (uy0 : Int32) (h0 : Heap) (n0 : Nat) (Z0 : n0 ≤ h0.size) (O0 : Old Z n0 h0) (HW : own_W Z Z.heap a_INPUT_BIT a_OUTPUT_BIT a_OUTPUT_WORD a_INPUT_WORD a_MEMORY_WORD p_INPUT_BIT v_INPUT_BIT p_OUTPUT_WORD v_OUTPUT_WORD p_OUTPUT_BIT v_OUTPUT_BIT p_MEMORY_WORD v_MEMORY_WORD p_INPUT_WORD v_INPUT_WORD a_DigitOnes k_INPUT_BIT k_OUTPUT_WORD k_OUTPUT_BIT k_MEMORY_WORD k_INPUT_WORD ucs uff) (E_ua : Exa Z h0 ua "java/lang/StringBuilder") (F_ua_value : Fld Z h0 ua "java/lang/AbstractStringBuilder" "value" "[B" (.ref ub)) (F_ua_coder : Fld Z h0 ua "java/lang/AbstractStringBuilder" "coder" "B" (.int 0)) (F_ua_count : Fld Z h0 ua "java/lang/AbstractStringBuilder" "count" "I" (.int 4)) (V_ub : Arv Z h0 ub kb .byte (16 : Int32) [(.int ux0), (.int ux1), (.int ux2), (.int ux3), (.int 0), (.int 0), (.int 0), (.int 0), (.int 0), (.int 0), (.int 0), (.int 0), (.int 0), (.int 0), (.int 0), (.int 0)] (.int 0)) (E_uc : Exa Z h0 uc "java/lang/String") (F_uc_value : Fld Z h0 uc "java/lang/String" "value" "[B" (.ref ud)) (F_uc_coder : Fld Z h0 uc "java/lang/String" "coder" "B" (.int 0)) (V_ud : Arv Z h0 ud kd .byte (1 : Int32) [(.int uy0)] (.int 0)) (gn_ua : n0 ≤ ua) (gn_ub : n0 ≤ ub)  :
    MetFree l (⟨"java/lang/StringBuilder", "append", "(Ljava/lang/String;)Ljava/lang/StringBuilder;"⟩ : MethodName) (head1 (Jvm.Cond.code (⟨"java/lang/StringBuilder", "append", "(Ljava/lang/String;)Ljava/lang/StringBuilder;"⟩ : MethodName) jdk_67_method_7_code 2 (some (.object "java/lang/StringBuilder")) :: ws) ({ frames := 4, cells := 0, slots := 0, locals := 94 } : Room)) (fun a U => a = #[(.ref ua), (.ref uc)] ∧ Z.Warmed39 U.vm ∧ U.heap = h0) (fun _ _ _ _ _ => True) (fun _ U o U' => ∃ v L, o = .returned v ∧ (own_Q_rmAp4_1 Z ua ub kb uc ud kd ux0 ux1 ux2 ux3 uy0 h0 n0) v U'.heap L ∧ FrameEnd U o U' L 0 0) := by
  refine MetFree.of_bodySF pn_rmAp4_1 hisR ?_
  intro p e s m args below meth c s₁ Bd hml0 hP hK
  obtain ⟨rfl, hZ, hh⟩ := hP
  have hx := Bd.exec
  have hby := Bd.bytes
  have hml : c.maxLocals = 2 := hml0
  have hown : s.vm.findClass "java/lang/StringBuilder" = some m.cls := findClass_of_methodNamed Bd.named
  have hnm := (name_of_methodNamed Bd.named Bd.method).1
  have hrt := Bd.returns
  have hlk := Bd.notSynchronized
  have X0 : Stand p l e ({ frames := 4, cells := 0, slots := 0, locals := 94 } : Room) s m #[(.ref ua), (.ref uc)] below meth c s₁ [] 0 0 := Stand.of_body Bd
  have e0 : s₁.heap = h0 := by rw [← hh, Bd.state]; rfl
  have N0 := Fr.nil n0
  have K0 := Keep.refl h0 [ua, ub]
  have lt_E_ua := own_lt E_ua.lt
  have lt_V_ub := own_lt V_ub.lt
  have lt_E_uc := own_lt E_uc.lt
  have lt_V_ud := own_lt V_ud.lt
  have nl_ua_ub := own_lg (Exa.neArv E_ua V_ub (own_hw 38 hw rfl))
  have nl_ua_ud := own_lg (Exa.neArv E_ua V_ud (own_hw 38 hw rfl))
  have nl_uc_ub := own_lg (Exa.neArv E_uc V_ub (own_hw 134 hw rfl))
  have nl_uc_ud := own_lg (Exa.neArv E_uc V_ud (own_hw 134 hw rfl))
  refine own_done (B := s₁.setTop (mkF m 0 #[VR ua, VR uc] [])) (fun t k => castTop (ef_rmAp4_1 m ua uc) k) ?_
  refine own_by (B := s₁.setTop (mkF m 1 #[VR ua, VR uc] [(.ref ua)])) (fun _ k => XS.aloadN X0.here hx rfl (hb hby d9_0) rfl rfl  k) ?_
  refine own_by (B := s₁.setTop (mkF m 2 #[VR ua, VR uc] [(.ref uc), (.ref ua)])) (fun _ k => XS.aloadN X0.here hx rfl (hb hby d9_1) rfl rfl  k) ?_
  obtain ⟨_, _, ⟨T1, L1, k1, n1⟩, -, X1, ⟨Lc1, hQ1, l1, y1, z1⟩, st1⟩ := superBack X0 hx hZ (y := (⟨"java/lang/AbstractStringBuilder", "append", "(Ljava/lang/String;)Ljava/lang/AbstractStringBuilder;"⟩ : MethodName)) (K := "java/lang/StringBuilder") hown (own_hw 64 hw rfl) (own_sameM (y := (⟨"java/lang/AbstractStringBuilder", "append", "(Ljava/lang/String;)Ljava/lang/AbstractStringBuilder;"⟩ : MethodName)) (w := (⟨"java/lang/AbstractStringBuilder", "isLatin1", "()Z"⟩ : MethodName)) (own_hw 67 hw rfl) (own_hw 127 hw rfl) rfl (by decide)) (own_hw 65 hw rfl) (own_hw 66 hw rfl) (by decide) (backOf (W := 0) (rmAap4_1 l Z a0 hw [] a_INPUT_BIT a_OUTPUT_BIT a_OUTPUT_WORD a_INPUT_WORD a_MEMORY_WORD p_INPUT_BIT v_INPUT_BIT p_OUTPUT_WORD v_OUTPUT_WORD p_OUTPUT_BIT v_OUTPUT_BIT p_MEMORY_WORD v_MEMORY_WORD p_INPUT_WORD v_INPUT_WORD a_DigitOnes k_INPUT_BIT k_OUTPUT_WORD k_OUTPUT_BIT k_MEMORY_WORD k_INPUT_WORD ucs uff ua ub kb uc ud kd ux0 ux1 ux2 ux3 uy0 h0 n0 (own_old_le O0) O0 HW E_ua F_ua_value F_ua_coder F_ua_count V_ub E_uc F_uc_value F_uc_coder V_ud gn_ua gn_ub) hZ (own_hw 68 hw rfl) (own_hw 47 hw rfl) (by decide) (by decide)) e0 (Ins.self E_ua) (g := (mkF m 2 #[VR ua, VR uc] [(.ref uc), (.ref ua)])) rfl (by rw [hml]; rfl) (own_hw 68 hw rfl) (argsL := [(.ref uc)]) (rest := []) (lenOf pd_9__Ljava_lang_String__Ljava_lang_AbstractStringBuilder_ rfl) rfl (by show 2 * 0 + _ ≤ _; exact Nat.le_of_eq rfl) (hb hby d9_2) (fun _ _ => ⟨rfl, e0, (by decide : 0 + 0 ≤ _), (by decide : 0 + 0 ≤ _)⟩)
  dsimp only [Pt.U, Pt.locs, Pt.cells, Pt.slots] at X1 l1 y1 z1 st1 hQ1
  subst l1 y1 z1
  obtain ⟨rfl, NC1, KC1, Q0_N1, Q1_N1, Q2_N1, Q3_N1, Q4_N1⟩ := hQ1
  refine own_by (B := T1.setTop (mkF m 5 #[VR ua, VR uc] [(.ref ua)])) (fun _ k => st1.trans k) ?_
  obtain ⟨h1, e1⟩ : ∃ z, T1.heap = z := ⟨_, rfl⟩
  rw [e1] at KC1 Q0_N1 Q1_N1 Q2_N1 Q3_N1 Q4_N1
  have sz1 := KC1.1
  have O1 := O0.keep KC1 (allS gn_ua (allS gn_ub all0))
  have K1 := K0.trans KC1 (allS (Or.inl (List.mem_of_getElem? (i := 0) rfl)) (allS (Or.inl (List.mem_of_getElem? (i := 1) rfl)) all0))
  have N1 := Fr.app N0 NC1
  refine own_by (B := T1.setTop (mkF m 6 #[VR ua, VR uc] [])) (fun _ k => XT.pop X1.here hx rfl (hb hby d9_5) rfl rfl k) ?_
  refine own_by (B := T1.setTop (mkF m 7 #[VR ua, VR uc] [(.ref ua)])) (fun _ k => XS.aloadN X1.here hx rfl (hb hby d9_6) rfl rfl  k) ?_
  exact own_retA X1 hx hrt rfl rfl hlk (hb hby d9_7) (by decide) (by decide) (by show own_Q_rmAp4_1 Z ua ub kb uc ud kd ux0 ux1 ux2 ux3 uy0 h0 n0 _ T1.heap _; rw [e1]; exact ⟨rfl, N1, K1, Q0_N1, Q1_N1, Q2_N1, Q3_N1, Q4_N1⟩)

def own_Q_rmSize (Z : State)  (h0 : Heap) (n0 : Nat) (v : Option Value) (h : Heap) (L : List Loc) : Prop := v = some (.int 1) ∧ Fr n0 L ∧ Keep h0 h []

theorem d19_0 : decode jdk_33_method_13_code 0 = .ok (.iconst 1, 1) := by decide +kernel
theorem d19_1 : decode jdk_33_method_13_code 1 = .ok (.istore_n 1, 1) := by decide +kernel
theorem d19_2 : decode jdk_33_method_13_code 2 = .ok (.iload_n 0, 1) := by decide +kernel
theorem d19_3 : decode jdk_33_method_13_code 3 = .ok (.ifCond .lt 8, 3) := by decide +kernel
theorem d19_6 : decode jdk_33_method_13_code 6 = .ok (.iconst 0, 1) := by decide +kernel
theorem d19_7 : decode jdk_33_method_13_code 7 = .ok (.istore_n 1, 1) := by decide +kernel
theorem d19_8 : decode jdk_33_method_13_code 8 = .ok (.iload_n 0, 1) := by decide +kernel
theorem d19_9 : decode jdk_33_method_13_code 9 = .ok (.ineg, 1) := by decide +kernel
theorem d19_10 : decode jdk_33_method_13_code 10 = .ok (.istore_n 0, 1) := by decide +kernel
theorem d19_11 : decode jdk_33_method_13_code 11 = .ok (.bipush (-10), 2) := by decide +kernel
theorem d19_13 : decode jdk_33_method_13_code 13 = .ok (.istore_n 2, 1) := by decide +kernel
theorem d19_14 : decode jdk_33_method_13_code 14 = .ok (.iconst 1, 1) := by decide +kernel
theorem d19_15 : decode jdk_33_method_13_code 15 = .ok (.istore_n 3, 1) := by decide +kernel
theorem d19_16 : decode jdk_33_method_13_code 16 = .ok (.iload_n 3, 1) := by decide +kernel
theorem d19_17 : decode jdk_33_method_13_code 17 = .ok (.bipush 10, 2) := by decide +kernel
theorem d19_19 : decode jdk_33_method_13_code 19 = .ok (.if_icmp .ge 23, 3) := by decide +kernel
theorem d19_22 : decode jdk_33_method_13_code 22 = .ok (.iload_n 0, 1) := by decide +kernel
theorem d19_23 : decode jdk_33_method_13_code 23 = .ok (.iload_n 2, 1) := by decide +kernel
theorem d19_24 : decode jdk_33_method_13_code 24 = .ok (.if_icmp .le 7, 3) := by decide +kernel
theorem d19_27 : decode jdk_33_method_13_code 27 = .ok (.iload_n 3, 1) := by decide +kernel
theorem d19_28 : decode jdk_33_method_13_code 28 = .ok (.iload_n 1, 1) := by decide +kernel
theorem d19_29 : decode jdk_33_method_13_code 29 = .ok (.iadd, 1) := by decide +kernel
theorem d19_30 : decode jdk_33_method_13_code 30 = .ok (.ireturn, 1) := by decide +kernel
theorem pn_rmSize : plainFor (⟨"java/lang/Integer", "stringSize", "(I)I"⟩ : MethodName) = true := by first | exact plainFor_of_name (by first | (simp [plainName, overriddenIn]; done) | decide +kernel) | exact Jvm.Free.JP.mathPlain rfl (by decide +kernel) | decide +kernel
theorem ef_rmSize (m : MethodId) (x0 : Int32) : entryFrame m #[(.int x0)] 4 = mkF m 0 #[VI x0, UU, UU, UU] [] := by first | (simp [entryFrame, mkF, argsToLocals, Value.category]; done) | rfl
set_option maxRecDepth 65536 in
set_option maxHeartbeats 40000000 in
theorem rmSize (l : Launch) (Z : State) (a0 : Array Value) (hw : ∀ d ∈ tables_1, d.before a0 Z = true) (ws : List Jvm.Cond) (a_INPUT_BIT a_OUTPUT_BIT a_OUTPUT_WORD a_INPUT_WORD a_MEMORY_WORD p_INPUT_BIT v_INPUT_BIT p_OUTPUT_WORD v_OUTPUT_WORD p_OUTPUT_BIT v_OUTPUT_BIT p_MEMORY_WORD v_MEMORY_WORD p_INPUT_WORD v_INPUT_WORD a_DigitOnes : Nat) (k_INPUT_BIT : ClassId) (k_OUTPUT_WORD : ClassId) (k_OUTPUT_BIT : ClassId) (k_MEMORY_WORD : ClassId) (k_INPUT_WORD : ClassId) (ucs : Int32) (uff : Value)  (h0 : Heap) (n0 : Nat) (Z0 : n0 ≤ h0.size) (O0 : Old Z n0 h0) (HW : own_W Z Z.heap a_INPUT_BIT a_OUTPUT_BIT a_OUTPUT_WORD a_INPUT_WORD a_MEMORY_WORD p_INPUT_BIT v_INPUT_BIT p_OUTPUT_WORD v_OUTPUT_WORD p_OUTPUT_BIT v_OUTPUT_BIT p_MEMORY_WORD v_MEMORY_WORD p_INPUT_WORD v_INPUT_WORD a_DigitOnes k_INPUT_BIT k_OUTPUT_WORD k_OUTPUT_BIT k_MEMORY_WORD k_INPUT_WORD ucs uff)    :
    MetFree l (⟨"java/lang/Integer", "stringSize", "(I)I"⟩ : MethodName) (head1 (Jvm.Cond.code (⟨"java/lang/Integer", "stringSize", "(I)I"⟩ : MethodName) jdk_33_method_13_code 4 (some .int) :: ws) ({ frames := 0, cells := 0, slots := 0, locals := 0 } : Room)) (fun a U => a = #[(.int 0)] ∧ Z.Warmed39 U.vm ∧ U.heap = h0) (fun _ _ _ _ _ => True) (fun _ U o U' => ∃ v L, o = .returned v ∧ (own_Q_rmSize Z  h0 n0) v U'.heap L ∧ FrameEnd U o U' L 0 0) := by
  refine MetFree.of_bodySF pn_rmSize hisR ?_
  intro p e s m args below meth c s₁ Bd hml0 hP hK
  obtain ⟨rfl, hZ, hh⟩ := hP
  have hx := Bd.exec
  have hby := Bd.bytes
  have hml : c.maxLocals = 4 := hml0
  have hown : s.vm.findClass "java/lang/Integer" = some m.cls := findClass_of_methodNamed Bd.named
  have hnm := (name_of_methodNamed Bd.named Bd.method).1
  have hrt := Bd.returns
  have hlk := Bd.notSynchronized
  have X0 : Stand p l e ({ frames := 0, cells := 0, slots := 0, locals := 0 } : Room) s m #[(.int 0)] below meth c s₁ [] 0 0 := Stand.of_body Bd
  have e0 : s₁.heap = h0 := by rw [← hh, Bd.state]; rfl
  have N0 := Fr.nil n0
  have K0 := Keep.refl h0 []
  refine own_done (B := s₁.setTop (mkF m 0 #[VI 0, UU, UU, UU] [])) (fun t k => castTop (ef_rmSize m (0 : Int32)) k) ?_
  refine own_by (B := s₁.setTop (mkF m 1 #[VI 0, UU, UU, UU] [(.int 1)])) (fun _ k => XS.iconst X0.here hx rfl (hb hby d19_0) k) ?_
  refine own_by (B := s₁.setTop (mkF m 2 #[VI 0, VI 1, UU, UU] [])) (fun _ k => XS.istoreN X0.here hx rfl (hb hby d19_1) rfl (l' := #[VI 0, VI 1, UU, UU]) rfl k) ?_
  refine own_by (B := s₁.setTop (mkF m 3 #[VI 0, VI 1, UU, UU] [(.int 0)])) (fun _ k => XS.iloadN X0.here hx rfl (hb hby d19_2) rfl  k) ?_
  refine own_by (B := s₁.setTop (mkF m 6 #[VI 0, VI 1, UU, UU] [])) (fun _ k => XS.ifNo X0.here hx rfl (hb hby d19_3) rfl (XT.i0_lt_f (by decide)) k) ?_
  refine own_by (B := s₁.setTop (mkF m 7 #[VI 0, VI 1, UU, UU] [(.int 0)])) (fun _ k => XS.iconst X0.here hx rfl (hb hby d19_6) k) ?_
  refine own_by (B := s₁.setTop (mkF m 8 #[VI 0, VI 0, UU, UU] [])) (fun _ k => XS.istoreN X0.here hx rfl (hb hby d19_7) rfl (l' := #[VI 0, VI 0, UU, UU]) rfl k) ?_
  refine own_by (B := s₁.setTop (mkF m 9 #[VI 0, VI 0, UU, UU] [(.int 0)])) (fun _ k => XS.iloadN X0.here hx rfl (hb hby d19_8) rfl  k) ?_
  refine own_by (B := s₁.setTop (mkF m 10 #[VI 0, VI 0, UU, UU] [(.int 0)])) (fun _ k => XS.ineg X0.here hx rfl (hb hby d19_9) rfl k) ?_
  refine own_by (B := s₁.setTop (mkF m 11 #[VI 0, VI 0, UU, UU] [])) (fun _ k => XS.istoreN X0.here hx rfl (hb hby d19_10) rfl (l' := #[VI 0, VI 0, UU, UU]) rfl k) ?_
  refine own_by (B := s₁.setTop (mkF m 13 #[VI 0, VI 0, UU, UU] [(.int (-10 : Int32))])) (fun _ k => XS.bipush X0.here hx rfl (hb hby d19_11) k) ?_
  refine own_by (B := s₁.setTop (mkF m 14 #[VI 0, VI 0, VI (-10 : Int32), UU] [])) (fun _ k => XS.istoreN X0.here hx rfl (hb hby d19_13) rfl (l' := #[VI 0, VI 0, VI (-10 : Int32), UU]) rfl k) ?_
  refine own_by (B := s₁.setTop (mkF m 15 #[VI 0, VI 0, VI (-10 : Int32), UU] [(.int 1)])) (fun _ k => XS.iconst X0.here hx rfl (hb hby d19_14) k) ?_
  refine own_by (B := s₁.setTop (mkF m 16 #[VI 0, VI 0, VI (-10 : Int32), VI 1] [])) (fun _ k => XS.istoreN X0.here hx rfl (hb hby d19_15) rfl (l' := #[VI 0, VI 0, VI (-10 : Int32), VI 1]) rfl k) ?_
  refine own_by (B := s₁.setTop (mkF m 17 #[VI 0, VI 0, VI (-10 : Int32), VI 1] [(.int 1)])) (fun _ k => XS.iloadN X0.here hx rfl (hb hby d19_16) rfl  k) ?_
  refine own_by (B := s₁.setTop (mkF m 19 #[VI 0, VI 0, VI (-10 : Int32), VI 1] [(.int 10), (.int 1)])) (fun _ k => XS.bipush X0.here hx rfl (hb hby d19_17) k) ?_
  refine own_by (B := s₁.setTop (mkF m 22 #[VI 0, VI 0, VI (-10 : Int32), VI 1] [])) (fun _ k => XS.icmpNo X0.here hx rfl (hb hby d19_19) rfl (XT.ii_ge_f (by decide)) k) ?_
  refine own_by (B := s₁.setTop (mkF m 23 #[VI 0, VI 0, VI (-10 : Int32), VI 1] [(.int 0)])) (fun _ k => XS.iloadN X0.here hx rfl (hb hby d19_22) rfl  k) ?_
  refine own_by (B := s₁.setTop (mkF m 24 #[VI 0, VI 0, VI (-10 : Int32), VI 1] [(.int (-10 : Int32)), (.int 0)])) (fun _ k => XS.iloadN X0.here hx rfl (hb hby d19_23) rfl  k) ?_
  refine own_by (B := s₁.setTop (mkF m 27 #[VI 0, VI 0, VI (-10 : Int32), VI 1] [])) (fun _ k => XS.icmpNo X0.here hx rfl (hb hby d19_24) rfl (XT.ii_le_f (by decide)) k) ?_
  refine own_by (B := s₁.setTop (mkF m 28 #[VI 0, VI 0, VI (-10 : Int32), VI 1] [(.int 1)])) (fun _ k => XS.iloadN X0.here hx rfl (hb hby d19_27) rfl  k) ?_
  refine own_by (B := s₁.setTop (mkF m 29 #[VI 0, VI 0, VI (-10 : Int32), VI 1] [(.int 0), (.int 1)])) (fun _ k => XS.iloadN X0.here hx rfl (hb hby d19_28) rfl  k) ?_
  refine own_by (B := s₁.setTop (mkF m 30 #[VI 0, VI 0, VI (-10 : Int32), VI 1] [(.int 1)])) (fun _ k => XS.iadd X0.here hx rfl (hb hby d19_29) rfl k) ?_
  exact own_retI X0 hx hrt hlk (hb hby d19_30) (by decide) (by decide) (by show own_Q_rmSize Z  h0 n0 _ s₁.heap _; rw [e0]; exact ⟨rfl, N0, K0⟩)

def own_Q_rmEnsI3 (Z : State) (ua : Nat) (ub : Nat) (kb : ClassId) (ux0 : Int32) (ux1 : Int32) (ux2 : Int32) (h0 : Heap) (n0 : Nat) (v : Option Value) (h : Heap) (L : List Loc) : Prop := v = none ∧ Fr n0 L ∧ Keep h0 h []

theorem pn_rmEnsI3 : plainFor (⟨"java/lang/AbstractStringBuilder", "ensureCapacityInternal", "(I)V"⟩ : MethodName) = true := by first | exact plainFor_of_name (by first | (simp [plainName, overriddenIn]; done) | decide +kernel) | exact Jvm.Free.JP.mathPlain rfl (by decide +kernel) | decide +kernel
theorem ef_rmEnsI3 (m : MethodId) (x0 : Nat) (x1 : Int32) : entryFrame m #[(.ref x0), (.int x1)] 3 = mkF m 0 #[VR x0, VI x1, UU] [] := by first | (simp [entryFrame, mkF, argsToLocals, Value.category]; done) | rfl
set_option maxRecDepth 65536 in
set_option maxHeartbeats 40000000 in
theorem rmEnsI3 (l : Launch) (Z : State) (a0 : Array Value) (hw : ∀ d ∈ tables_1, d.before a0 Z = true) (ws : List Jvm.Cond) (a_INPUT_BIT a_OUTPUT_BIT a_OUTPUT_WORD a_INPUT_WORD a_MEMORY_WORD p_INPUT_BIT v_INPUT_BIT p_OUTPUT_WORD v_OUTPUT_WORD p_OUTPUT_BIT v_OUTPUT_BIT p_MEMORY_WORD v_MEMORY_WORD p_INPUT_WORD v_INPUT_WORD a_DigitOnes : Nat) (k_INPUT_BIT : ClassId) (k_OUTPUT_WORD : ClassId) (k_OUTPUT_BIT : ClassId) (k_MEMORY_WORD : ClassId) (k_INPUT_WORD : ClassId) (ucs : Int32) (uff : Value) (ua : Nat) (ub : Nat) (kb : ClassId) (ux0 : Int32) (ux1 : Int32) (ux2 : Int32) (h0 : Heap) (n0 : Nat) (Z0 : n0 ≤ h0.size) (O0 : Old Z n0 h0) (HW : own_W Z Z.heap a_INPUT_BIT a_OUTPUT_BIT a_OUTPUT_WORD a_INPUT_WORD a_MEMORY_WORD p_INPUT_BIT v_INPUT_BIT p_OUTPUT_WORD v_OUTPUT_WORD p_OUTPUT_BIT v_OUTPUT_BIT p_MEMORY_WORD v_MEMORY_WORD p_INPUT_WORD v_INPUT_WORD a_DigitOnes k_INPUT_BIT k_OUTPUT_WORD k_OUTPUT_BIT k_MEMORY_WORD k_INPUT_WORD ucs uff) (E_ua : Exa Z h0 ua "java/lang/StringBuilder") (F_ua_value : Fld Z h0 ua "java/lang/AbstractStringBuilder" "value" "[B" (.ref ub)) (F_ua_coder : Fld Z h0 ua "java/lang/AbstractStringBuilder" "coder" "B" (.int 0)) (F_ua_count : Fld Z h0 ua "java/lang/AbstractStringBuilder" "count" "I" (.int 3)) (V_ub : Arv Z h0 ub kb .byte (16 : Int32) [(.int ux0), (.int ux1), (.int ux2), (.int 0), (.int 0), (.int 0), (.int 0), (.int 0), (.int 0), (.int 0), (.int 0), (.int 0), (.int 0), (.int 0), (.int 0), (.int 0)] (.int 0))   :
    MetFree l (⟨"java/lang/AbstractStringBuilder", "ensureCapacityInternal", "(I)V"⟩ : MethodName) (head1 (Jvm.Cond.code (⟨"java/lang/AbstractStringBuilder", "ensureCapacityInternal", "(I)V"⟩ : MethodName) jdk_68_method_9_code 3 none :: ws) ({ frames := 0, cells := 0, slots := 0, locals := 0 } : Room)) (fun a U => a = #[(.ref ua), (.int 4)] ∧ Z.Warmed39 U.vm ∧ U.heap = h0) (fun _ _ _ _ _ => True) (fun _ U o U' => ∃ v L, o = .returned v ∧ (own_Q_rmEnsI3 Z ua ub kb ux0 ux1 ux2 h0 n0) v U'.heap L ∧ FrameEnd U o U' L 0 0) := by
  refine MetFree.of_bodySF pn_rmEnsI3 hisR ?_
  intro p e s m args below meth c s₁ Bd hml0 hP hK
  obtain ⟨rfl, hZ, hh⟩ := hP
  have hx := Bd.exec
  have hby := Bd.bytes
  have hml : c.maxLocals = 3 := hml0
  have hown : s.vm.findClass "java/lang/AbstractStringBuilder" = some m.cls := findClass_of_methodNamed Bd.named
  have hnm := (name_of_methodNamed Bd.named Bd.method).1
  have hrt := Bd.returns
  have hlk := Bd.notSynchronized
  have X0 : Stand p l e ({ frames := 0, cells := 0, slots := 0, locals := 0 } : Room) s m #[(.ref ua), (.int 4)] below meth c s₁ [] 0 0 := Stand.of_body Bd
  have e0 : s₁.heap = h0 := by rw [← hh, Bd.state]; rfl
  have N0 := Fr.nil n0
  have K0 := Keep.refl h0 []
  have lt_E_ua := own_lt E_ua.lt
  have lt_V_ub := own_lt V_ub.lt
  have nl_ua_ub := own_lg (Exa.neArv E_ua V_ub (own_hw 38 hw rfl))
  refine own_done (B := s₁.setTop (mkF m 0 #[VR ua, VI 4, UU] [])) (fun t k => castTop (ef_rmEnsI3 m ua (4 : Int32)) k) ?_
  refine own_by (B := s₁.setTop (mkF m 1 #[VR ua, VI 4, UU] [(.ref ua)])) (fun _ k => XS.aloadN X0.here hx rfl (hb hby d13_0) rfl rfl  k) ?_
  obtain ⟨T1, X1, e1, st1⟩ := getF X0 hx hZ hown (host := "") (Or.inl (own_hw 53 hw rfl)) Via.refl e0 F_ua_value (g := (mkF m 1 #[VR ua, VI 4, UU] [(.ref ua)])) rfl rfl (hb hby d13_1)
  refine own_by (B := T1.setTop (mkF m 4 #[VR ua, VI 4, UU] [(.ref ub)])) st1 ?_
  obtain ⟨cl2, Ar2, qq2, Sz2, Nn2, Hh2, Gg2⟩ := id (V_ub)
  refine own_by (B := T1.setTop (mkF m 5 #[VR ua, VI 4, UU] [(.int 16)])) (fun t k => X1.arraylength hx (by rw [e1]; exact Ar2.1) (State.isArrayOf_alike hZ.alike Ar2.2.1) (g := (mkF m 4 #[VR ua, VI 4, UU] [(.ref ub)])) rfl rfl (hb hby d13_4) t (by rw [len_of Sz2 Nn2]; exact k)) ?_
  refine own_by (B := T1.setTop (mkF m 6 #[VR ua, VI 4, UU] [(.ref ua), (.int 16)])) (fun _ k => XS.aloadN X1.here hx rfl (hb hby d13_5) rfl rfl  k) ?_
  obtain ⟨T3, X3, e3, st3⟩ := getF X1 hx hZ hown (host := "") (Or.inl (own_hw 55 hw rfl)) Via.refl e1 F_ua_coder (g := (mkF m 6 #[VR ua, VI 4, UU] [(.ref ua), (.int 16)])) rfl rfl (hb hby d13_6)
  refine own_by (B := T3.setTop (mkF m 9 #[VR ua, VI 4, UU] [(.int 0), (.int 16)])) st3 ?_
  refine own_by (B := T3.setTop (mkF m 10 #[VR ua, VI 4, UU] [(.int 16)])) (fun _ k => XT.ishr X3.here hx rfl (hb hby d13_9) rfl k) ?_
  refine own_by (B := T3.setTop (mkF m 11 #[VR ua, VI 4, VI 16] [])) (fun _ k => XS.istoreN X3.here hx rfl (hb hby d13_10) rfl (l' := #[VR ua, VI 4, VI 16]) rfl k) ?_
  refine own_by (B := T3.setTop (mkF m 12 #[VR ua, VI 4, VI 16] [(.int 4)])) (fun _ k => XS.iloadN X3.here hx rfl (hb hby d13_11) rfl  k) ?_
  refine own_by (B := T3.setTop (mkF m 13 #[VR ua, VI 4, VI 16] [(.int 16), (.int 4)])) (fun _ k => XS.iloadN X3.here hx rfl (hb hby d13_12) rfl  k) ?_
  refine own_by (B := T3.setTop (mkF m 14 #[VR ua, VI 4, VI 16] [(.int (-12 : Int32))])) (fun _ k => XS.isub X3.here hx rfl (hb hby d13_13) rfl k) ?_
  refine own_by (B := T3.setTop (mkF m 38 #[VR ua, VI 4, VI 16] [])) (fun _ k => XS.ifYes X3.here hx rfl (pc0 := 14) (pc' := 38) rfl (hb hby d13_14) rfl (XT.i0_le_t (by decide)) (by decide) (by decide) k) ?_
  exact own_retV X3 hx hrt hlk (hb hby d13_38) (by decide) (by decide) (by show own_Q_rmEnsI3 Z ua ub kb ux0 ux1 ux2 h0 n0 _ T3.heap _; rw [e3]; exact ⟨rfl, N0, K0⟩)

def own_Q_rmLatI3 (Z : State) (ua : Nat) (ub : Nat) (kb : ClassId) (ux0 : Int32) (ux1 : Int32) (ux2 : Int32) (h0 : Heap) (n0 : Nat) (v : Option Value) (h : Heap) (L : List Loc) : Prop := v = some (.int 1) ∧ Fr n0 L ∧ Keep h0 h []

theorem d20_0 : decode jdk_68_method_68_code 0 = .ok (.getstatic 18, 3) := by decide +kernel
theorem d20_3 : decode jdk_68_method_68_code 3 = .ok (.ifCond .eq 14, 3) := by decide +kernel
theorem d20_6 : decode jdk_68_method_68_code 6 = .ok (.aload_n 0, 1) := by decide +kernel
theorem d20_7 : decode jdk_68_method_68_code 7 = .ok (.getfield 22, 3) := by decide +kernel
theorem d20_10 : decode jdk_68_method_68_code 10 = .ok (.ifCond .ne 7, 3) := by decide +kernel
theorem d20_13 : decode jdk_68_method_68_code 13 = .ok (.iconst 1, 1) := by decide +kernel
theorem d20_14 : decode jdk_68_method_68_code 14 = .ok (.goto 4, 3) := by decide +kernel
theorem d20_18 : decode jdk_68_method_68_code 18 = .ok (.ireturn, 1) := by decide +kernel
theorem pn_rmLatI3 : plainFor (⟨"java/lang/AbstractStringBuilder", "isLatin1", "()Z"⟩ : MethodName) = true := by first | exact plainFor_of_name (by first | (simp [plainName, overriddenIn]; done) | decide +kernel) | exact Jvm.Free.JP.mathPlain rfl (by decide +kernel) | decide +kernel
theorem ef_rmLatI3 (m : MethodId) (x0 : Nat) : entryFrame m #[(.ref x0)] 1 = mkF m 0 #[VR x0] [] := by first | (simp [entryFrame, mkF, argsToLocals, Value.category]; done) | rfl
set_option maxRecDepth 65536 in
set_option maxHeartbeats 40000000 in
theorem rmLatI3 (l : Launch) (Z : State) (a0 : Array Value) (hw : ∀ d ∈ tables_1, d.before a0 Z = true) (ws : List Jvm.Cond) (a_INPUT_BIT a_OUTPUT_BIT a_OUTPUT_WORD a_INPUT_WORD a_MEMORY_WORD p_INPUT_BIT v_INPUT_BIT p_OUTPUT_WORD v_OUTPUT_WORD p_OUTPUT_BIT v_OUTPUT_BIT p_MEMORY_WORD v_MEMORY_WORD p_INPUT_WORD v_INPUT_WORD a_DigitOnes : Nat) (k_INPUT_BIT : ClassId) (k_OUTPUT_WORD : ClassId) (k_OUTPUT_BIT : ClassId) (k_MEMORY_WORD : ClassId) (k_INPUT_WORD : ClassId) (ucs : Int32) (uff : Value) (ua : Nat) (ub : Nat) (kb : ClassId) (ux0 : Int32) (ux1 : Int32) (ux2 : Int32) (h0 : Heap) (n0 : Nat) (Z0 : n0 ≤ h0.size) (O0 : Old Z n0 h0) (HW : own_W Z Z.heap a_INPUT_BIT a_OUTPUT_BIT a_OUTPUT_WORD a_INPUT_WORD a_MEMORY_WORD p_INPUT_BIT v_INPUT_BIT p_OUTPUT_WORD v_OUTPUT_WORD p_OUTPUT_BIT v_OUTPUT_BIT p_MEMORY_WORD v_MEMORY_WORD p_INPUT_WORD v_INPUT_WORD a_DigitOnes k_INPUT_BIT k_OUTPUT_WORD k_OUTPUT_BIT k_MEMORY_WORD k_INPUT_WORD ucs uff) (E_ua : Exa Z h0 ua "java/lang/StringBuilder") (F_ua_value : Fld Z h0 ua "java/lang/AbstractStringBuilder" "value" "[B" (.ref ub)) (F_ua_coder : Fld Z h0 ua "java/lang/AbstractStringBuilder" "coder" "B" (.int 0)) (F_ua_count : Fld Z h0 ua "java/lang/AbstractStringBuilder" "count" "I" (.int 3)) (V_ub : Arv Z h0 ub kb .byte (16 : Int32) [(.int ux0), (.int ux1), (.int ux2), (.int 0), (.int 0), (.int 0), (.int 0), (.int 0), (.int 0), (.int 0), (.int 0), (.int 0), (.int 0), (.int 0), (.int 0), (.int 0)] (.int 0))   :
    MetFree l (⟨"java/lang/AbstractStringBuilder", "isLatin1", "()Z"⟩ : MethodName) (head1 (Jvm.Cond.code (⟨"java/lang/AbstractStringBuilder", "isLatin1", "()Z"⟩ : MethodName) jdk_68_method_68_code 1 (some .boolean) :: ws) ({ frames := 0, cells := 0, slots := 0, locals := 0 } : Room)) (fun a U => a = #[(.ref ua)] ∧ Z.Warmed39 U.vm ∧ U.heap = h0) (fun _ _ _ _ _ => True) (fun _ U o U' => ∃ v L, o = .returned v ∧ (own_Q_rmLatI3 Z ua ub kb ux0 ux1 ux2 h0 n0) v U'.heap L ∧ FrameEnd U o U' L 0 0) := by
  refine MetFree.of_bodySF pn_rmLatI3 hisR ?_
  intro p e s m args below meth c s₁ Bd hml0 hP hK
  obtain ⟨rfl, hZ, hh⟩ := hP
  have hx := Bd.exec
  have hby := Bd.bytes
  have hml : c.maxLocals = 1 := hml0
  have hown : s.vm.findClass "java/lang/AbstractStringBuilder" = some m.cls := findClass_of_methodNamed Bd.named
  have hnm := (name_of_methodNamed Bd.named Bd.method).1
  have hrt := Bd.returns
  have hlk := Bd.notSynchronized
  have X0 : Stand p l e ({ frames := 0, cells := 0, slots := 0, locals := 0 } : Room) s m #[(.ref ua)] below meth c s₁ [] 0 0 := Stand.of_body Bd
  have e0 : s₁.heap = h0 := by rw [← hh, Bd.state]; rfl
  have N0 := Fr.nil n0
  have K0 := Keep.refl h0 []
  have HW' := HW
  obtain ⟨-, -, -, -, -, -, -, -, -, -, -, -, -, -, -, -, -, -, -, -, -, -, -, -, -, -, -, -, -, -, -, -, -, -, -, -, -, -, -, -, S_CS, H_CS, -, -, -, -⟩ := HW'
  have lt_E_ua := own_lt E_ua.lt
  have lt_V_ub := own_lt V_ub.lt
  have nl_ua_ub := own_lg (Exa.neArv E_ua V_ub (own_hw 38 hw rfl))
  refine own_done (B := s₁.setTop (mkF m 0 #[VR ua] [])) (fun t k => castTop (ef_rmLatI3 m ua) k) ?_
  obtain ⟨T1, X1, e1, st1⟩ := getS2 X0 hx hZ hown (host := "") (Or.inl (own_hw 50 hw rfl)) Via.refl e0 (S_CS.ext O0.2) (g := (mkF m 0 #[VR ua] [])) rfl (hb hby d20_0)
  refine own_by (B := T1.setTop (mkF m 3 #[VR ua] [(.int ucs)])) st1 ?_
  refine own_by (B := T1.setTop (mkF m 6 #[VR ua] [])) (fun _ k => XS.ifNo X1.here hx rfl (hb hby d20_3) rfl (XT.i0_eq_f H_CS) k) ?_
  refine own_by (B := T1.setTop (mkF m 7 #[VR ua] [(.ref ua)])) (fun _ k => XS.aloadN X1.here hx rfl (hb hby d20_6) rfl rfl  k) ?_
  obtain ⟨T2, X2, e2, st2⟩ := getF X1 hx hZ hown (host := "") (Or.inl (own_hw 55 hw rfl)) Via.refl e1 F_ua_coder (g := (mkF m 7 #[VR ua] [(.ref ua)])) rfl rfl (hb hby d20_7)
  refine own_by (B := T2.setTop (mkF m 10 #[VR ua] [(.int 0)])) st2 ?_
  refine own_by (B := T2.setTop (mkF m 13 #[VR ua] [])) (fun _ k => XS.ifNo X2.here hx rfl (hb hby d20_10) rfl (XT.i0_ne_f (by decide)) k) ?_
  refine own_by (B := T2.setTop (mkF m 14 #[VR ua] [(.int 1)])) (fun _ k => XS.iconst X2.here hx rfl (hb hby d20_13) k) ?_
  refine own_by (B := T2.setTop (mkF m 18 #[VR ua] [(.int 1)])) (fun _ k => XS.goto X2.here hx rfl (pc0 := 14) (pc' := 18) rfl (hb hby d20_14) (by decide) (by decide) k) ?_
  exact own_retZ X2 hx hrt hlk rfl (hb hby d20_18) (by decide) (by decide) (by show own_Q_rmLatI3 Z ua ub kb ux0 ux1 ux2 h0 n0 _ T2.heap _; rw [e2]; exact ⟨rfl, N0, K0⟩)

def own_Q_rmChars3 (Z : State) (ub : Nat) (kb : ClassId) (ux0 : Int32) (ux1 : Int32) (ux2 : Int32) (h0 : Heap) (n0 : Nat) (v : Option Value) (h : Heap) (L : List Loc) : Prop := v = some (.int 3) ∧ Fr n0 L ∧ Keep h0 h [ub] ∧ Arv Z h ub kb .byte (16 : Int32) [(.int ux0), (.int ux1), (.int ux2), (.int (nar .byte (48 : Int32))), (.int 0), (.int 0), (.int 0), (.int 0), (.int 0), (.int 0), (.int 0), (.int 0), (.int 0), (.int 0), (.int 0), (.int 0)] (.int 0)

theorem d21_0 : decode jdk_33_method_12_code 0 = .ok (.iload_n 1, 1) := by decide +kernel
theorem d21_1 : decode jdk_33_method_12_code 1 = .ok (.istore 5, 2) := by decide +kernel
theorem d21_3 : decode jdk_33_method_12_code 3 = .ok (.iload_n 0, 1) := by decide +kernel
theorem d21_4 : decode jdk_33_method_12_code 4 = .ok (.ifCond .ge 7, 3) := by decide +kernel
theorem d21_11 : decode jdk_33_method_12_code 11 = .ok (.iconst 0, 1) := by decide +kernel
theorem d21_12 : decode jdk_33_method_12_code 12 = .ok (.istore 6, 2) := by decide +kernel
theorem d21_14 : decode jdk_33_method_12_code 14 = .ok (.iload 6, 2) := by decide +kernel
theorem d21_16 : decode jdk_33_method_12_code 16 = .ok (.ifCond .ne 6, 3) := by decide +kernel
theorem d21_19 : decode jdk_33_method_12_code 19 = .ok (.iload_n 0, 1) := by decide +kernel
theorem d21_20 : decode jdk_33_method_12_code 20 = .ok (.ineg, 1) := by decide +kernel
theorem d21_21 : decode jdk_33_method_12_code 21 = .ok (.istore_n 0, 1) := by decide +kernel
theorem d21_22 : decode jdk_33_method_12_code 22 = .ok (.iload_n 0, 1) := by decide +kernel
theorem d21_23 : decode jdk_33_method_12_code 23 = .ok (.bipush (-100), 2) := by decide +kernel
theorem d21_25 : decode jdk_33_method_12_code 25 = .ok (.if_icmp .gt 47, 3) := by decide +kernel
theorem d21_72 : decode jdk_33_method_12_code 72 = .ok (.aload_n 2, 1) := by decide +kernel
theorem d21_73 : decode jdk_33_method_12_code 73 = .ok (.iinc 5 (-1), 3) := by decide +kernel
theorem d21_76 : decode jdk_33_method_12_code 76 = .ok (.iload 5, 2) := by decide +kernel
theorem d21_78 : decode jdk_33_method_12_code 78 = .ok (.getstatic 83, 3) := by decide +kernel
theorem d21_81 : decode jdk_33_method_12_code 81 = .ok (.iload_n 0, 1) := by decide +kernel
theorem d21_82 : decode jdk_33_method_12_code 82 = .ok (.ineg, 1) := by decide +kernel
theorem d21_83 : decode jdk_33_method_12_code 83 = .ok (.baload, 1) := by decide +kernel
theorem d21_84 : decode jdk_33_method_12_code 84 = .ok (.bastore, 1) := by decide +kernel
theorem d21_85 : decode jdk_33_method_12_code 85 = .ok (.iload_n 0, 1) := by decide +kernel
theorem d21_86 : decode jdk_33_method_12_code 86 = .ok (.bipush (-9), 2) := by decide +kernel
theorem d21_88 : decode jdk_33_method_12_code 88 = .ok (.if_icmp .ge 16, 3) := by decide +kernel
theorem d21_104 : decode jdk_33_method_12_code 104 = .ok (.iload 6, 2) := by decide +kernel
theorem d21_106 : decode jdk_33_method_12_code 106 = .ok (.ifCond .eq 12, 3) := by decide +kernel
theorem d21_118 : decode jdk_33_method_12_code 118 = .ok (.iload 5, 2) := by decide +kernel
theorem d21_120 : decode jdk_33_method_12_code 120 = .ok (.ireturn, 1) := by decide +kernel
theorem pn_rmChars3 : plainFor (⟨"java/lang/Integer", "getChars", "(II[B)I"⟩ : MethodName) = true := by first | exact plainFor_of_name (by first | (simp [plainName, overriddenIn]; done) | decide +kernel) | exact Jvm.Free.JP.mathPlain rfl (by decide +kernel) | decide +kernel
theorem ef_rmChars3 (m : MethodId) (x0 : Int32) (x1 : Int32) (x2 : Nat) : entryFrame m #[(.int x0), (.int x1), (.ref x2)] 7 = mkF m 0 #[VI x0, VI x1, VR x2, UU, UU, UU, UU] [] := by first | (simp [entryFrame, mkF, argsToLocals, Value.category]; done) | rfl
set_option maxRecDepth 65536 in
set_option maxHeartbeats 40000000 in
theorem rmChars3 (l : Launch) (Z : State) (a0 : Array Value) (hw : ∀ d ∈ tables_1, d.before a0 Z = true) (ws : List Jvm.Cond) (a_INPUT_BIT a_OUTPUT_BIT a_OUTPUT_WORD a_INPUT_WORD a_MEMORY_WORD p_INPUT_BIT v_INPUT_BIT p_OUTPUT_WORD v_OUTPUT_WORD p_OUTPUT_BIT v_OUTPUT_BIT p_MEMORY_WORD v_MEMORY_WORD p_INPUT_WORD v_INPUT_WORD a_DigitOnes : Nat) (k_INPUT_BIT : ClassId) (k_OUTPUT_WORD : ClassId) (k_OUTPUT_BIT : ClassId) (k_MEMORY_WORD : ClassId) (k_INPUT_WORD : ClassId) (ucs : Int32) (uff : Value) (ub : Nat) (kb : ClassId) (ux0 : Int32) (ux1 : Int32) (ux2 : Int32) (h0 : Heap) (n0 : Nat) (Z0 : n0 ≤ h0.size) (O0 : Old Z n0 h0) (HW : own_W Z Z.heap a_INPUT_BIT a_OUTPUT_BIT a_OUTPUT_WORD a_INPUT_WORD a_MEMORY_WORD p_INPUT_BIT v_INPUT_BIT p_OUTPUT_WORD v_OUTPUT_WORD p_OUTPUT_BIT v_OUTPUT_BIT p_MEMORY_WORD v_MEMORY_WORD p_INPUT_WORD v_INPUT_WORD a_DigitOnes k_INPUT_BIT k_OUTPUT_WORD k_OUTPUT_BIT k_MEMORY_WORD k_INPUT_WORD ucs uff) (V_ub : Arv Z h0 ub kb .byte (16 : Int32) [(.int ux0), (.int ux1), (.int ux2), (.int 0), (.int 0), (.int 0), (.int 0), (.int 0), (.int 0), (.int 0), (.int 0), (.int 0), (.int 0), (.int 0), (.int 0), (.int 0)] (.int 0)) (gn_ub : n0 ≤ ub)  :
    MetFree l (⟨"java/lang/Integer", "getChars", "(II[B)I"⟩ : MethodName) (head1 (Jvm.Cond.code (⟨"java/lang/Integer", "getChars", "(II[B)I"⟩ : MethodName) jdk_33_method_12_code 7 (some .int) :: ws) ({ frames := 0, cells := 0, slots := 0, locals := 0 } : Room)) (fun a U => a = #[(.int 0), (.int 4), (.ref ub)] ∧ Z.Warmed39 U.vm ∧ U.heap = h0) (fun _ _ _ _ _ => True) (fun _ U o U' => ∃ v L, o = .returned v ∧ (own_Q_rmChars3 Z ub kb ux0 ux1 ux2 h0 n0) v U'.heap L ∧ FrameEnd U o U' L 0 0) := by
  refine MetFree.of_bodySF pn_rmChars3 hisR ?_
  intro p e s m args below meth c s₁ Bd hml0 hP hK
  obtain ⟨rfl, hZ, hh⟩ := hP
  have hx := Bd.exec
  have hby := Bd.bytes
  have hml : c.maxLocals = 7 := hml0
  have hown : s.vm.findClass "java/lang/Integer" = some m.cls := findClass_of_methodNamed Bd.named
  have hnm := (name_of_methodNamed Bd.named Bd.method).1
  have hrt := Bd.returns
  have hlk := Bd.notSynchronized
  have X0 : Stand p l e ({ frames := 0, cells := 0, slots := 0, locals := 0 } : Room) s m #[(.int 0), (.int 4), (.ref ub)] below meth c s₁ [] 0 0 := Stand.of_body Bd
  have e0 : s₁.heap = h0 := by rw [← hh, Bd.state]; rfl
  have N0 := Fr.nil n0
  have K0 := Keep.refl h0 [ub]
  have HW' := HW
  obtain ⟨-, -, -, -, -, -, -, -, -, -, -, -, -, -, -, -, -, -, -, -, -, -, -, -, -, -, -, -, -, -, -, -, -, -, -, -, -, -, -, -, -, -, -, -, S_DigitOnes, H_DG⟩ := HW'
  have lt_V_ub := own_lt V_ub.lt
  refine own_done (B := s₁.setTop (mkF m 0 #[VI 0, VI 4, VR ub, UU, UU, UU, UU] [])) (fun t k => castTop (ef_rmChars3 m (0 : Int32) (4 : Int32) ub) k) ?_
  refine own_by (B := s₁.setTop (mkF m 1 #[VI 0, VI 4, VR ub, UU, UU, UU, UU] [(.int 4)])) (fun _ k => XS.iloadN X0.here hx rfl (hb hby d21_0) rfl  k) ?_
  refine own_by (B := s₁.setTop (mkF m 3 #[VI 0, VI 4, VR ub, UU, UU, VI 4, UU] [])) (fun _ k => XS.istore X0.here hx rfl (hb hby d21_1) rfl (l' := #[VI 0, VI 4, VR ub, UU, UU, VI 4, UU]) rfl k) ?_
  refine own_by (B := s₁.setTop (mkF m 4 #[VI 0, VI 4, VR ub, UU, UU, VI 4, UU] [(.int 0)])) (fun _ k => XS.iloadN X0.here hx rfl (hb hby d21_3) rfl  k) ?_
  refine own_by (B := s₁.setTop (mkF m 11 #[VI 0, VI 4, VR ub, UU, UU, VI 4, UU] [])) (fun _ k => XS.ifYes X0.here hx rfl (pc0 := 4) (pc' := 11) rfl (hb hby d21_4) rfl (XT.i0_ge_t (by decide)) (by decide) (by decide) k) ?_
  refine own_by (B := s₁.setTop (mkF m 12 #[VI 0, VI 4, VR ub, UU, UU, VI 4, UU] [(.int 0)])) (fun _ k => XS.iconst X0.here hx rfl (hb hby d21_11) k) ?_
  refine own_by (B := s₁.setTop (mkF m 14 #[VI 0, VI 4, VR ub, UU, UU, VI 4, VI 0] [])) (fun _ k => XS.istore X0.here hx rfl (hb hby d21_12) rfl (l' := #[VI 0, VI 4, VR ub, UU, UU, VI 4, VI 0]) rfl k) ?_
  refine own_by (B := s₁.setTop (mkF m 16 #[VI 0, VI 4, VR ub, UU, UU, VI 4, VI 0] [(.int 0)])) (fun _ k => XS.iload X0.here hx rfl (hb hby d21_14) rfl  k) ?_
  refine own_by (B := s₁.setTop (mkF m 19 #[VI 0, VI 4, VR ub, UU, UU, VI 4, VI 0] [])) (fun _ k => XS.ifNo X0.here hx rfl (hb hby d21_16) rfl (XT.i0_ne_f (by decide)) k) ?_
  refine own_by (B := s₁.setTop (mkF m 20 #[VI 0, VI 4, VR ub, UU, UU, VI 4, VI 0] [(.int 0)])) (fun _ k => XS.iloadN X0.here hx rfl (hb hby d21_19) rfl  k) ?_
  refine own_by (B := s₁.setTop (mkF m 21 #[VI 0, VI 4, VR ub, UU, UU, VI 4, VI 0] [(.int 0)])) (fun _ k => XS.ineg X0.here hx rfl (hb hby d21_20) rfl k) ?_
  refine own_by (B := s₁.setTop (mkF m 22 #[VI 0, VI 4, VR ub, UU, UU, VI 4, VI 0] [])) (fun _ k => XS.istoreN X0.here hx rfl (hb hby d21_21) rfl (l' := #[VI 0, VI 4, VR ub, UU, UU, VI 4, VI 0]) rfl k) ?_
  refine own_by (B := s₁.setTop (mkF m 23 #[VI 0, VI 4, VR ub, UU, UU, VI 4, VI 0] [(.int 0)])) (fun _ k => XS.iloadN X0.here hx rfl (hb hby d21_22) rfl  k) ?_
  refine own_by (B := s₁.setTop (mkF m 25 #[VI 0, VI 4, VR ub, UU, UU, VI 4, VI 0] [(.int (-100 : Int32)), (.int 0)])) (fun _ k => XS.bipush X0.here hx rfl (hb hby d21_23) k) ?_
  refine own_by (B := s₁.setTop (mkF m 72 #[VI 0, VI 4, VR ub, UU, UU, VI 4, VI 0] [])) (fun _ k => XS.icmpYes X0.here hx rfl (pc0 := 25) (pc' := 72) rfl (hb hby d21_25) rfl (XT.ii_gt_t (by decide)) (by decide) (by decide) k) ?_
  refine own_by (B := s₁.setTop (mkF m 73 #[VI 0, VI 4, VR ub, UU, UU, VI 4, VI 0] [(.ref ub)])) (fun _ k => XS.aloadN X0.here hx rfl (hb hby d21_72) rfl rfl  k) ?_
  refine own_by (B := s₁.setTop (mkF m 76 #[VI 0, VI 4, VR ub, UU, UU, VI 3, VI 0] [(.ref ub)])) (fun _ k => XS.iinc X0.here hx rfl (hb hby d21_73) rfl (l' := #[VI 0, VI 4, VR ub, UU, UU, VI 3, VI 0]) rfl k) ?_
  refine own_by (B := s₁.setTop (mkF m 78 #[VI 0, VI 4, VR ub, UU, UU, VI 3, VI 0] [(.int 3), (.ref ub)])) (fun _ k => XS.iload X0.here hx rfl (hb hby d21_76) rfl  k) ?_
  obtain ⟨T1, X1, e1, st1⟩ := getS2 X0 hx hZ hown (host := "") (Or.inl (own_hw 132 hw rfl)) Via.refl e0 (S_DigitOnes.ext O0.2) (g := (mkF m 78 #[VI 0, VI 4, VR ub, UU, UU, VI 3, VI 0] [(.int 3), (.ref ub)])) rfl (hb hby d21_78)
  refine own_by (B := T1.setTop (mkF m 81 #[VI 0, VI 4, VR ub, UU, UU, VI 3, VI 0] [(.ref a_DigitOnes), (.int 3), (.ref ub)])) st1 ?_
  refine own_by (B := T1.setTop (mkF m 82 #[VI 0, VI 4, VR ub, UU, UU, VI 3, VI 0] [(.int 0), (.ref a_DigitOnes), (.int 3), (.ref ub)])) (fun _ k => XS.iloadN X1.here hx rfl (hb hby d21_81) rfl  k) ?_
  refine own_by (B := T1.setTop (mkF m 83 #[VI 0, VI 4, VR ub, UU, UU, VI 3, VI 0] [(.int 0), (.ref a_DigitOnes), (.int 3), (.ref ub)])) (fun _ k => XS.ineg X1.here hx rfl (hb hby d21_82) rfl k) ?_
  obtain ⟨cd2, Ad2, sd2, vd2⟩ := H_DG.ext O0.2
  refine own_by (B := T1.setTop (mkF m 84 #[VI 0, VI 4, VR ub, UU, UU, VI 3, VI 0] [(.int 48), (.int 3), (.ref ub)])) (fun t k => X1.baloadBytes hx (j := (0 : Int32)) (v := (.int 48)) (by rw [e1]; exact Ad2.1) (State.isArrayOf_alike hZ.alike Ad2.2.1) Ad2.2.2 (by rw [sd2]; decide) vd2 (g := (mkF m 83 #[VI 0, VI 4, VR ub, UU, UU, VI 3, VI 0] [(.int 0), (.ref a_DigitOnes), (.int 3), (.ref ub)])) rfl rfl (hb hby d21_83) t k) ?_
  obtain ⟨cl3, Ar3, qq3, Sz3, Nn3, Hh3, Gg3⟩ := id (V_ub)
  have hin3 : ¬ ((3 : Int32) < 0 ∨ cl3.slots.size ≤ ((3 : Int32)).toNatClampNeg) := inb_of Sz3 ⟨by decide, by decide⟩
  obtain ⟨T3, h3, X3, e3, W3, st3⟩ := stB X1 hx hZ e1 Ar3 (j := (3 : Int32)) hin3 (g := (mkF m 84 #[VI 0, VI 4, VR ub, UU, UU, VI 3, VI 0] [(.int 48), (.int 3), (.ref ub)])) rfl rfl (hb hby d21_84)
  have sz3 := W3.size
  have O3 := O0.wr W3 gn_ub
  have K3 := K0.wr W3 (Or.inl (List.mem_of_getElem? (i := 0) rfl))
  have N3 := Fr.snoc X3 N0 gn_ub
  have V3 : Arv Z h3 ub kb .byte (16 : Int32) [(.int ux0), (.int ux1), (.int ux2), (.int (nar .byte (48 : Int32))), (.int 0), (.int 0), (.int 0), (.int 0), (.int 0), (.int 0), (.int 0), (.int 0), (.int 0), (.int 0), (.int 0), (.int 0)] (.int 0) := Arv.set Ar3 qq3 Sz3 Nn3 Hh3 Gg3 (fits_nar_byte _) W3 3 rfl (Nat.le_of_ble_eq_true rfl)
  refine own_by (B := T3.setTop (mkF m 85 #[VI 0, VI 4, VR ub, UU, UU, VI 3, VI 0] [])) st3 ?_
  refine own_by (B := T3.setTop (mkF m 86 #[VI 0, VI 4, VR ub, UU, UU, VI 3, VI 0] [(.int 0)])) (fun _ k => XS.iloadN X3.here hx rfl (hb hby d21_85) rfl  k) ?_
  refine own_by (B := T3.setTop (mkF m 88 #[VI 0, VI 4, VR ub, UU, UU, VI 3, VI 0] [(.int (-9 : Int32)), (.int 0)])) (fun _ k => XS.bipush X3.here hx rfl (hb hby d21_86) k) ?_
  refine own_by (B := T3.setTop (mkF m 104 #[VI 0, VI 4, VR ub, UU, UU, VI 3, VI 0] [])) (fun _ k => XS.icmpYes X3.here hx rfl (pc0 := 88) (pc' := 104) rfl (hb hby d21_88) rfl (XT.ii_ge_t (by decide)) (by decide) (by decide) k) ?_
  refine own_by (B := T3.setTop (mkF m 106 #[VI 0, VI 4, VR ub, UU, UU, VI 3, VI 0] [(.int 0)])) (fun _ k => XS.iload X3.here hx rfl (hb hby d21_104) rfl  k) ?_
  refine own_by (B := T3.setTop (mkF m 118 #[VI 0, VI 4, VR ub, UU, UU, VI 3, VI 0] [])) (fun _ k => XS.ifYes X3.here hx rfl (pc0 := 106) (pc' := 118) rfl (hb hby d21_106) rfl (XT.i0_eq_t (by decide)) (by decide) (by decide) k) ?_
  refine own_by (B := T3.setTop (mkF m 120 #[VI 0, VI 4, VR ub, UU, UU, VI 3, VI 0] [(.int 3)])) (fun _ k => XS.iload X3.here hx rfl (hb hby d21_118) rfl  k) ?_
  exact own_retI X3 hx hrt hlk (hb hby d21_120) (by decide) (by decide) (by show own_Q_rmChars3 Z ub kb ux0 ux1 ux2 h0 n0 _ T3.heap _; rw [e3]; exact ⟨rfl, N3, K3, V3⟩)

def own_Q_rmAai3 (Z : State) (ua : Nat) (ub : Nat) (kb : ClassId) (ux0 : Int32) (ux1 : Int32) (ux2 : Int32) (h0 : Heap) (n0 : Nat) (v : Option Value) (h : Heap) (L : List Loc) : Prop := v = some (.ref ua) ∧ Fr n0 L ∧ Keep h0 h [ua, ub] ∧ Exa Z h ua "java/lang/StringBuilder" ∧ Fld Z h ua "java/lang/AbstractStringBuilder" "value" "[B" (.ref ub) ∧ Fld Z h ua "java/lang/AbstractStringBuilder" "coder" "B" (.int 0) ∧ Fld Z h ua "java/lang/AbstractStringBuilder" "count" "I" (.int 4) ∧ Arv Z h ub kb .byte (16 : Int32) [(.int ux0), (.int ux1), (.int ux2), (.int (nar .byte (48 : Int32))), (.int 0), (.int 0), (.int 0), (.int 0), (.int 0), (.int 0), (.int 0), (.int 0), (.int 0), (.int 0), (.int 0), (.int 0)] (.int 0)

theorem d18_0 : decode jdk_68_method_32_code 0 = .ok (.aload_n 0, 1) := by decide +kernel
theorem d18_1 : decode jdk_68_method_32_code 1 = .ok (.getfield 79, 3) := by decide +kernel
theorem d18_4 : decode jdk_68_method_32_code 4 = .ok (.istore_n 2, 1) := by decide +kernel
theorem d18_5 : decode jdk_68_method_32_code 5 = .ok (.iload_n 2, 1) := by decide +kernel
theorem d18_6 : decode jdk_68_method_32_code 6 = .ok (.iload_n 1, 1) := by decide +kernel
theorem d18_7 : decode jdk_68_method_32_code 7 = .ok (.invokestatic 245, 3) := by decide +kernel
theorem d18_10 : decode jdk_68_method_32_code 10 = .ok (.iadd, 1) := by decide +kernel
theorem d18_11 : decode jdk_68_method_32_code 11 = .ok (.istore_n 3, 1) := by decide +kernel
theorem d18_12 : decode jdk_68_method_32_code 12 = .ok (.aload_n 0, 1) := by decide +kernel
theorem d18_13 : decode jdk_68_method_32_code 13 = .ok (.iload_n 3, 1) := by decide +kernel
theorem d18_14 : decode jdk_68_method_32_code 14 = .ok (.invokevirtual 100, 3) := by decide +kernel
theorem d18_17 : decode jdk_68_method_32_code 17 = .ok (.aload_n 0, 1) := by decide +kernel
theorem d18_18 : decode jdk_68_method_32_code 18 = .ok (.invokevirtual 83, 3) := by decide +kernel
theorem d18_21 : decode jdk_68_method_32_code 21 = .ok (.ifCond .eq 16, 3) := by decide +kernel
theorem d18_24 : decode jdk_68_method_32_code 24 = .ok (.iload_n 1, 1) := by decide +kernel
theorem d18_25 : decode jdk_68_method_32_code 25 = .ok (.iload_n 3, 1) := by decide +kernel
theorem d18_26 : decode jdk_68_method_32_code 26 = .ok (.aload_n 0, 1) := by decide +kernel
theorem d18_27 : decode jdk_68_method_32_code 27 = .ok (.getfield 15, 3) := by decide +kernel
theorem d18_30 : decode jdk_68_method_32_code 30 = .ok (.invokestatic 248, 3) := by decide +kernel
theorem d18_33 : decode jdk_68_method_32_code 33 = .ok (.pop, 1) := by decide +kernel
theorem d18_34 : decode jdk_68_method_32_code 34 = .ok (.goto 14, 3) := by decide +kernel
theorem d18_48 : decode jdk_68_method_32_code 48 = .ok (.aload_n 0, 1) := by decide +kernel
theorem d18_49 : decode jdk_68_method_32_code 49 = .ok (.iload_n 3, 1) := by decide +kernel
theorem d18_50 : decode jdk_68_method_32_code 50 = .ok (.putfield 79, 3) := by decide +kernel
theorem d18_53 : decode jdk_68_method_32_code 53 = .ok (.aload_n 0, 1) := by decide +kernel
theorem d18_54 : decode jdk_68_method_32_code 54 = .ok (.areturn, 1) := by decide +kernel
theorem pd_18__I_I : parseMethodDescriptor "(I)I" = some ⟨[.int], some .int⟩ := by decide +kernel
theorem pd_18__I_V : parseMethodDescriptor "(I)V" = some ⟨[.int], none⟩ := by decide +kernel
theorem pd_18___Z : parseMethodDescriptor "()Z" = some ⟨[], some .boolean⟩ := by decide +kernel
theorem pd_18__II_B_I : parseMethodDescriptor "(II[B)I" = some ⟨[.int, .int, (.array .byte)], some .int⟩ := by decide +kernel
theorem pn_rmAai3 : plainFor (⟨"java/lang/AbstractStringBuilder", "append", "(I)Ljava/lang/AbstractStringBuilder;"⟩ : MethodName) = true := by first | exact plainFor_of_name (by first | (simp [plainName, overriddenIn]; done) | decide +kernel) | exact Jvm.Free.JP.mathPlain rfl (by decide +kernel) | decide +kernel
theorem ef_rmAai3 (m : MethodId) (x0 : Nat) (x1 : Int32) : entryFrame m #[(.ref x0), (.int x1)] 4 = mkF m 0 #[VR x0, VI x1, UU, UU] [] := by first | (simp [entryFrame, mkF, argsToLocals, Value.category]; done) | rfl
set_option maxRecDepth 65536 in
set_option maxHeartbeats 40000000 in
theorem rmAai3 (l : Launch) (Z : State) (a0 : Array Value) (hw : ∀ d ∈ tables_1, d.before a0 Z = true) (ws : List Jvm.Cond) (a_INPUT_BIT a_OUTPUT_BIT a_OUTPUT_WORD a_INPUT_WORD a_MEMORY_WORD p_INPUT_BIT v_INPUT_BIT p_OUTPUT_WORD v_OUTPUT_WORD p_OUTPUT_BIT v_OUTPUT_BIT p_MEMORY_WORD v_MEMORY_WORD p_INPUT_WORD v_INPUT_WORD a_DigitOnes : Nat) (k_INPUT_BIT : ClassId) (k_OUTPUT_WORD : ClassId) (k_OUTPUT_BIT : ClassId) (k_MEMORY_WORD : ClassId) (k_INPUT_WORD : ClassId) (ucs : Int32) (uff : Value) (ua : Nat) (ub : Nat) (kb : ClassId) (ux0 : Int32) (ux1 : Int32) (ux2 : Int32) (h0 : Heap) (n0 : Nat) (Z0 : n0 ≤ h0.size) (O0 : Old Z n0 h0) (HW : own_W Z Z.heap a_INPUT_BIT a_OUTPUT_BIT a_OUTPUT_WORD a_INPUT_WORD a_MEMORY_WORD p_INPUT_BIT v_INPUT_BIT p_OUTPUT_WORD v_OUTPUT_WORD p_OUTPUT_BIT v_OUTPUT_BIT p_MEMORY_WORD v_MEMORY_WORD p_INPUT_WORD v_INPUT_WORD a_DigitOnes k_INPUT_BIT k_OUTPUT_WORD k_OUTPUT_BIT k_MEMORY_WORD k_INPUT_WORD ucs uff) (E_ua : Exa Z h0 ua "java/lang/StringBuilder") (F_ua_value : Fld Z h0 ua "java/lang/AbstractStringBuilder" "value" "[B" (.ref ub)) (F_ua_coder : Fld Z h0 ua "java/lang/AbstractStringBuilder" "coder" "B" (.int 0)) (F_ua_count : Fld Z h0 ua "java/lang/AbstractStringBuilder" "count" "I" (.int 3)) (V_ub : Arv Z h0 ub kb .byte (16 : Int32) [(.int ux0), (.int ux1), (.int ux2), (.int 0), (.int 0), (.int 0), (.int 0), (.int 0), (.int 0), (.int 0), (.int 0), (.int 0), (.int 0), (.int 0), (.int 0), (.int 0)] (.int 0)) (gn_ua : n0 ≤ ua) (gn_ub : n0 ≤ ub)  :
    MetFree l (⟨"java/lang/AbstractStringBuilder", "append", "(I)Ljava/lang/AbstractStringBuilder;"⟩ : MethodName) (head1 (Jvm.Cond.code (⟨"java/lang/AbstractStringBuilder", "append", "(I)Ljava/lang/AbstractStringBuilder;"⟩ : MethodName) jdk_68_method_32_code 4 (some (.object "java/lang/AbstractStringBuilder")) :: ws) ({ frames := 1, cells := 0, slots := 0, locals := 18 } : Room)) (fun a U => a = #[(.ref ua), (.int 0)] ∧ Z.Warmed39 U.vm ∧ U.heap = h0) (fun _ _ _ _ _ => True) (fun _ U o U' => ∃ v L, o = .returned v ∧ (own_Q_rmAai3 Z ua ub kb ux0 ux1 ux2 h0 n0) v U'.heap L ∧ FrameEnd U o U' L 0 0) := by
  refine MetFree.of_bodySF pn_rmAai3 hisR ?_
  intro p e s m args below meth c s₁ Bd hml0 hP hK
  obtain ⟨rfl, hZ, hh⟩ := hP
  have hx := Bd.exec
  have hby := Bd.bytes
  have hml : c.maxLocals = 4 := hml0
  have hown : s.vm.findClass "java/lang/AbstractStringBuilder" = some m.cls := findClass_of_methodNamed Bd.named
  have hnm := (name_of_methodNamed Bd.named Bd.method).1
  have hrt := Bd.returns
  have hlk := Bd.notSynchronized
  have X0 : Stand p l e ({ frames := 1, cells := 0, slots := 0, locals := 18 } : Room) s m #[(.ref ua), (.int 0)] below meth c s₁ [] 0 0 := Stand.of_body Bd
  have e0 : s₁.heap = h0 := by rw [← hh, Bd.state]; rfl
  have N0 := Fr.nil n0
  have K0 := Keep.refl h0 [ua, ub]
  have lt_E_ua := own_lt E_ua.lt
  have lt_V_ub := own_lt V_ub.lt
  have nl_ua_ub := own_lg (Exa.neArv E_ua V_ub (own_hw 38 hw rfl))
  refine own_done (B := s₁.setTop (mkF m 0 #[VR ua, VI 0, UU, UU] [])) (fun t k => castTop (ef_rmAai3 m ua (0 : Int32)) k) ?_
  refine own_by (B := s₁.setTop (mkF m 1 #[VR ua, VI 0, UU, UU] [(.ref ua)])) (fun _ k => XS.aloadN X0.here hx rfl (hb hby d18_0) rfl rfl  k) ?_
  obtain ⟨T1, X1, e1, st1⟩ := getF X0 hx hZ hown (host := "") (Or.inl (own_hw 84 hw rfl)) Via.refl e0 F_ua_count (g := (mkF m 1 #[VR ua, VI 0, UU, UU] [(.ref ua)])) rfl rfl (hb hby d18_1)
  refine own_by (B := T1.setTop (mkF m 4 #[VR ua, VI 0, UU, UU] [(.int 3)])) st1 ?_
  refine own_by (B := T1.setTop (mkF m 5 #[VR ua, VI 0, VI 3, UU] [])) (fun _ k => XS.istoreN X1.here hx rfl (hb hby d18_4) rfl (l' := #[VR ua, VI 0, VI 3, UU]) rfl k) ?_
  refine own_by (B := T1.setTop (mkF m 6 #[VR ua, VI 0, VI 3, UU] [(.int 3)])) (fun _ k => XS.iloadN X1.here hx rfl (hb hby d18_5) rfl  k) ?_
  refine own_by (B := T1.setTop (mkF m 7 #[VR ua, VI 0, VI 3, UU] [(.int 0), (.int 3)])) (fun _ k => XS.iloadN X1.here hx rfl (hb hby d18_6) rfl  k) ?_
  obtain ⟨_, _, ⟨T2, L2, k2, n2⟩, -, X2, ⟨Lc2, hQ2, l2, y2, z2⟩, st2⟩ := Jvm.LawKit.callS X1 hx (y := (⟨"java/lang/Integer", "stringSize", "(I)I"⟩ : MethodName)) hown (mvT hZ (own_hw 120 hw rfl)) (mvT hZ (own_hw 121 hw rfl)) (mvT hZ (own_hw 122 hw rfl)) (mvT hZ (own_hw 123 hw rfl)) (by decide) (backOf (W := 1) (rmSize l Z a0 hw [] a_INPUT_BIT a_OUTPUT_BIT a_OUTPUT_WORD a_INPUT_WORD a_MEMORY_WORD p_INPUT_BIT v_INPUT_BIT p_OUTPUT_WORD v_OUTPUT_WORD p_OUTPUT_BIT v_OUTPUT_BIT p_MEMORY_WORD v_MEMORY_WORD p_INPUT_WORD v_INPUT_WORD a_DigitOnes k_INPUT_BIT k_OUTPUT_WORD k_OUTPUT_BIT k_MEMORY_WORD k_INPUT_WORD ucs uff  h0 n0 (own_old_le O0) O0 HW ) hZ (own_hw 123 hw rfl) (own_hw 122 hw rfl) (by decide) (by decide)) (g := (mkF m 7 #[VR ua, VI 0, VI 3, UU] [(.int 0), (.int 3)])) rfl (by rw [hml]; rfl) (argsL := [(.int 0)]) (rest := [(.int 3)]) (lenOf pd_18__I_I rfl) rfl (by show 2 * 0 + _ ≤ _; exact Nat.le_of_eq rfl) (hb hby d18_7) (fun _ _ => ⟨rfl, e1, (by decide : 0 + 0 ≤ _), (by decide : 0 + 0 ≤ _)⟩)
  dsimp only [Pt.U, Pt.locs, Pt.cells, Pt.slots] at X2 l2 y2 z2 st2 hQ2
  subst l2 y2 z2
  obtain ⟨rfl, NC2, KC2⟩ := hQ2
  refine own_by (B := T2.setTop (mkF m 10 #[VR ua, VI 0, VI 3, UU] [(.int 1), (.int 3)])) st2 ?_
  obtain ⟨h2, e2⟩ : ∃ z, T2.heap = z := ⟨_, rfl⟩
  rw [e2] at KC2
  have sz2 := KC2.1
  have O2 := O0.keep KC2 all0
  have K2 := K0.trans KC2 all0
  have N2 := Fr.app N0 NC2
  refine own_by (B := T2.setTop (mkF m 11 #[VR ua, VI 0, VI 3, UU] [(.int 4)])) (fun _ k => XS.iadd X2.here hx rfl (hb hby d18_10) rfl k) ?_
  refine own_by (B := T2.setTop (mkF m 12 #[VR ua, VI 0, VI 3, VI 4] [])) (fun _ k => XS.istoreN X2.here hx rfl (hb hby d18_11) rfl (l' := #[VR ua, VI 0, VI 3, VI 4]) rfl k) ?_
  refine own_by (B := T2.setTop (mkF m 13 #[VR ua, VI 0, VI 3, VI 4] [(.ref ua)])) (fun _ k => XS.aloadN X2.here hx rfl (hb hby d18_12) rfl rfl  k) ?_
  refine own_by (B := T2.setTop (mkF m 14 #[VR ua, VI 0, VI 3, VI 4] [(.int 4), (.ref ua)])) (fun _ k => XS.iloadN X2.here hx rfl (hb hby d18_13) rfl  k) ?_
  have c3 := (E_ua.keep KC2)
  have c4 := (F_ua_value.keep KC2 nin0)
  have c5 := (F_ua_coder.keep KC2 nin0)
  have c6 := (F_ua_count.keep KC2 nin0)
  have c7 := (V_ub.keep KC2 nin0)
  obtain ⟨cq8, qa8, qc8⟩ := Exa.cell c3
  obtain ⟨_, _, ⟨T8, L8, k8, n8⟩, -, X8, ⟨Lc8, hQ8, l8, y8, z8⟩, st8⟩ := X2.privateBack hx (y := (⟨"java/lang/AbstractStringBuilder", "ensureCapacityInternal", "(I)V"⟩ : MethodName)) hown (mvT hZ (own_hw 86 hw rfl)) (mvT hZ (own_hw 87 hw rfl)) (mvT hZ (own_selpriv2 (y := (⟨"java/lang/AbstractStringBuilder", "ensureCapacityInternal", "(I)V"⟩ : MethodName)) (own_hw 89 hw rfl) (own_hw 88 hw rfl) (own_hw 87 hw rfl) (by decide))) (Cond.privateMethod_at (mvP hZ (own_hw 88 hw rfl) (args := #[]))) (mvT hZ (own_hw 90 hw rfl)) (by decide) (backOf (W := 0) (rmEnsI3 l Z a0 hw [] a_INPUT_BIT a_OUTPUT_BIT a_OUTPUT_WORD a_INPUT_WORD a_MEMORY_WORD p_INPUT_BIT v_INPUT_BIT p_OUTPUT_WORD v_OUTPUT_WORD p_OUTPUT_BIT v_OUTPUT_BIT p_MEMORY_WORD v_MEMORY_WORD p_INPUT_WORD v_INPUT_WORD a_DigitOnes k_INPUT_BIT k_OUTPUT_WORD k_OUTPUT_BIT k_MEMORY_WORD k_INPUT_WORD ucs uff ua ub kb ux0 ux1 ux2 h2 n0 (own_old_le O2) O2 HW c3 c4 c5 c6 c7) hZ (own_hw 90 hw rfl) (own_hw 47 hw rfl) (by decide) (by decide)) (g := (mkF m 14 #[VR ua, VI 0, VI 3, VI 4] [(.int 4), (.ref ua)])) rfl (by rw [hml]; rfl) (Steps.refl _) (a := ua) (by rw [e2]; exact qa8) qc8 (argsL := [(.int 4)]) (rest := []) (lenOf pd_18__I_V rfl) rfl (by show 2 * 0 + _ ≤ _; exact Nat.le_of_eq rfl) (hb hby d18_14) (fun _ _ => ⟨rfl, e2, (by decide : 0 + 0 ≤ _), (by decide : 0 + 0 ≤ _)⟩)
  dsimp only [Pt.U, Pt.locs, Pt.cells, Pt.slots] at X8 l8 y8 z8 st8 hQ8
  subst l8 y8 z8
  obtain ⟨rfl, NC8, KC8⟩ := hQ8
  refine own_by (B := T8.setTop (mkF m 17 #[VR ua, VI 0, VI 3, VI 4] [])) (fun _ k => st8.trans k) ?_
  obtain ⟨h8, e8⟩ : ∃ z, T8.heap = z := ⟨_, rfl⟩
  rw [e8] at KC8
  have sz8 := KC8.1
  have O8 := O2.keep KC8 all0
  have K8 := K2.trans KC8 all0
  have N8 := Fr.app N2 NC8
  refine own_by (B := T8.setTop (mkF m 18 #[VR ua, VI 0, VI 3, VI 4] [(.ref ua)])) (fun _ k => XS.aloadN X8.here hx rfl (hb hby d18_17) rfl rfl  k) ?_
  have c9 := (c3.keep KC8)
  have c10 := (c4.keep KC8 nin0)
  have c11 := (c5.keep KC8 nin0)
  have c12 := (c6.keep KC8 nin0)
  have c13 := (c7.keep KC8 nin0)
  obtain ⟨cq14, kq14, qa14, qb14, qc14⟩ := isOf hZ e8 c9
  obtain ⟨_, _, ⟨T14, L14, k14, n14⟩, -, X14, ⟨Lc14, hQ14, l14, y14, z14⟩, st14⟩ := X8.virtualBack hx (y := (⟨"java/lang/AbstractStringBuilder", "isLatin1", "()Z"⟩ : MethodName)) (z := (⟨"java/lang/AbstractStringBuilder", "isLatin1", "()Z"⟩ : MethodName)) hown (mvT hZ (own_hw 124 hw rfl)) (mvT hZ (own_hw 125 hw rfl)) (notFace_of_selects (args := #[]) (mvT hZ (own_hw 127 hw rfl))) (mvT hZ (own_hw 127 hw rfl)) (mvT hZ (own_hw 126 hw rfl)) (by decide) (backOf (W := 0) (rmLatI3 l Z a0 hw [] a_INPUT_BIT a_OUTPUT_BIT a_OUTPUT_WORD a_INPUT_WORD a_MEMORY_WORD p_INPUT_BIT v_INPUT_BIT p_OUTPUT_WORD v_OUTPUT_WORD p_OUTPUT_BIT v_OUTPUT_BIT p_MEMORY_WORD v_MEMORY_WORD p_INPUT_WORD v_INPUT_WORD a_DigitOnes k_INPUT_BIT k_OUTPUT_WORD k_OUTPUT_BIT k_MEMORY_WORD k_INPUT_WORD ucs uff ua ub kb ux0 ux1 ux2 h8 n0 (own_old_le O8) O8 HW c9 c10 c11 c12 c13) hZ (own_hw 128 hw rfl) (own_hw 47 hw rfl) (by decide) (by decide)) qa14 qc14 (g := (mkF m 18 #[VR ua, VI 0, VI 3, VI 4] [(.ref ua)])) rfl (by rw [hml]; rfl) (Steps.refl _) (argsL := []) (rest := []) (lenOf pd_18___Z rfl) rfl (by show 2 * 0 + _ ≤ _; exact Nat.le_of_eq rfl) (hb hby d18_18) (fun _ _ => ⟨rfl, e8, (by decide : 0 + 0 ≤ _), (by decide : 0 + 0 ≤ _)⟩)
  dsimp only [Pt.U, Pt.locs, Pt.cells, Pt.slots] at X14 l14 y14 z14 st14 hQ14
  subst l14 y14 z14
  obtain ⟨rfl, NC14, KC14⟩ := hQ14
  refine own_by (B := T14.setTop (mkF m 21 #[VR ua, VI 0, VI 3, VI 4] [(.int 1)])) (fun _ k => st14.trans k) ?_
  obtain ⟨h14, e14⟩ : ∃ z, T14.heap = z := ⟨_, rfl⟩
  rw [e14] at KC14
  have sz14 := KC14.1
  have O14 := O8.keep KC14 all0
  have K14 := K8.trans KC14 all0
  have N14 := Fr.app N8 NC14
  refine own_by (B := T14.setTop (mkF m 24 #[VR ua, VI 0, VI 3, VI 4] [])) (fun _ k => XS.ifNo X14.here hx rfl (hb hby d18_21) rfl (XT.i0_eq_f (by decide)) k) ?_
  refine own_by (B := T14.setTop (mkF m 25 #[VR ua, VI 0, VI 3, VI 4] [(.int 0)])) (fun _ k => XS.iloadN X14.here hx rfl (hb hby d18_24) rfl  k) ?_
  refine own_by (B := T14.setTop (mkF m 26 #[VR ua, VI 0, VI 3, VI 4] [(.int 4), (.int 0)])) (fun _ k => XS.iloadN X14.here hx rfl (hb hby d18_25) rfl  k) ?_
  refine own_by (B := T14.setTop (mkF m 27 #[VR ua, VI 0, VI 3, VI 4] [(.ref ua), (.int 4), (.int 0)])) (fun _ k => XS.aloadN X14.here hx rfl (hb hby d18_26) rfl rfl  k) ?_
  have c15 := (c10.keep KC14 nin0)
  obtain ⟨T16, X16, e16, st16⟩ := getF X14 hx hZ hown (host := "") (Or.inl (own_hw 53 hw rfl)) Via.refl e14 c15 (g := (mkF m 27 #[VR ua, VI 0, VI 3, VI 4] [(.ref ua), (.int 4), (.int 0)])) rfl rfl (hb hby d18_27)
  refine own_by (B := T16.setTop (mkF m 30 #[VR ua, VI 0, VI 3, VI 4] [(.ref ub), (.int 4), (.int 0)])) st16 ?_
  have c17 := (c13.keep KC14 nin0)
  obtain ⟨_, _, ⟨T18, L18, k18, n18⟩, -, X18, ⟨Lc18, hQ18, l18, y18, z18⟩, st18⟩ := Jvm.LawKit.callS X16 hx (y := (⟨"java/lang/Integer", "getChars", "(II[B)I"⟩ : MethodName)) hown (mvT hZ (own_hw 129 hw rfl)) (mvT hZ (own_hw 130 hw rfl)) (mvT hZ (own_hw 122 hw rfl)) (mvT hZ (own_hw 131 hw rfl)) (by decide) (backOf (W := 0) (rmChars3 l Z a0 hw [] a_INPUT_BIT a_OUTPUT_BIT a_OUTPUT_WORD a_INPUT_WORD a_MEMORY_WORD p_INPUT_BIT v_INPUT_BIT p_OUTPUT_WORD v_OUTPUT_WORD p_OUTPUT_BIT v_OUTPUT_BIT p_MEMORY_WORD v_MEMORY_WORD p_INPUT_WORD v_INPUT_WORD a_DigitOnes k_INPUT_BIT k_OUTPUT_WORD k_OUTPUT_BIT k_MEMORY_WORD k_INPUT_WORD ucs uff ub kb ux0 ux1 ux2 h14 n0 (own_old_le O14) O14 HW c17 gn_ub) hZ (own_hw 131 hw rfl) (own_hw 122 hw rfl) (by decide) (by decide)) (g := (mkF m 30 #[VR ua, VI 0, VI 3, VI 4] [(.ref ub), (.int 4), (.int 0)])) rfl (by rw [hml]; rfl) (argsL := [(.int 0), (.int 4), (.ref ub)]) (rest := []) (lenOf pd_18__II_B_I rfl) rfl (by show 2 * 0 + _ ≤ _; exact Nat.le_of_eq rfl) (hb hby d18_30) (fun _ _ => ⟨rfl, e16, (by decide : 0 + 0 ≤ _), (by decide : 0 + 0 ≤ _)⟩)
  dsimp only [Pt.U, Pt.locs, Pt.cells, Pt.slots] at X18 l18 y18 z18 st18 hQ18
  subst l18 y18 z18
  obtain ⟨rfl, NC18, KC18, Q0_N18⟩ := hQ18
  refine own_by (B := T18.setTop (mkF m 33 #[VR ua, VI 0, VI 3, VI 4] [(.int 3)])) st18 ?_
  obtain ⟨h18, e18⟩ : ∃ z, T18.heap = z := ⟨_, rfl⟩
  rw [e18] at KC18 Q0_N18
  have sz18 := KC18.1
  have O18 := O14.keep KC18 (allS gn_ub all0)
  have K18 := K14.trans KC18 (allS (Or.inl (List.mem_of_getElem? (i := 1) rfl)) all0)
  have N18 := Fr.app N14 NC18
  refine own_by (B := T18.setTop (mkF m 34 #[VR ua, VI 0, VI 3, VI 4] [])) (fun _ k => XT.pop X18.here hx rfl (hb hby d18_33) rfl rfl k) ?_
  refine own_by (B := T18.setTop (mkF m 48 #[VR ua, VI 0, VI 3, VI 4] [])) (fun _ k => XS.goto X18.here hx rfl (pc0 := 34) (pc' := 48) rfl (hb hby d18_34) (by decide) (by decide) k) ?_
  refine own_by (B := T18.setTop (mkF m 49 #[VR ua, VI 0, VI 3, VI 4] [(.ref ua)])) (fun _ k => XS.aloadN X18.here hx rfl (hb hby d18_48) rfl rfl  k) ?_
  refine own_by (B := T18.setTop (mkF m 50 #[VR ua, VI 0, VI 3, VI 4] [(.int 4), (.ref ua)])) (fun _ k => XS.iloadN X18.here hx rfl (hb hby d18_49) rfl  k) ?_
  have c20 := ((c9.keep KC14).keep KC18)
  have c21 := ((c12.keep KC14 nin0).keep KC18 (ninS (own_ne (by omega)) nin0))
  obtain ⟨T19, h19, X19, e19, W19, st19⟩ := putF X18 hx hZ hown (host := "") (Or.inl (own_hw 84 hw rfl)) Via.refl e18 c21 c20 (Or.inl (own_hw 85 hw rfl)) (own_hw 38 hw rfl) (ty := .int) (by decide) rfl rfl (g := (mkF m 50 #[VR ua, VI 0, VI 3, VI 4] [(.int 4), (.ref ua)])) rfl rfl (hb hby d18_50)
  have sz19 := W19.size
  have O19 := O18.wr W19 gn_ua
  have K19 := K18.wr W19 (Or.inl (List.mem_of_getElem? (i := 0) rfl))
  have N19 := Fr.snoc X19 N18 gn_ua
  have F19 := c21.same W19
  refine own_by (B := T19.setTop (mkF m 53 #[VR ua, VI 0, VI 3, VI 4] [])) st19 ?_
  refine own_by (B := T19.setTop (mkF m 54 #[VR ua, VI 0, VI 3, VI 4] [(.ref ua)])) (fun _ k => XS.aloadN X19.here hx rfl (hb hby d18_53) rfl rfl  k) ?_
  have c22 := (c20.wr W19)
  have c23 := ((c15.keep KC18 (ninS (own_ne (by omega)) nin0)).other W19 (Or.inr (slot_ne (Or.inl (own_hw 54 hw rfl)) (Or.inl (own_hw 85 hw rfl)) (by decide) (t := (.array .byte)) (t' := .int) (by decide) (by decide))))
  have c24 := (((c11.keep KC14 nin0).keep KC18 (ninS (own_ne (by omega)) nin0)).other W19 (Or.inr (slot_ne (Or.inl (own_hw 56 hw rfl)) (Or.inl (own_hw 85 hw rfl)) (by decide) (t := .byte) (t' := .int) (by decide) (by decide))))
  have c25 := (Q0_N18.other W19 (own_ne (by omega)))
  exact own_retA X19 hx hrt rfl rfl hlk (hb hby d18_54) (by decide) (by decide) (by show own_Q_rmAai3 Z ua ub kb ux0 ux1 ux2 h0 n0 _ T19.heap _; rw [e19]; exact ⟨rfl, N19, K19, c22, c23, c24, F19, c25⟩)

def own_Q_rmAi3 (Z : State) (ua : Nat) (ub : Nat) (kb : ClassId) (ux0 : Int32) (ux1 : Int32) (ux2 : Int32) (h0 : Heap) (n0 : Nat) (v : Option Value) (h : Heap) (L : List Loc) : Prop := v = some (.ref ua) ∧ Fr n0 L ∧ Keep h0 h [ua, ub] ∧ Exa Z h ua "java/lang/StringBuilder" ∧ Fld Z h ua "java/lang/AbstractStringBuilder" "value" "[B" (.ref ub) ∧ Fld Z h ua "java/lang/AbstractStringBuilder" "coder" "B" (.int 0) ∧ Fld Z h ua "java/lang/AbstractStringBuilder" "count" "I" (.int 4) ∧ Arv Z h ub kb .byte (16 : Int32) [(.int ux0), (.int ux1), (.int ux2), (.int (nar .byte (48 : Int32))), (.int 0), (.int 0), (.int 0), (.int 0), (.int 0), (.int 0), (.int 0), (.int 0), (.int 0), (.int 0), (.int 0), (.int 0)] (.int 0)

theorem d17_0 : decode jdk_67_method_15_code 0 = .ok (.aload_n 0, 1) := by decide +kernel
theorem d17_1 : decode jdk_67_method_15_code 1 = .ok (.iload_n 1, 1) := by decide +kernel
theorem d17_2 : decode jdk_67_method_15_code 2 = .ok (.invokespecial 53, 3) := by decide +kernel
theorem d17_5 : decode jdk_67_method_15_code 5 = .ok (.pop, 1) := by decide +kernel
theorem d17_6 : decode jdk_67_method_15_code 6 = .ok (.aload_n 0, 1) := by decide +kernel
theorem d17_7 : decode jdk_67_method_15_code 7 = .ok (.areturn, 1) := by decide +kernel
theorem pd_17__I_Ljava_lang_AbstractStringBuilder_ : parseMethodDescriptor "(I)Ljava/lang/AbstractStringBuilder;" = some ⟨[.int], some (.object "java/lang/AbstractStringBuilder")⟩ := by decide +kernel
theorem pn_rmAi3 : plainFor (⟨"java/lang/StringBuilder", "append", "(I)Ljava/lang/StringBuilder;"⟩ : MethodName) = true := by first | exact plainFor_of_name (by first | (simp [plainName, overriddenIn]; done) | decide +kernel) | exact Jvm.Free.JP.mathPlain rfl (by decide +kernel) | decide +kernel
theorem ef_rmAi3 (m : MethodId) (x0 : Nat) (x1 : Int32) : entryFrame m #[(.ref x0), (.int x1)] 2 = mkF m 0 #[VR x0, VI x1] [] := by first | (simp [entryFrame, mkF, argsToLocals, Value.category]; done) | rfl
set_option maxRecDepth 65536 in
set_option maxHeartbeats 40000000 in
theorem rmAi3 (l : Launch) (Z : State) (a0 : Array Value) (hw : ∀ d ∈ tables_1, d.before a0 Z = true) (ws : List Jvm.Cond) (a_INPUT_BIT a_OUTPUT_BIT a_OUTPUT_WORD a_INPUT_WORD a_MEMORY_WORD p_INPUT_BIT v_INPUT_BIT p_OUTPUT_WORD v_OUTPUT_WORD p_OUTPUT_BIT v_OUTPUT_BIT p_MEMORY_WORD v_MEMORY_WORD p_INPUT_WORD v_INPUT_WORD a_DigitOnes : Nat) (k_INPUT_BIT : ClassId) (k_OUTPUT_WORD : ClassId) (k_OUTPUT_BIT : ClassId) (k_MEMORY_WORD : ClassId) (k_INPUT_WORD : ClassId) (ucs : Int32) (uff : Value) (ua : Nat) (ub : Nat) (kb : ClassId) (ux0 : Int32) (ux1 : Int32) (ux2 : Int32) (h0 : Heap) (n0 : Nat) (Z0 : n0 ≤ h0.size) (O0 : Old Z n0 h0) (HW : own_W Z Z.heap a_INPUT_BIT a_OUTPUT_BIT a_OUTPUT_WORD a_INPUT_WORD a_MEMORY_WORD p_INPUT_BIT v_INPUT_BIT p_OUTPUT_WORD v_OUTPUT_WORD p_OUTPUT_BIT v_OUTPUT_BIT p_MEMORY_WORD v_MEMORY_WORD p_INPUT_WORD v_INPUT_WORD a_DigitOnes k_INPUT_BIT k_OUTPUT_WORD k_OUTPUT_BIT k_MEMORY_WORD k_INPUT_WORD ucs uff) (E_ua : Exa Z h0 ua "java/lang/StringBuilder") (F_ua_value : Fld Z h0 ua "java/lang/AbstractStringBuilder" "value" "[B" (.ref ub)) (F_ua_coder : Fld Z h0 ua "java/lang/AbstractStringBuilder" "coder" "B" (.int 0)) (F_ua_count : Fld Z h0 ua "java/lang/AbstractStringBuilder" "count" "I" (.int 3)) (V_ub : Arv Z h0 ub kb .byte (16 : Int32) [(.int ux0), (.int ux1), (.int ux2), (.int 0), (.int 0), (.int 0), (.int 0), (.int 0), (.int 0), (.int 0), (.int 0), (.int 0), (.int 0), (.int 0), (.int 0), (.int 0)] (.int 0)) (gn_ua : n0 ≤ ua) (gn_ub : n0 ≤ ub)  :
    MetFree l (⟨"java/lang/StringBuilder", "append", "(I)Ljava/lang/StringBuilder;"⟩ : MethodName) (head1 (Jvm.Cond.code (⟨"java/lang/StringBuilder", "append", "(I)Ljava/lang/StringBuilder;"⟩ : MethodName) jdk_67_method_15_code 2 (some (.object "java/lang/StringBuilder")) :: ws) ({ frames := 2, cells := 0, slots := 0, locals := 33 } : Room)) (fun a U => a = #[(.ref ua), (.int 0)] ∧ Z.Warmed39 U.vm ∧ U.heap = h0) (fun _ _ _ _ _ => True) (fun _ U o U' => ∃ v L, o = .returned v ∧ (own_Q_rmAi3 Z ua ub kb ux0 ux1 ux2 h0 n0) v U'.heap L ∧ FrameEnd U o U' L 0 0) := by
  refine MetFree.of_bodySF pn_rmAi3 hisR ?_
  intro p e s m args below meth c s₁ Bd hml0 hP hK
  obtain ⟨rfl, hZ, hh⟩ := hP
  have hx := Bd.exec
  have hby := Bd.bytes
  have hml : c.maxLocals = 2 := hml0
  have hown : s.vm.findClass "java/lang/StringBuilder" = some m.cls := findClass_of_methodNamed Bd.named
  have hnm := (name_of_methodNamed Bd.named Bd.method).1
  have hrt := Bd.returns
  have hlk := Bd.notSynchronized
  have X0 : Stand p l e ({ frames := 2, cells := 0, slots := 0, locals := 33 } : Room) s m #[(.ref ua), (.int 0)] below meth c s₁ [] 0 0 := Stand.of_body Bd
  have e0 : s₁.heap = h0 := by rw [← hh, Bd.state]; rfl
  have N0 := Fr.nil n0
  have K0 := Keep.refl h0 [ua, ub]
  have lt_E_ua := own_lt E_ua.lt
  have lt_V_ub := own_lt V_ub.lt
  have nl_ua_ub := own_lg (Exa.neArv E_ua V_ub (own_hw 38 hw rfl))
  refine own_done (B := s₁.setTop (mkF m 0 #[VR ua, VI 0] [])) (fun t k => castTop (ef_rmAi3 m ua (0 : Int32)) k) ?_
  refine own_by (B := s₁.setTop (mkF m 1 #[VR ua, VI 0] [(.ref ua)])) (fun _ k => XS.aloadN X0.here hx rfl (hb hby d17_0) rfl rfl  k) ?_
  refine own_by (B := s₁.setTop (mkF m 2 #[VR ua, VI 0] [(.int 0), (.ref ua)])) (fun _ k => XS.iloadN X0.here hx rfl (hb hby d17_1) rfl  k) ?_
  obtain ⟨_, _, ⟨T1, L1, k1, n1⟩, -, X1, ⟨Lc1, hQ1, l1, y1, z1⟩, st1⟩ := superBack X0 hx hZ (y := (⟨"java/lang/AbstractStringBuilder", "append", "(I)Ljava/lang/AbstractStringBuilder;"⟩ : MethodName)) (K := "java/lang/StringBuilder") hown (own_hw 116 hw rfl) (own_sameM (y := (⟨"java/lang/AbstractStringBuilder", "append", "(I)Ljava/lang/AbstractStringBuilder;"⟩ : MethodName)) (w := (⟨"java/lang/AbstractStringBuilder", "isLatin1", "()Z"⟩ : MethodName)) (own_hw 118 hw rfl) (own_hw 127 hw rfl) rfl (by decide)) (own_hw 117 hw rfl) (own_hw 66 hw rfl) (by decide) (backOf (W := 0) (rmAai3 l Z a0 hw [] a_INPUT_BIT a_OUTPUT_BIT a_OUTPUT_WORD a_INPUT_WORD a_MEMORY_WORD p_INPUT_BIT v_INPUT_BIT p_OUTPUT_WORD v_OUTPUT_WORD p_OUTPUT_BIT v_OUTPUT_BIT p_MEMORY_WORD v_MEMORY_WORD p_INPUT_WORD v_INPUT_WORD a_DigitOnes k_INPUT_BIT k_OUTPUT_WORD k_OUTPUT_BIT k_MEMORY_WORD k_INPUT_WORD ucs uff ua ub kb ux0 ux1 ux2 h0 n0 (own_old_le O0) O0 HW E_ua F_ua_value F_ua_coder F_ua_count V_ub gn_ua gn_ub) hZ (own_hw 119 hw rfl) (own_hw 47 hw rfl) (by decide) (by decide)) e0 (Ins.self E_ua) (g := (mkF m 2 #[VR ua, VI 0] [(.int 0), (.ref ua)])) rfl (by rw [hml]; rfl) (own_hw 119 hw rfl) (argsL := [(.int 0)]) (rest := []) (lenOf pd_17__I_Ljava_lang_AbstractStringBuilder_ rfl) rfl (by show 2 * 0 + _ ≤ _; exact Nat.le_of_eq rfl) (hb hby d17_2) (fun _ _ => ⟨rfl, e0, (by decide : 0 + 0 ≤ _), (by decide : 0 + 0 ≤ _)⟩)
  dsimp only [Pt.U, Pt.locs, Pt.cells, Pt.slots] at X1 l1 y1 z1 st1 hQ1
  subst l1 y1 z1
  obtain ⟨rfl, NC1, KC1, Q0_N1, Q1_N1, Q2_N1, Q3_N1, Q4_N1⟩ := hQ1
  refine own_by (B := T1.setTop (mkF m 5 #[VR ua, VI 0] [(.ref ua)])) (fun _ k => st1.trans k) ?_
  obtain ⟨h1, e1⟩ : ∃ z, T1.heap = z := ⟨_, rfl⟩
  rw [e1] at KC1 Q0_N1 Q1_N1 Q2_N1 Q3_N1 Q4_N1
  have sz1 := KC1.1
  have O1 := O0.keep KC1 (allS gn_ua (allS gn_ub all0))
  have K1 := K0.trans KC1 (allS (Or.inl (List.mem_of_getElem? (i := 0) rfl)) (allS (Or.inl (List.mem_of_getElem? (i := 1) rfl)) all0))
  have N1 := Fr.app N0 NC1
  refine own_by (B := T1.setTop (mkF m 6 #[VR ua, VI 0] [])) (fun _ k => XT.pop X1.here hx rfl (hb hby d17_5) rfl rfl k) ?_
  refine own_by (B := T1.setTop (mkF m 7 #[VR ua, VI 0] [(.ref ua)])) (fun _ k => XS.aloadN X1.here hx rfl (hb hby d17_6) rfl rfl  k) ?_
  exact own_retA X1 hx hrt rfl rfl hlk (hb hby d17_7) (by decide) (by decide) (by show own_Q_rmAi3 Z ua ub kb ux0 ux1 ux2 h0 n0 _ T1.heap _; rw [e1]; exact ⟨rfl, N1, K1, Q0_N1, Q1_N1, Q2_N1, Q3_N1, Q4_N1⟩)

def own_Q_rmEnsI5 (Z : State) (ua : Nat) (ub : Nat) (kb : ClassId) (ux0 : Int32) (ux1 : Int32) (ux2 : Int32) (ux3 : Int32) (ux4 : Int32) (h0 : Heap) (n0 : Nat) (v : Option Value) (h : Heap) (L : List Loc) : Prop := v = none ∧ Fr n0 L ∧ Keep h0 h []

theorem pn_rmEnsI5 : plainFor (⟨"java/lang/AbstractStringBuilder", "ensureCapacityInternal", "(I)V"⟩ : MethodName) = true := by first | exact plainFor_of_name (by first | (simp [plainName, overriddenIn]; done) | decide +kernel) | exact Jvm.Free.JP.mathPlain rfl (by decide +kernel) | decide +kernel
theorem ef_rmEnsI5 (m : MethodId) (x0 : Nat) (x1 : Int32) : entryFrame m #[(.ref x0), (.int x1)] 3 = mkF m 0 #[VR x0, VI x1, UU] [] := by first | (simp [entryFrame, mkF, argsToLocals, Value.category]; done) | rfl
set_option maxRecDepth 65536 in
set_option maxHeartbeats 40000000 in
theorem rmEnsI5 (l : Launch) (Z : State) (a0 : Array Value) (hw : ∀ d ∈ tables_1, d.before a0 Z = true) (ws : List Jvm.Cond) (a_INPUT_BIT a_OUTPUT_BIT a_OUTPUT_WORD a_INPUT_WORD a_MEMORY_WORD p_INPUT_BIT v_INPUT_BIT p_OUTPUT_WORD v_OUTPUT_WORD p_OUTPUT_BIT v_OUTPUT_BIT p_MEMORY_WORD v_MEMORY_WORD p_INPUT_WORD v_INPUT_WORD a_DigitOnes : Nat) (k_INPUT_BIT : ClassId) (k_OUTPUT_WORD : ClassId) (k_OUTPUT_BIT : ClassId) (k_MEMORY_WORD : ClassId) (k_INPUT_WORD : ClassId) (ucs : Int32) (uff : Value) (ua : Nat) (ub : Nat) (kb : ClassId) (ux0 : Int32) (ux1 : Int32) (ux2 : Int32) (ux3 : Int32) (ux4 : Int32) (h0 : Heap) (n0 : Nat) (Z0 : n0 ≤ h0.size) (O0 : Old Z n0 h0) (HW : own_W Z Z.heap a_INPUT_BIT a_OUTPUT_BIT a_OUTPUT_WORD a_INPUT_WORD a_MEMORY_WORD p_INPUT_BIT v_INPUT_BIT p_OUTPUT_WORD v_OUTPUT_WORD p_OUTPUT_BIT v_OUTPUT_BIT p_MEMORY_WORD v_MEMORY_WORD p_INPUT_WORD v_INPUT_WORD a_DigitOnes k_INPUT_BIT k_OUTPUT_WORD k_OUTPUT_BIT k_MEMORY_WORD k_INPUT_WORD ucs uff) (E_ua : Exa Z h0 ua "java/lang/StringBuilder") (F_ua_value : Fld Z h0 ua "java/lang/AbstractStringBuilder" "value" "[B" (.ref ub)) (F_ua_coder : Fld Z h0 ua "java/lang/AbstractStringBuilder" "coder" "B" (.int 0)) (F_ua_count : Fld Z h0 ua "java/lang/AbstractStringBuilder" "count" "I" (.int 5)) (V_ub : Arv Z h0 ub kb .byte (16 : Int32) [(.int ux0), (.int ux1), (.int ux2), (.int ux3), (.int ux4), (.int 0), (.int 0), (.int 0), (.int 0), (.int 0), (.int 0), (.int 0), (.int 0), (.int 0), (.int 0), (.int 0)] (.int 0))   :
    MetFree l (⟨"java/lang/AbstractStringBuilder", "ensureCapacityInternal", "(I)V"⟩ : MethodName) (head1 (Jvm.Cond.code (⟨"java/lang/AbstractStringBuilder", "ensureCapacityInternal", "(I)V"⟩ : MethodName) jdk_68_method_9_code 3 none :: ws) ({ frames := 0, cells := 0, slots := 0, locals := 0 } : Room)) (fun a U => a = #[(.ref ua), (.int 6)] ∧ Z.Warmed39 U.vm ∧ U.heap = h0) (fun _ _ _ _ _ => True) (fun _ U o U' => ∃ v L, o = .returned v ∧ (own_Q_rmEnsI5 Z ua ub kb ux0 ux1 ux2 ux3 ux4 h0 n0) v U'.heap L ∧ FrameEnd U o U' L 0 0) := by
  refine MetFree.of_bodySF pn_rmEnsI5 hisR ?_
  intro p e s m args below meth c s₁ Bd hml0 hP hK
  obtain ⟨rfl, hZ, hh⟩ := hP
  have hx := Bd.exec
  have hby := Bd.bytes
  have hml : c.maxLocals = 3 := hml0
  have hown : s.vm.findClass "java/lang/AbstractStringBuilder" = some m.cls := findClass_of_methodNamed Bd.named
  have hnm := (name_of_methodNamed Bd.named Bd.method).1
  have hrt := Bd.returns
  have hlk := Bd.notSynchronized
  have X0 : Stand p l e ({ frames := 0, cells := 0, slots := 0, locals := 0 } : Room) s m #[(.ref ua), (.int 6)] below meth c s₁ [] 0 0 := Stand.of_body Bd
  have e0 : s₁.heap = h0 := by rw [← hh, Bd.state]; rfl
  have N0 := Fr.nil n0
  have K0 := Keep.refl h0 []
  have lt_E_ua := own_lt E_ua.lt
  have lt_V_ub := own_lt V_ub.lt
  have nl_ua_ub := own_lg (Exa.neArv E_ua V_ub (own_hw 38 hw rfl))
  refine own_done (B := s₁.setTop (mkF m 0 #[VR ua, VI 6, UU] [])) (fun t k => castTop (ef_rmEnsI5 m ua (6 : Int32)) k) ?_
  refine own_by (B := s₁.setTop (mkF m 1 #[VR ua, VI 6, UU] [(.ref ua)])) (fun _ k => XS.aloadN X0.here hx rfl (hb hby d13_0) rfl rfl  k) ?_
  obtain ⟨T1, X1, e1, st1⟩ := getF X0 hx hZ hown (host := "") (Or.inl (own_hw 53 hw rfl)) Via.refl e0 F_ua_value (g := (mkF m 1 #[VR ua, VI 6, UU] [(.ref ua)])) rfl rfl (hb hby d13_1)
  refine own_by (B := T1.setTop (mkF m 4 #[VR ua, VI 6, UU] [(.ref ub)])) st1 ?_
  obtain ⟨cl2, Ar2, qq2, Sz2, Nn2, Hh2, Gg2⟩ := id (V_ub)
  refine own_by (B := T1.setTop (mkF m 5 #[VR ua, VI 6, UU] [(.int 16)])) (fun t k => X1.arraylength hx (by rw [e1]; exact Ar2.1) (State.isArrayOf_alike hZ.alike Ar2.2.1) (g := (mkF m 4 #[VR ua, VI 6, UU] [(.ref ub)])) rfl rfl (hb hby d13_4) t (by rw [len_of Sz2 Nn2]; exact k)) ?_
  refine own_by (B := T1.setTop (mkF m 6 #[VR ua, VI 6, UU] [(.ref ua), (.int 16)])) (fun _ k => XS.aloadN X1.here hx rfl (hb hby d13_5) rfl rfl  k) ?_
  obtain ⟨T3, X3, e3, st3⟩ := getF X1 hx hZ hown (host := "") (Or.inl (own_hw 55 hw rfl)) Via.refl e1 F_ua_coder (g := (mkF m 6 #[VR ua, VI 6, UU] [(.ref ua), (.int 16)])) rfl rfl (hb hby d13_6)
  refine own_by (B := T3.setTop (mkF m 9 #[VR ua, VI 6, UU] [(.int 0), (.int 16)])) st3 ?_
  refine own_by (B := T3.setTop (mkF m 10 #[VR ua, VI 6, UU] [(.int 16)])) (fun _ k => XT.ishr X3.here hx rfl (hb hby d13_9) rfl k) ?_
  refine own_by (B := T3.setTop (mkF m 11 #[VR ua, VI 6, VI 16] [])) (fun _ k => XS.istoreN X3.here hx rfl (hb hby d13_10) rfl (l' := #[VR ua, VI 6, VI 16]) rfl k) ?_
  refine own_by (B := T3.setTop (mkF m 12 #[VR ua, VI 6, VI 16] [(.int 6)])) (fun _ k => XS.iloadN X3.here hx rfl (hb hby d13_11) rfl  k) ?_
  refine own_by (B := T3.setTop (mkF m 13 #[VR ua, VI 6, VI 16] [(.int 16), (.int 6)])) (fun _ k => XS.iloadN X3.here hx rfl (hb hby d13_12) rfl  k) ?_
  refine own_by (B := T3.setTop (mkF m 14 #[VR ua, VI 6, VI 16] [(.int (-10 : Int32))])) (fun _ k => XS.isub X3.here hx rfl (hb hby d13_13) rfl k) ?_
  refine own_by (B := T3.setTop (mkF m 38 #[VR ua, VI 6, VI 16] [])) (fun _ k => XS.ifYes X3.here hx rfl (pc0 := 14) (pc' := 38) rfl (hb hby d13_14) rfl (XT.i0_le_t (by decide)) (by decide) (by decide) k) ?_
  exact own_retV X3 hx hrt hlk (hb hby d13_38) (by decide) (by decide) (by show own_Q_rmEnsI5 Z ua ub kb ux0 ux1 ux2 ux3 ux4 h0 n0 _ T3.heap _; rw [e3]; exact ⟨rfl, N0, K0⟩)

def own_Q_rmLatI5 (Z : State) (ua : Nat) (ub : Nat) (kb : ClassId) (ux0 : Int32) (ux1 : Int32) (ux2 : Int32) (ux3 : Int32) (ux4 : Int32) (h0 : Heap) (n0 : Nat) (v : Option Value) (h : Heap) (L : List Loc) : Prop := v = some (.int 1) ∧ Fr n0 L ∧ Keep h0 h []

theorem pn_rmLatI5 : plainFor (⟨"java/lang/AbstractStringBuilder", "isLatin1", "()Z"⟩ : MethodName) = true := by first | exact plainFor_of_name (by first | (simp [plainName, overriddenIn]; done) | decide +kernel) | exact Jvm.Free.JP.mathPlain rfl (by decide +kernel) | decide +kernel
theorem ef_rmLatI5 (m : MethodId) (x0 : Nat) : entryFrame m #[(.ref x0)] 1 = mkF m 0 #[VR x0] [] := by first | (simp [entryFrame, mkF, argsToLocals, Value.category]; done) | rfl
set_option maxRecDepth 65536 in
set_option maxHeartbeats 40000000 in
theorem rmLatI5 (l : Launch) (Z : State) (a0 : Array Value) (hw : ∀ d ∈ tables_1, d.before a0 Z = true) (ws : List Jvm.Cond) (a_INPUT_BIT a_OUTPUT_BIT a_OUTPUT_WORD a_INPUT_WORD a_MEMORY_WORD p_INPUT_BIT v_INPUT_BIT p_OUTPUT_WORD v_OUTPUT_WORD p_OUTPUT_BIT v_OUTPUT_BIT p_MEMORY_WORD v_MEMORY_WORD p_INPUT_WORD v_INPUT_WORD a_DigitOnes : Nat) (k_INPUT_BIT : ClassId) (k_OUTPUT_WORD : ClassId) (k_OUTPUT_BIT : ClassId) (k_MEMORY_WORD : ClassId) (k_INPUT_WORD : ClassId) (ucs : Int32) (uff : Value) (ua : Nat) (ub : Nat) (kb : ClassId) (ux0 : Int32) (ux1 : Int32) (ux2 : Int32) (ux3 : Int32) (ux4 : Int32) (h0 : Heap) (n0 : Nat) (Z0 : n0 ≤ h0.size) (O0 : Old Z n0 h0) (HW : own_W Z Z.heap a_INPUT_BIT a_OUTPUT_BIT a_OUTPUT_WORD a_INPUT_WORD a_MEMORY_WORD p_INPUT_BIT v_INPUT_BIT p_OUTPUT_WORD v_OUTPUT_WORD p_OUTPUT_BIT v_OUTPUT_BIT p_MEMORY_WORD v_MEMORY_WORD p_INPUT_WORD v_INPUT_WORD a_DigitOnes k_INPUT_BIT k_OUTPUT_WORD k_OUTPUT_BIT k_MEMORY_WORD k_INPUT_WORD ucs uff) (E_ua : Exa Z h0 ua "java/lang/StringBuilder") (F_ua_value : Fld Z h0 ua "java/lang/AbstractStringBuilder" "value" "[B" (.ref ub)) (F_ua_coder : Fld Z h0 ua "java/lang/AbstractStringBuilder" "coder" "B" (.int 0)) (F_ua_count : Fld Z h0 ua "java/lang/AbstractStringBuilder" "count" "I" (.int 5)) (V_ub : Arv Z h0 ub kb .byte (16 : Int32) [(.int ux0), (.int ux1), (.int ux2), (.int ux3), (.int ux4), (.int 0), (.int 0), (.int 0), (.int 0), (.int 0), (.int 0), (.int 0), (.int 0), (.int 0), (.int 0), (.int 0)] (.int 0))   :
    MetFree l (⟨"java/lang/AbstractStringBuilder", "isLatin1", "()Z"⟩ : MethodName) (head1 (Jvm.Cond.code (⟨"java/lang/AbstractStringBuilder", "isLatin1", "()Z"⟩ : MethodName) jdk_68_method_68_code 1 (some .boolean) :: ws) ({ frames := 0, cells := 0, slots := 0, locals := 0 } : Room)) (fun a U => a = #[(.ref ua)] ∧ Z.Warmed39 U.vm ∧ U.heap = h0) (fun _ _ _ _ _ => True) (fun _ U o U' => ∃ v L, o = .returned v ∧ (own_Q_rmLatI5 Z ua ub kb ux0 ux1 ux2 ux3 ux4 h0 n0) v U'.heap L ∧ FrameEnd U o U' L 0 0) := by
  refine MetFree.of_bodySF pn_rmLatI5 hisR ?_
  intro p e s m args below meth c s₁ Bd hml0 hP hK
  obtain ⟨rfl, hZ, hh⟩ := hP
  have hx := Bd.exec
  have hby := Bd.bytes
  have hml : c.maxLocals = 1 := hml0
  have hown : s.vm.findClass "java/lang/AbstractStringBuilder" = some m.cls := findClass_of_methodNamed Bd.named
  have hnm := (name_of_methodNamed Bd.named Bd.method).1
  have hrt := Bd.returns
  have hlk := Bd.notSynchronized
  have X0 : Stand p l e ({ frames := 0, cells := 0, slots := 0, locals := 0 } : Room) s m #[(.ref ua)] below meth c s₁ [] 0 0 := Stand.of_body Bd
  have e0 : s₁.heap = h0 := by rw [← hh, Bd.state]; rfl
  have N0 := Fr.nil n0
  have K0 := Keep.refl h0 []
  have HW' := HW
  obtain ⟨-, -, -, -, -, -, -, -, -, -, -, -, -, -, -, -, -, -, -, -, -, -, -, -, -, -, -, -, -, -, -, -, -, -, -, -, -, -, -, -, S_CS, H_CS, -, -, -, -⟩ := HW'
  have lt_E_ua := own_lt E_ua.lt
  have lt_V_ub := own_lt V_ub.lt
  have nl_ua_ub := own_lg (Exa.neArv E_ua V_ub (own_hw 38 hw rfl))
  refine own_done (B := s₁.setTop (mkF m 0 #[VR ua] [])) (fun t k => castTop (ef_rmLatI5 m ua) k) ?_
  obtain ⟨T1, X1, e1, st1⟩ := getS2 X0 hx hZ hown (host := "") (Or.inl (own_hw 50 hw rfl)) Via.refl e0 (S_CS.ext O0.2) (g := (mkF m 0 #[VR ua] [])) rfl (hb hby d20_0)
  refine own_by (B := T1.setTop (mkF m 3 #[VR ua] [(.int ucs)])) st1 ?_
  refine own_by (B := T1.setTop (mkF m 6 #[VR ua] [])) (fun _ k => XS.ifNo X1.here hx rfl (hb hby d20_3) rfl (XT.i0_eq_f H_CS) k) ?_
  refine own_by (B := T1.setTop (mkF m 7 #[VR ua] [(.ref ua)])) (fun _ k => XS.aloadN X1.here hx rfl (hb hby d20_6) rfl rfl  k) ?_
  obtain ⟨T2, X2, e2, st2⟩ := getF X1 hx hZ hown (host := "") (Or.inl (own_hw 55 hw rfl)) Via.refl e1 F_ua_coder (g := (mkF m 7 #[VR ua] [(.ref ua)])) rfl rfl (hb hby d20_7)
  refine own_by (B := T2.setTop (mkF m 10 #[VR ua] [(.int 0)])) st2 ?_
  refine own_by (B := T2.setTop (mkF m 13 #[VR ua] [])) (fun _ k => XS.ifNo X2.here hx rfl (hb hby d20_10) rfl (XT.i0_ne_f (by decide)) k) ?_
  refine own_by (B := T2.setTop (mkF m 14 #[VR ua] [(.int 1)])) (fun _ k => XS.iconst X2.here hx rfl (hb hby d20_13) k) ?_
  refine own_by (B := T2.setTop (mkF m 18 #[VR ua] [(.int 1)])) (fun _ k => XS.goto X2.here hx rfl (pc0 := 14) (pc' := 18) rfl (hb hby d20_14) (by decide) (by decide) k) ?_
  exact own_retZ X2 hx hrt hlk rfl (hb hby d20_18) (by decide) (by decide) (by show own_Q_rmLatI5 Z ua ub kb ux0 ux1 ux2 ux3 ux4 h0 n0 _ T2.heap _; rw [e2]; exact ⟨rfl, N0, K0⟩)

def own_Q_rmChars5 (Z : State) (ub : Nat) (kb : ClassId) (ux0 : Int32) (ux1 : Int32) (ux2 : Int32) (ux3 : Int32) (ux4 : Int32) (h0 : Heap) (n0 : Nat) (v : Option Value) (h : Heap) (L : List Loc) : Prop := v = some (.int 5) ∧ Fr n0 L ∧ Keep h0 h [ub] ∧ Arv Z h ub kb .byte (16 : Int32) [(.int ux0), (.int ux1), (.int ux2), (.int ux3), (.int ux4), (.int (nar .byte (48 : Int32))), (.int 0), (.int 0), (.int 0), (.int 0), (.int 0), (.int 0), (.int 0), (.int 0), (.int 0), (.int 0)] (.int 0)

theorem pn_rmChars5 : plainFor (⟨"java/lang/Integer", "getChars", "(II[B)I"⟩ : MethodName) = true := by first | exact plainFor_of_name (by first | (simp [plainName, overriddenIn]; done) | decide +kernel) | exact Jvm.Free.JP.mathPlain rfl (by decide +kernel) | decide +kernel
theorem ef_rmChars5 (m : MethodId) (x0 : Int32) (x1 : Int32) (x2 : Nat) : entryFrame m #[(.int x0), (.int x1), (.ref x2)] 7 = mkF m 0 #[VI x0, VI x1, VR x2, UU, UU, UU, UU] [] := by first | (simp [entryFrame, mkF, argsToLocals, Value.category]; done) | rfl
set_option maxRecDepth 65536 in
set_option maxHeartbeats 40000000 in
theorem rmChars5 (l : Launch) (Z : State) (a0 : Array Value) (hw : ∀ d ∈ tables_1, d.before a0 Z = true) (ws : List Jvm.Cond) (a_INPUT_BIT a_OUTPUT_BIT a_OUTPUT_WORD a_INPUT_WORD a_MEMORY_WORD p_INPUT_BIT v_INPUT_BIT p_OUTPUT_WORD v_OUTPUT_WORD p_OUTPUT_BIT v_OUTPUT_BIT p_MEMORY_WORD v_MEMORY_WORD p_INPUT_WORD v_INPUT_WORD a_DigitOnes : Nat) (k_INPUT_BIT : ClassId) (k_OUTPUT_WORD : ClassId) (k_OUTPUT_BIT : ClassId) (k_MEMORY_WORD : ClassId) (k_INPUT_WORD : ClassId) (ucs : Int32) (uff : Value) (ub : Nat) (kb : ClassId) (ux0 : Int32) (ux1 : Int32) (ux2 : Int32) (ux3 : Int32) (ux4 : Int32) (h0 : Heap) (n0 : Nat) (Z0 : n0 ≤ h0.size) (O0 : Old Z n0 h0) (HW : own_W Z Z.heap a_INPUT_BIT a_OUTPUT_BIT a_OUTPUT_WORD a_INPUT_WORD a_MEMORY_WORD p_INPUT_BIT v_INPUT_BIT p_OUTPUT_WORD v_OUTPUT_WORD p_OUTPUT_BIT v_OUTPUT_BIT p_MEMORY_WORD v_MEMORY_WORD p_INPUT_WORD v_INPUT_WORD a_DigitOnes k_INPUT_BIT k_OUTPUT_WORD k_OUTPUT_BIT k_MEMORY_WORD k_INPUT_WORD ucs uff) (V_ub : Arv Z h0 ub kb .byte (16 : Int32) [(.int ux0), (.int ux1), (.int ux2), (.int ux3), (.int ux4), (.int 0), (.int 0), (.int 0), (.int 0), (.int 0), (.int 0), (.int 0), (.int 0), (.int 0), (.int 0), (.int 0)] (.int 0)) (gn_ub : n0 ≤ ub)  :
    MetFree l (⟨"java/lang/Integer", "getChars", "(II[B)I"⟩ : MethodName) (head1 (Jvm.Cond.code (⟨"java/lang/Integer", "getChars", "(II[B)I"⟩ : MethodName) jdk_33_method_12_code 7 (some .int) :: ws) ({ frames := 0, cells := 0, slots := 0, locals := 0 } : Room)) (fun a U => a = #[(.int 0), (.int 6), (.ref ub)] ∧ Z.Warmed39 U.vm ∧ U.heap = h0) (fun _ _ _ _ _ => True) (fun _ U o U' => ∃ v L, o = .returned v ∧ (own_Q_rmChars5 Z ub kb ux0 ux1 ux2 ux3 ux4 h0 n0) v U'.heap L ∧ FrameEnd U o U' L 0 0) := by
  refine MetFree.of_bodySF pn_rmChars5 hisR ?_
  intro p e s m args below meth c s₁ Bd hml0 hP hK
  obtain ⟨rfl, hZ, hh⟩ := hP
  have hx := Bd.exec
  have hby := Bd.bytes
  have hml : c.maxLocals = 7 := hml0
  have hown : s.vm.findClass "java/lang/Integer" = some m.cls := findClass_of_methodNamed Bd.named
  have hnm := (name_of_methodNamed Bd.named Bd.method).1
  have hrt := Bd.returns
  have hlk := Bd.notSynchronized
  have X0 : Stand p l e ({ frames := 0, cells := 0, slots := 0, locals := 0 } : Room) s m #[(.int 0), (.int 6), (.ref ub)] below meth c s₁ [] 0 0 := Stand.of_body Bd
  have e0 : s₁.heap = h0 := by rw [← hh, Bd.state]; rfl
  have N0 := Fr.nil n0
  have K0 := Keep.refl h0 [ub]
  have HW' := HW
  obtain ⟨-, -, -, -, -, -, -, -, -, -, -, -, -, -, -, -, -, -, -, -, -, -, -, -, -, -, -, -, -, -, -, -, -, -, -, -, -, -, -, -, -, -, -, -, S_DigitOnes, H_DG⟩ := HW'
  have lt_V_ub := own_lt V_ub.lt
  refine own_done (B := s₁.setTop (mkF m 0 #[VI 0, VI 6, VR ub, UU, UU, UU, UU] [])) (fun t k => castTop (ef_rmChars5 m (0 : Int32) (6 : Int32) ub) k) ?_
  refine own_by (B := s₁.setTop (mkF m 1 #[VI 0, VI 6, VR ub, UU, UU, UU, UU] [(.int 6)])) (fun _ k => XS.iloadN X0.here hx rfl (hb hby d21_0) rfl  k) ?_
  refine own_by (B := s₁.setTop (mkF m 3 #[VI 0, VI 6, VR ub, UU, UU, VI 6, UU] [])) (fun _ k => XS.istore X0.here hx rfl (hb hby d21_1) rfl (l' := #[VI 0, VI 6, VR ub, UU, UU, VI 6, UU]) rfl k) ?_
  refine own_by (B := s₁.setTop (mkF m 4 #[VI 0, VI 6, VR ub, UU, UU, VI 6, UU] [(.int 0)])) (fun _ k => XS.iloadN X0.here hx rfl (hb hby d21_3) rfl  k) ?_
  refine own_by (B := s₁.setTop (mkF m 11 #[VI 0, VI 6, VR ub, UU, UU, VI 6, UU] [])) (fun _ k => XS.ifYes X0.here hx rfl (pc0 := 4) (pc' := 11) rfl (hb hby d21_4) rfl (XT.i0_ge_t (by decide)) (by decide) (by decide) k) ?_
  refine own_by (B := s₁.setTop (mkF m 12 #[VI 0, VI 6, VR ub, UU, UU, VI 6, UU] [(.int 0)])) (fun _ k => XS.iconst X0.here hx rfl (hb hby d21_11) k) ?_
  refine own_by (B := s₁.setTop (mkF m 14 #[VI 0, VI 6, VR ub, UU, UU, VI 6, VI 0] [])) (fun _ k => XS.istore X0.here hx rfl (hb hby d21_12) rfl (l' := #[VI 0, VI 6, VR ub, UU, UU, VI 6, VI 0]) rfl k) ?_
  refine own_by (B := s₁.setTop (mkF m 16 #[VI 0, VI 6, VR ub, UU, UU, VI 6, VI 0] [(.int 0)])) (fun _ k => XS.iload X0.here hx rfl (hb hby d21_14) rfl  k) ?_
  refine own_by (B := s₁.setTop (mkF m 19 #[VI 0, VI 6, VR ub, UU, UU, VI 6, VI 0] [])) (fun _ k => XS.ifNo X0.here hx rfl (hb hby d21_16) rfl (XT.i0_ne_f (by decide)) k) ?_
  refine own_by (B := s₁.setTop (mkF m 20 #[VI 0, VI 6, VR ub, UU, UU, VI 6, VI 0] [(.int 0)])) (fun _ k => XS.iloadN X0.here hx rfl (hb hby d21_19) rfl  k) ?_
  refine own_by (B := s₁.setTop (mkF m 21 #[VI 0, VI 6, VR ub, UU, UU, VI 6, VI 0] [(.int 0)])) (fun _ k => XS.ineg X0.here hx rfl (hb hby d21_20) rfl k) ?_
  refine own_by (B := s₁.setTop (mkF m 22 #[VI 0, VI 6, VR ub, UU, UU, VI 6, VI 0] [])) (fun _ k => XS.istoreN X0.here hx rfl (hb hby d21_21) rfl (l' := #[VI 0, VI 6, VR ub, UU, UU, VI 6, VI 0]) rfl k) ?_
  refine own_by (B := s₁.setTop (mkF m 23 #[VI 0, VI 6, VR ub, UU, UU, VI 6, VI 0] [(.int 0)])) (fun _ k => XS.iloadN X0.here hx rfl (hb hby d21_22) rfl  k) ?_
  refine own_by (B := s₁.setTop (mkF m 25 #[VI 0, VI 6, VR ub, UU, UU, VI 6, VI 0] [(.int (-100 : Int32)), (.int 0)])) (fun _ k => XS.bipush X0.here hx rfl (hb hby d21_23) k) ?_
  refine own_by (B := s₁.setTop (mkF m 72 #[VI 0, VI 6, VR ub, UU, UU, VI 6, VI 0] [])) (fun _ k => XS.icmpYes X0.here hx rfl (pc0 := 25) (pc' := 72) rfl (hb hby d21_25) rfl (XT.ii_gt_t (by decide)) (by decide) (by decide) k) ?_
  refine own_by (B := s₁.setTop (mkF m 73 #[VI 0, VI 6, VR ub, UU, UU, VI 6, VI 0] [(.ref ub)])) (fun _ k => XS.aloadN X0.here hx rfl (hb hby d21_72) rfl rfl  k) ?_
  refine own_by (B := s₁.setTop (mkF m 76 #[VI 0, VI 6, VR ub, UU, UU, VI 5, VI 0] [(.ref ub)])) (fun _ k => XS.iinc X0.here hx rfl (hb hby d21_73) rfl (l' := #[VI 0, VI 6, VR ub, UU, UU, VI 5, VI 0]) rfl k) ?_
  refine own_by (B := s₁.setTop (mkF m 78 #[VI 0, VI 6, VR ub, UU, UU, VI 5, VI 0] [(.int 5), (.ref ub)])) (fun _ k => XS.iload X0.here hx rfl (hb hby d21_76) rfl  k) ?_
  obtain ⟨T1, X1, e1, st1⟩ := getS2 X0 hx hZ hown (host := "") (Or.inl (own_hw 132 hw rfl)) Via.refl e0 (S_DigitOnes.ext O0.2) (g := (mkF m 78 #[VI 0, VI 6, VR ub, UU, UU, VI 5, VI 0] [(.int 5), (.ref ub)])) rfl (hb hby d21_78)
  refine own_by (B := T1.setTop (mkF m 81 #[VI 0, VI 6, VR ub, UU, UU, VI 5, VI 0] [(.ref a_DigitOnes), (.int 5), (.ref ub)])) st1 ?_
  refine own_by (B := T1.setTop (mkF m 82 #[VI 0, VI 6, VR ub, UU, UU, VI 5, VI 0] [(.int 0), (.ref a_DigitOnes), (.int 5), (.ref ub)])) (fun _ k => XS.iloadN X1.here hx rfl (hb hby d21_81) rfl  k) ?_
  refine own_by (B := T1.setTop (mkF m 83 #[VI 0, VI 6, VR ub, UU, UU, VI 5, VI 0] [(.int 0), (.ref a_DigitOnes), (.int 5), (.ref ub)])) (fun _ k => XS.ineg X1.here hx rfl (hb hby d21_82) rfl k) ?_
  obtain ⟨cd2, Ad2, sd2, vd2⟩ := H_DG.ext O0.2
  refine own_by (B := T1.setTop (mkF m 84 #[VI 0, VI 6, VR ub, UU, UU, VI 5, VI 0] [(.int 48), (.int 5), (.ref ub)])) (fun t k => X1.baloadBytes hx (j := (0 : Int32)) (v := (.int 48)) (by rw [e1]; exact Ad2.1) (State.isArrayOf_alike hZ.alike Ad2.2.1) Ad2.2.2 (by rw [sd2]; decide) vd2 (g := (mkF m 83 #[VI 0, VI 6, VR ub, UU, UU, VI 5, VI 0] [(.int 0), (.ref a_DigitOnes), (.int 5), (.ref ub)])) rfl rfl (hb hby d21_83) t k) ?_
  obtain ⟨cl3, Ar3, qq3, Sz3, Nn3, Hh3, Gg3⟩ := id (V_ub)
  have hin3 : ¬ ((5 : Int32) < 0 ∨ cl3.slots.size ≤ ((5 : Int32)).toNatClampNeg) := inb_of Sz3 ⟨by decide, by decide⟩
  obtain ⟨T3, h3, X3, e3, W3, st3⟩ := stB X1 hx hZ e1 Ar3 (j := (5 : Int32)) hin3 (g := (mkF m 84 #[VI 0, VI 6, VR ub, UU, UU, VI 5, VI 0] [(.int 48), (.int 5), (.ref ub)])) rfl rfl (hb hby d21_84)
  have sz3 := W3.size
  have O3 := O0.wr W3 gn_ub
  have K3 := K0.wr W3 (Or.inl (List.mem_of_getElem? (i := 0) rfl))
  have N3 := Fr.snoc X3 N0 gn_ub
  have V3 : Arv Z h3 ub kb .byte (16 : Int32) [(.int ux0), (.int ux1), (.int ux2), (.int ux3), (.int ux4), (.int (nar .byte (48 : Int32))), (.int 0), (.int 0), (.int 0), (.int 0), (.int 0), (.int 0), (.int 0), (.int 0), (.int 0), (.int 0)] (.int 0) := Arv.set Ar3 qq3 Sz3 Nn3 Hh3 Gg3 (fits_nar_byte _) W3 5 rfl (Nat.le_of_ble_eq_true rfl)
  refine own_by (B := T3.setTop (mkF m 85 #[VI 0, VI 6, VR ub, UU, UU, VI 5, VI 0] [])) st3 ?_
  refine own_by (B := T3.setTop (mkF m 86 #[VI 0, VI 6, VR ub, UU, UU, VI 5, VI 0] [(.int 0)])) (fun _ k => XS.iloadN X3.here hx rfl (hb hby d21_85) rfl  k) ?_
  refine own_by (B := T3.setTop (mkF m 88 #[VI 0, VI 6, VR ub, UU, UU, VI 5, VI 0] [(.int (-9 : Int32)), (.int 0)])) (fun _ k => XS.bipush X3.here hx rfl (hb hby d21_86) k) ?_
  refine own_by (B := T3.setTop (mkF m 104 #[VI 0, VI 6, VR ub, UU, UU, VI 5, VI 0] [])) (fun _ k => XS.icmpYes X3.here hx rfl (pc0 := 88) (pc' := 104) rfl (hb hby d21_88) rfl (XT.ii_ge_t (by decide)) (by decide) (by decide) k) ?_
  refine own_by (B := T3.setTop (mkF m 106 #[VI 0, VI 6, VR ub, UU, UU, VI 5, VI 0] [(.int 0)])) (fun _ k => XS.iload X3.here hx rfl (hb hby d21_104) rfl  k) ?_
  refine own_by (B := T3.setTop (mkF m 118 #[VI 0, VI 6, VR ub, UU, UU, VI 5, VI 0] [])) (fun _ k => XS.ifYes X3.here hx rfl (pc0 := 106) (pc' := 118) rfl (hb hby d21_106) rfl (XT.i0_eq_t (by decide)) (by decide) (by decide) k) ?_
  refine own_by (B := T3.setTop (mkF m 120 #[VI 0, VI 6, VR ub, UU, UU, VI 5, VI 0] [(.int 5)])) (fun _ k => XS.iload X3.here hx rfl (hb hby d21_118) rfl  k) ?_
  exact own_retI X3 hx hrt hlk (hb hby d21_120) (by decide) (by decide) (by show own_Q_rmChars5 Z ub kb ux0 ux1 ux2 ux3 ux4 h0 n0 _ T3.heap _; rw [e3]; exact ⟨rfl, N3, K3, V3⟩)

def own_Q_rmAai5 (Z : State) (ua : Nat) (ub : Nat) (kb : ClassId) (ux0 : Int32) (ux1 : Int32) (ux2 : Int32) (ux3 : Int32) (ux4 : Int32) (h0 : Heap) (n0 : Nat) (v : Option Value) (h : Heap) (L : List Loc) : Prop := v = some (.ref ua) ∧ Fr n0 L ∧ Keep h0 h [ua, ub] ∧ Exa Z h ua "java/lang/StringBuilder" ∧ Fld Z h ua "java/lang/AbstractStringBuilder" "value" "[B" (.ref ub) ∧ Fld Z h ua "java/lang/AbstractStringBuilder" "coder" "B" (.int 0) ∧ Fld Z h ua "java/lang/AbstractStringBuilder" "count" "I" (.int 6) ∧ Arv Z h ub kb .byte (16 : Int32) [(.int ux0), (.int ux1), (.int ux2), (.int ux3), (.int ux4), (.int (nar .byte (48 : Int32))), (.int 0), (.int 0), (.int 0), (.int 0), (.int 0), (.int 0), (.int 0), (.int 0), (.int 0), (.int 0)] (.int 0)

theorem pn_rmAai5 : plainFor (⟨"java/lang/AbstractStringBuilder", "append", "(I)Ljava/lang/AbstractStringBuilder;"⟩ : MethodName) = true := by first | exact plainFor_of_name (by first | (simp [plainName, overriddenIn]; done) | decide +kernel) | exact Jvm.Free.JP.mathPlain rfl (by decide +kernel) | decide +kernel
theorem ef_rmAai5 (m : MethodId) (x0 : Nat) (x1 : Int32) : entryFrame m #[(.ref x0), (.int x1)] 4 = mkF m 0 #[VR x0, VI x1, UU, UU] [] := by first | (simp [entryFrame, mkF, argsToLocals, Value.category]; done) | rfl
set_option maxRecDepth 65536 in
set_option maxHeartbeats 40000000 in
theorem rmAai5 (l : Launch) (Z : State) (a0 : Array Value) (hw : ∀ d ∈ tables_1, d.before a0 Z = true) (ws : List Jvm.Cond) (a_INPUT_BIT a_OUTPUT_BIT a_OUTPUT_WORD a_INPUT_WORD a_MEMORY_WORD p_INPUT_BIT v_INPUT_BIT p_OUTPUT_WORD v_OUTPUT_WORD p_OUTPUT_BIT v_OUTPUT_BIT p_MEMORY_WORD v_MEMORY_WORD p_INPUT_WORD v_INPUT_WORD a_DigitOnes : Nat) (k_INPUT_BIT : ClassId) (k_OUTPUT_WORD : ClassId) (k_OUTPUT_BIT : ClassId) (k_MEMORY_WORD : ClassId) (k_INPUT_WORD : ClassId) (ucs : Int32) (uff : Value) (ua : Nat) (ub : Nat) (kb : ClassId) (ux0 : Int32) (ux1 : Int32) (ux2 : Int32) (ux3 : Int32) (ux4 : Int32) (h0 : Heap) (n0 : Nat) (Z0 : n0 ≤ h0.size) (O0 : Old Z n0 h0) (HW : own_W Z Z.heap a_INPUT_BIT a_OUTPUT_BIT a_OUTPUT_WORD a_INPUT_WORD a_MEMORY_WORD p_INPUT_BIT v_INPUT_BIT p_OUTPUT_WORD v_OUTPUT_WORD p_OUTPUT_BIT v_OUTPUT_BIT p_MEMORY_WORD v_MEMORY_WORD p_INPUT_WORD v_INPUT_WORD a_DigitOnes k_INPUT_BIT k_OUTPUT_WORD k_OUTPUT_BIT k_MEMORY_WORD k_INPUT_WORD ucs uff) (E_ua : Exa Z h0 ua "java/lang/StringBuilder") (F_ua_value : Fld Z h0 ua "java/lang/AbstractStringBuilder" "value" "[B" (.ref ub)) (F_ua_coder : Fld Z h0 ua "java/lang/AbstractStringBuilder" "coder" "B" (.int 0)) (F_ua_count : Fld Z h0 ua "java/lang/AbstractStringBuilder" "count" "I" (.int 5)) (V_ub : Arv Z h0 ub kb .byte (16 : Int32) [(.int ux0), (.int ux1), (.int ux2), (.int ux3), (.int ux4), (.int 0), (.int 0), (.int 0), (.int 0), (.int 0), (.int 0), (.int 0), (.int 0), (.int 0), (.int 0), (.int 0)] (.int 0)) (gn_ua : n0 ≤ ua) (gn_ub : n0 ≤ ub)  :
    MetFree l (⟨"java/lang/AbstractStringBuilder", "append", "(I)Ljava/lang/AbstractStringBuilder;"⟩ : MethodName) (head1 (Jvm.Cond.code (⟨"java/lang/AbstractStringBuilder", "append", "(I)Ljava/lang/AbstractStringBuilder;"⟩ : MethodName) jdk_68_method_32_code 4 (some (.object "java/lang/AbstractStringBuilder")) :: ws) ({ frames := 1, cells := 0, slots := 0, locals := 18 } : Room)) (fun a U => a = #[(.ref ua), (.int 0)] ∧ Z.Warmed39 U.vm ∧ U.heap = h0) (fun _ _ _ _ _ => True) (fun _ U o U' => ∃ v L, o = .returned v ∧ (own_Q_rmAai5 Z ua ub kb ux0 ux1 ux2 ux3 ux4 h0 n0) v U'.heap L ∧ FrameEnd U o U' L 0 0) := by
  refine MetFree.of_bodySF pn_rmAai5 hisR ?_
  intro p e s m args below meth c s₁ Bd hml0 hP hK
  obtain ⟨rfl, hZ, hh⟩ := hP
  have hx := Bd.exec
  have hby := Bd.bytes
  have hml : c.maxLocals = 4 := hml0
  have hown : s.vm.findClass "java/lang/AbstractStringBuilder" = some m.cls := findClass_of_methodNamed Bd.named
  have hnm := (name_of_methodNamed Bd.named Bd.method).1
  have hrt := Bd.returns
  have hlk := Bd.notSynchronized
  have X0 : Stand p l e ({ frames := 1, cells := 0, slots := 0, locals := 18 } : Room) s m #[(.ref ua), (.int 0)] below meth c s₁ [] 0 0 := Stand.of_body Bd
  have e0 : s₁.heap = h0 := by rw [← hh, Bd.state]; rfl
  have N0 := Fr.nil n0
  have K0 := Keep.refl h0 [ua, ub]
  have lt_E_ua := own_lt E_ua.lt
  have lt_V_ub := own_lt V_ub.lt
  have nl_ua_ub := own_lg (Exa.neArv E_ua V_ub (own_hw 38 hw rfl))
  refine own_done (B := s₁.setTop (mkF m 0 #[VR ua, VI 0, UU, UU] [])) (fun t k => castTop (ef_rmAai5 m ua (0 : Int32)) k) ?_
  refine own_by (B := s₁.setTop (mkF m 1 #[VR ua, VI 0, UU, UU] [(.ref ua)])) (fun _ k => XS.aloadN X0.here hx rfl (hb hby d18_0) rfl rfl  k) ?_
  obtain ⟨T1, X1, e1, st1⟩ := getF X0 hx hZ hown (host := "") (Or.inl (own_hw 84 hw rfl)) Via.refl e0 F_ua_count (g := (mkF m 1 #[VR ua, VI 0, UU, UU] [(.ref ua)])) rfl rfl (hb hby d18_1)
  refine own_by (B := T1.setTop (mkF m 4 #[VR ua, VI 0, UU, UU] [(.int 5)])) st1 ?_
  refine own_by (B := T1.setTop (mkF m 5 #[VR ua, VI 0, VI 5, UU] [])) (fun _ k => XS.istoreN X1.here hx rfl (hb hby d18_4) rfl (l' := #[VR ua, VI 0, VI 5, UU]) rfl k) ?_
  refine own_by (B := T1.setTop (mkF m 6 #[VR ua, VI 0, VI 5, UU] [(.int 5)])) (fun _ k => XS.iloadN X1.here hx rfl (hb hby d18_5) rfl  k) ?_
  refine own_by (B := T1.setTop (mkF m 7 #[VR ua, VI 0, VI 5, UU] [(.int 0), (.int 5)])) (fun _ k => XS.iloadN X1.here hx rfl (hb hby d18_6) rfl  k) ?_
  obtain ⟨_, _, ⟨T2, L2, k2, n2⟩, -, X2, ⟨Lc2, hQ2, l2, y2, z2⟩, st2⟩ := Jvm.LawKit.callS X1 hx (y := (⟨"java/lang/Integer", "stringSize", "(I)I"⟩ : MethodName)) hown (mvT hZ (own_hw 120 hw rfl)) (mvT hZ (own_hw 121 hw rfl)) (mvT hZ (own_hw 122 hw rfl)) (mvT hZ (own_hw 123 hw rfl)) (by decide) (backOf (W := 1) (rmSize l Z a0 hw [] a_INPUT_BIT a_OUTPUT_BIT a_OUTPUT_WORD a_INPUT_WORD a_MEMORY_WORD p_INPUT_BIT v_INPUT_BIT p_OUTPUT_WORD v_OUTPUT_WORD p_OUTPUT_BIT v_OUTPUT_BIT p_MEMORY_WORD v_MEMORY_WORD p_INPUT_WORD v_INPUT_WORD a_DigitOnes k_INPUT_BIT k_OUTPUT_WORD k_OUTPUT_BIT k_MEMORY_WORD k_INPUT_WORD ucs uff  h0 n0 (own_old_le O0) O0 HW ) hZ (own_hw 123 hw rfl) (own_hw 122 hw rfl) (by decide) (by decide)) (g := (mkF m 7 #[VR ua, VI 0, VI 5, UU] [(.int 0), (.int 5)])) rfl (by rw [hml]; rfl) (argsL := [(.int 0)]) (rest := [(.int 5)]) (lenOf pd_18__I_I rfl) rfl (by show 2 * 0 + _ ≤ _; exact Nat.le_of_eq rfl) (hb hby d18_7) (fun _ _ => ⟨rfl, e1, (by decide : 0 + 0 ≤ _), (by decide : 0 + 0 ≤ _)⟩)
  dsimp only [Pt.U, Pt.locs, Pt.cells, Pt.slots] at X2 l2 y2 z2 st2 hQ2
  subst l2 y2 z2
  obtain ⟨rfl, NC2, KC2⟩ := hQ2
  refine own_by (B := T2.setTop (mkF m 10 #[VR ua, VI 0, VI 5, UU] [(.int 1), (.int 5)])) st2 ?_
  obtain ⟨h2, e2⟩ : ∃ z, T2.heap = z := ⟨_, rfl⟩
  rw [e2] at KC2
  have sz2 := KC2.1
  have O2 := O0.keep KC2 all0
  have K2 := K0.trans KC2 all0
  have N2 := Fr.app N0 NC2
  refine own_by (B := T2.setTop (mkF m 11 #[VR ua, VI 0, VI 5, UU] [(.int 6)])) (fun _ k => XS.iadd X2.here hx rfl (hb hby d18_10) rfl k) ?_
  refine own_by (B := T2.setTop (mkF m 12 #[VR ua, VI 0, VI 5, VI 6] [])) (fun _ k => XS.istoreN X2.here hx rfl (hb hby d18_11) rfl (l' := #[VR ua, VI 0, VI 5, VI 6]) rfl k) ?_
  refine own_by (B := T2.setTop (mkF m 13 #[VR ua, VI 0, VI 5, VI 6] [(.ref ua)])) (fun _ k => XS.aloadN X2.here hx rfl (hb hby d18_12) rfl rfl  k) ?_
  refine own_by (B := T2.setTop (mkF m 14 #[VR ua, VI 0, VI 5, VI 6] [(.int 6), (.ref ua)])) (fun _ k => XS.iloadN X2.here hx rfl (hb hby d18_13) rfl  k) ?_
  have c3 := (E_ua.keep KC2)
  have c4 := (F_ua_value.keep KC2 nin0)
  have c5 := (F_ua_coder.keep KC2 nin0)
  have c6 := (F_ua_count.keep KC2 nin0)
  have c7 := (V_ub.keep KC2 nin0)
  obtain ⟨cq8, qa8, qc8⟩ := Exa.cell c3
  obtain ⟨_, _, ⟨T8, L8, k8, n8⟩, -, X8, ⟨Lc8, hQ8, l8, y8, z8⟩, st8⟩ := X2.privateBack hx (y := (⟨"java/lang/AbstractStringBuilder", "ensureCapacityInternal", "(I)V"⟩ : MethodName)) hown (mvT hZ (own_hw 86 hw rfl)) (mvT hZ (own_hw 87 hw rfl)) (mvT hZ (own_selpriv2 (y := (⟨"java/lang/AbstractStringBuilder", "ensureCapacityInternal", "(I)V"⟩ : MethodName)) (own_hw 89 hw rfl) (own_hw 88 hw rfl) (own_hw 87 hw rfl) (by decide))) (Cond.privateMethod_at (mvP hZ (own_hw 88 hw rfl) (args := #[]))) (mvT hZ (own_hw 90 hw rfl)) (by decide) (backOf (W := 0) (rmEnsI5 l Z a0 hw [] a_INPUT_BIT a_OUTPUT_BIT a_OUTPUT_WORD a_INPUT_WORD a_MEMORY_WORD p_INPUT_BIT v_INPUT_BIT p_OUTPUT_WORD v_OUTPUT_WORD p_OUTPUT_BIT v_OUTPUT_BIT p_MEMORY_WORD v_MEMORY_WORD p_INPUT_WORD v_INPUT_WORD a_DigitOnes k_INPUT_BIT k_OUTPUT_WORD k_OUTPUT_BIT k_MEMORY_WORD k_INPUT_WORD ucs uff ua ub kb ux0 ux1 ux2 ux3 ux4 h2 n0 (own_old_le O2) O2 HW c3 c4 c5 c6 c7) hZ (own_hw 90 hw rfl) (own_hw 47 hw rfl) (by decide) (by decide)) (g := (mkF m 14 #[VR ua, VI 0, VI 5, VI 6] [(.int 6), (.ref ua)])) rfl (by rw [hml]; rfl) (Steps.refl _) (a := ua) (by rw [e2]; exact qa8) qc8 (argsL := [(.int 6)]) (rest := []) (lenOf pd_18__I_V rfl) rfl (by show 2 * 0 + _ ≤ _; exact Nat.le_of_eq rfl) (hb hby d18_14) (fun _ _ => ⟨rfl, e2, (by decide : 0 + 0 ≤ _), (by decide : 0 + 0 ≤ _)⟩)
  dsimp only [Pt.U, Pt.locs, Pt.cells, Pt.slots] at X8 l8 y8 z8 st8 hQ8
  subst l8 y8 z8
  obtain ⟨rfl, NC8, KC8⟩ := hQ8
  refine own_by (B := T8.setTop (mkF m 17 #[VR ua, VI 0, VI 5, VI 6] [])) (fun _ k => st8.trans k) ?_
  obtain ⟨h8, e8⟩ : ∃ z, T8.heap = z := ⟨_, rfl⟩
  rw [e8] at KC8
  have sz8 := KC8.1
  have O8 := O2.keep KC8 all0
  have K8 := K2.trans KC8 all0
  have N8 := Fr.app N2 NC8
  refine own_by (B := T8.setTop (mkF m 18 #[VR ua, VI 0, VI 5, VI 6] [(.ref ua)])) (fun _ k => XS.aloadN X8.here hx rfl (hb hby d18_17) rfl rfl  k) ?_
  have c9 := (c3.keep KC8)
  have c10 := (c4.keep KC8 nin0)
  have c11 := (c5.keep KC8 nin0)
  have c12 := (c6.keep KC8 nin0)
  have c13 := (c7.keep KC8 nin0)
  obtain ⟨cq14, kq14, qa14, qb14, qc14⟩ := isOf hZ e8 c9
  obtain ⟨_, _, ⟨T14, L14, k14, n14⟩, -, X14, ⟨Lc14, hQ14, l14, y14, z14⟩, st14⟩ := X8.virtualBack hx (y := (⟨"java/lang/AbstractStringBuilder", "isLatin1", "()Z"⟩ : MethodName)) (z := (⟨"java/lang/AbstractStringBuilder", "isLatin1", "()Z"⟩ : MethodName)) hown (mvT hZ (own_hw 124 hw rfl)) (mvT hZ (own_hw 125 hw rfl)) (notFace_of_selects (args := #[]) (mvT hZ (own_hw 127 hw rfl))) (mvT hZ (own_hw 127 hw rfl)) (mvT hZ (own_hw 126 hw rfl)) (by decide) (backOf (W := 0) (rmLatI5 l Z a0 hw [] a_INPUT_BIT a_OUTPUT_BIT a_OUTPUT_WORD a_INPUT_WORD a_MEMORY_WORD p_INPUT_BIT v_INPUT_BIT p_OUTPUT_WORD v_OUTPUT_WORD p_OUTPUT_BIT v_OUTPUT_BIT p_MEMORY_WORD v_MEMORY_WORD p_INPUT_WORD v_INPUT_WORD a_DigitOnes k_INPUT_BIT k_OUTPUT_WORD k_OUTPUT_BIT k_MEMORY_WORD k_INPUT_WORD ucs uff ua ub kb ux0 ux1 ux2 ux3 ux4 h8 n0 (own_old_le O8) O8 HW c9 c10 c11 c12 c13) hZ (own_hw 128 hw rfl) (own_hw 47 hw rfl) (by decide) (by decide)) qa14 qc14 (g := (mkF m 18 #[VR ua, VI 0, VI 5, VI 6] [(.ref ua)])) rfl (by rw [hml]; rfl) (Steps.refl _) (argsL := []) (rest := []) (lenOf pd_18___Z rfl) rfl (by show 2 * 0 + _ ≤ _; exact Nat.le_of_eq rfl) (hb hby d18_18) (fun _ _ => ⟨rfl, e8, (by decide : 0 + 0 ≤ _), (by decide : 0 + 0 ≤ _)⟩)
  dsimp only [Pt.U, Pt.locs, Pt.cells, Pt.slots] at X14 l14 y14 z14 st14 hQ14
  subst l14 y14 z14
  obtain ⟨rfl, NC14, KC14⟩ := hQ14
  refine own_by (B := T14.setTop (mkF m 21 #[VR ua, VI 0, VI 5, VI 6] [(.int 1)])) (fun _ k => st14.trans k) ?_
  obtain ⟨h14, e14⟩ : ∃ z, T14.heap = z := ⟨_, rfl⟩
  rw [e14] at KC14
  have sz14 := KC14.1
  have O14 := O8.keep KC14 all0
  have K14 := K8.trans KC14 all0
  have N14 := Fr.app N8 NC14
  refine own_by (B := T14.setTop (mkF m 24 #[VR ua, VI 0, VI 5, VI 6] [])) (fun _ k => XS.ifNo X14.here hx rfl (hb hby d18_21) rfl (XT.i0_eq_f (by decide)) k) ?_
  refine own_by (B := T14.setTop (mkF m 25 #[VR ua, VI 0, VI 5, VI 6] [(.int 0)])) (fun _ k => XS.iloadN X14.here hx rfl (hb hby d18_24) rfl  k) ?_
  refine own_by (B := T14.setTop (mkF m 26 #[VR ua, VI 0, VI 5, VI 6] [(.int 6), (.int 0)])) (fun _ k => XS.iloadN X14.here hx rfl (hb hby d18_25) rfl  k) ?_
  refine own_by (B := T14.setTop (mkF m 27 #[VR ua, VI 0, VI 5, VI 6] [(.ref ua), (.int 6), (.int 0)])) (fun _ k => XS.aloadN X14.here hx rfl (hb hby d18_26) rfl rfl  k) ?_
  have c15 := (c10.keep KC14 nin0)
  obtain ⟨T16, X16, e16, st16⟩ := getF X14 hx hZ hown (host := "") (Or.inl (own_hw 53 hw rfl)) Via.refl e14 c15 (g := (mkF m 27 #[VR ua, VI 0, VI 5, VI 6] [(.ref ua), (.int 6), (.int 0)])) rfl rfl (hb hby d18_27)
  refine own_by (B := T16.setTop (mkF m 30 #[VR ua, VI 0, VI 5, VI 6] [(.ref ub), (.int 6), (.int 0)])) st16 ?_
  have c17 := (c13.keep KC14 nin0)
  obtain ⟨_, _, ⟨T18, L18, k18, n18⟩, -, X18, ⟨Lc18, hQ18, l18, y18, z18⟩, st18⟩ := Jvm.LawKit.callS X16 hx (y := (⟨"java/lang/Integer", "getChars", "(II[B)I"⟩ : MethodName)) hown (mvT hZ (own_hw 129 hw rfl)) (mvT hZ (own_hw 130 hw rfl)) (mvT hZ (own_hw 122 hw rfl)) (mvT hZ (own_hw 131 hw rfl)) (by decide) (backOf (W := 0) (rmChars5 l Z a0 hw [] a_INPUT_BIT a_OUTPUT_BIT a_OUTPUT_WORD a_INPUT_WORD a_MEMORY_WORD p_INPUT_BIT v_INPUT_BIT p_OUTPUT_WORD v_OUTPUT_WORD p_OUTPUT_BIT v_OUTPUT_BIT p_MEMORY_WORD v_MEMORY_WORD p_INPUT_WORD v_INPUT_WORD a_DigitOnes k_INPUT_BIT k_OUTPUT_WORD k_OUTPUT_BIT k_MEMORY_WORD k_INPUT_WORD ucs uff ub kb ux0 ux1 ux2 ux3 ux4 h14 n0 (own_old_le O14) O14 HW c17 gn_ub) hZ (own_hw 131 hw rfl) (own_hw 122 hw rfl) (by decide) (by decide)) (g := (mkF m 30 #[VR ua, VI 0, VI 5, VI 6] [(.ref ub), (.int 6), (.int 0)])) rfl (by rw [hml]; rfl) (argsL := [(.int 0), (.int 6), (.ref ub)]) (rest := []) (lenOf pd_18__II_B_I rfl) rfl (by show 2 * 0 + _ ≤ _; exact Nat.le_of_eq rfl) (hb hby d18_30) (fun _ _ => ⟨rfl, e16, (by decide : 0 + 0 ≤ _), (by decide : 0 + 0 ≤ _)⟩)
  dsimp only [Pt.U, Pt.locs, Pt.cells, Pt.slots] at X18 l18 y18 z18 st18 hQ18
  subst l18 y18 z18
  obtain ⟨rfl, NC18, KC18, Q0_N18⟩ := hQ18
  refine own_by (B := T18.setTop (mkF m 33 #[VR ua, VI 0, VI 5, VI 6] [(.int 5)])) st18 ?_
  obtain ⟨h18, e18⟩ : ∃ z, T18.heap = z := ⟨_, rfl⟩
  rw [e18] at KC18 Q0_N18
  have sz18 := KC18.1
  have O18 := O14.keep KC18 (allS gn_ub all0)
  have K18 := K14.trans KC18 (allS (Or.inl (List.mem_of_getElem? (i := 1) rfl)) all0)
  have N18 := Fr.app N14 NC18
  refine own_by (B := T18.setTop (mkF m 34 #[VR ua, VI 0, VI 5, VI 6] [])) (fun _ k => XT.pop X18.here hx rfl (hb hby d18_33) rfl rfl k) ?_
  refine own_by (B := T18.setTop (mkF m 48 #[VR ua, VI 0, VI 5, VI 6] [])) (fun _ k => XS.goto X18.here hx rfl (pc0 := 34) (pc' := 48) rfl (hb hby d18_34) (by decide) (by decide) k) ?_
  refine own_by (B := T18.setTop (mkF m 49 #[VR ua, VI 0, VI 5, VI 6] [(.ref ua)])) (fun _ k => XS.aloadN X18.here hx rfl (hb hby d18_48) rfl rfl  k) ?_
  refine own_by (B := T18.setTop (mkF m 50 #[VR ua, VI 0, VI 5, VI 6] [(.int 6), (.ref ua)])) (fun _ k => XS.iloadN X18.here hx rfl (hb hby d18_49) rfl  k) ?_
  have c20 := ((c9.keep KC14).keep KC18)
  have c21 := ((c12.keep KC14 nin0).keep KC18 (ninS (own_ne (by omega)) nin0))
  obtain ⟨T19, h19, X19, e19, W19, st19⟩ := putF X18 hx hZ hown (host := "") (Or.inl (own_hw 84 hw rfl)) Via.refl e18 c21 c20 (Or.inl (own_hw 85 hw rfl)) (own_hw 38 hw rfl) (ty := .int) (by decide) rfl rfl (g := (mkF m 50 #[VR ua, VI 0, VI 5, VI 6] [(.int 6), (.ref ua)])) rfl rfl (hb hby d18_50)
  have sz19 := W19.size
  have O19 := O18.wr W19 gn_ua
  have K19 := K18.wr W19 (Or.inl (List.mem_of_getElem? (i := 0) rfl))
  have N19 := Fr.snoc X19 N18 gn_ua
  have F19 := c21.same W19
  refine own_by (B := T19.setTop (mkF m 53 #[VR ua, VI 0, VI 5, VI 6] [])) st19 ?_
  refine own_by (B := T19.setTop (mkF m 54 #[VR ua, VI 0, VI 5, VI 6] [(.ref ua)])) (fun _ k => XS.aloadN X19.here hx rfl (hb hby d18_53) rfl rfl  k) ?_
  have c22 := (c20.wr W19)
  have c23 := ((c15.keep KC18 (ninS (own_ne (by omega)) nin0)).other W19 (Or.inr (slot_ne (Or.inl (own_hw 54 hw rfl)) (Or.inl (own_hw 85 hw rfl)) (by decide) (t := (.array .byte)) (t' := .int) (by decide) (by decide))))
  have c24 := (((c11.keep KC14 nin0).keep KC18 (ninS (own_ne (by omega)) nin0)).other W19 (Or.inr (slot_ne (Or.inl (own_hw 56 hw rfl)) (Or.inl (own_hw 85 hw rfl)) (by decide) (t := .byte) (t' := .int) (by decide) (by decide))))
  have c25 := (Q0_N18.other W19 (own_ne (by omega)))
  exact own_retA X19 hx hrt rfl rfl hlk (hb hby d18_54) (by decide) (by decide) (by show own_Q_rmAai5 Z ua ub kb ux0 ux1 ux2 ux3 ux4 h0 n0 _ T19.heap _; rw [e19]; exact ⟨rfl, N19, K19, c22, c23, c24, F19, c25⟩)

def own_Q_rmAi5 (Z : State) (ua : Nat) (ub : Nat) (kb : ClassId) (ux0 : Int32) (ux1 : Int32) (ux2 : Int32) (ux3 : Int32) (ux4 : Int32) (h0 : Heap) (n0 : Nat) (v : Option Value) (h : Heap) (L : List Loc) : Prop := v = some (.ref ua) ∧ Fr n0 L ∧ Keep h0 h [ua, ub] ∧ Exa Z h ua "java/lang/StringBuilder" ∧ Fld Z h ua "java/lang/AbstractStringBuilder" "value" "[B" (.ref ub) ∧ Fld Z h ua "java/lang/AbstractStringBuilder" "coder" "B" (.int 0) ∧ Fld Z h ua "java/lang/AbstractStringBuilder" "count" "I" (.int 6) ∧ Arv Z h ub kb .byte (16 : Int32) [(.int ux0), (.int ux1), (.int ux2), (.int ux3), (.int ux4), (.int (nar .byte (48 : Int32))), (.int 0), (.int 0), (.int 0), (.int 0), (.int 0), (.int 0), (.int 0), (.int 0), (.int 0), (.int 0)] (.int 0)

theorem pn_rmAi5 : plainFor (⟨"java/lang/StringBuilder", "append", "(I)Ljava/lang/StringBuilder;"⟩ : MethodName) = true := by first | exact plainFor_of_name (by first | (simp [plainName, overriddenIn]; done) | decide +kernel) | exact Jvm.Free.JP.mathPlain rfl (by decide +kernel) | decide +kernel
theorem ef_rmAi5 (m : MethodId) (x0 : Nat) (x1 : Int32) : entryFrame m #[(.ref x0), (.int x1)] 2 = mkF m 0 #[VR x0, VI x1] [] := by first | (simp [entryFrame, mkF, argsToLocals, Value.category]; done) | rfl
set_option maxRecDepth 65536 in
set_option maxHeartbeats 40000000 in
theorem rmAi5 (l : Launch) (Z : State) (a0 : Array Value) (hw : ∀ d ∈ tables_1, d.before a0 Z = true) (ws : List Jvm.Cond) (a_INPUT_BIT a_OUTPUT_BIT a_OUTPUT_WORD a_INPUT_WORD a_MEMORY_WORD p_INPUT_BIT v_INPUT_BIT p_OUTPUT_WORD v_OUTPUT_WORD p_OUTPUT_BIT v_OUTPUT_BIT p_MEMORY_WORD v_MEMORY_WORD p_INPUT_WORD v_INPUT_WORD a_DigitOnes : Nat) (k_INPUT_BIT : ClassId) (k_OUTPUT_WORD : ClassId) (k_OUTPUT_BIT : ClassId) (k_MEMORY_WORD : ClassId) (k_INPUT_WORD : ClassId) (ucs : Int32) (uff : Value) (ua : Nat) (ub : Nat) (kb : ClassId) (ux0 : Int32) (ux1 : Int32) (ux2 : Int32) (ux3 : Int32) (ux4 : Int32) (h0 : Heap) (n0 : Nat) (Z0 : n0 ≤ h0.size) (O0 : Old Z n0 h0) (HW : own_W Z Z.heap a_INPUT_BIT a_OUTPUT_BIT a_OUTPUT_WORD a_INPUT_WORD a_MEMORY_WORD p_INPUT_BIT v_INPUT_BIT p_OUTPUT_WORD v_OUTPUT_WORD p_OUTPUT_BIT v_OUTPUT_BIT p_MEMORY_WORD v_MEMORY_WORD p_INPUT_WORD v_INPUT_WORD a_DigitOnes k_INPUT_BIT k_OUTPUT_WORD k_OUTPUT_BIT k_MEMORY_WORD k_INPUT_WORD ucs uff) (E_ua : Exa Z h0 ua "java/lang/StringBuilder") (F_ua_value : Fld Z h0 ua "java/lang/AbstractStringBuilder" "value" "[B" (.ref ub)) (F_ua_coder : Fld Z h0 ua "java/lang/AbstractStringBuilder" "coder" "B" (.int 0)) (F_ua_count : Fld Z h0 ua "java/lang/AbstractStringBuilder" "count" "I" (.int 5)) (V_ub : Arv Z h0 ub kb .byte (16 : Int32) [(.int ux0), (.int ux1), (.int ux2), (.int ux3), (.int ux4), (.int 0), (.int 0), (.int 0), (.int 0), (.int 0), (.int 0), (.int 0), (.int 0), (.int 0), (.int 0), (.int 0)] (.int 0)) (gn_ua : n0 ≤ ua) (gn_ub : n0 ≤ ub)  :
    MetFree l (⟨"java/lang/StringBuilder", "append", "(I)Ljava/lang/StringBuilder;"⟩ : MethodName) (head1 (Jvm.Cond.code (⟨"java/lang/StringBuilder", "append", "(I)Ljava/lang/StringBuilder;"⟩ : MethodName) jdk_67_method_15_code 2 (some (.object "java/lang/StringBuilder")) :: ws) ({ frames := 2, cells := 0, slots := 0, locals := 33 } : Room)) (fun a U => a = #[(.ref ua), (.int 0)] ∧ Z.Warmed39 U.vm ∧ U.heap = h0) (fun _ _ _ _ _ => True) (fun _ U o U' => ∃ v L, o = .returned v ∧ (own_Q_rmAi5 Z ua ub kb ux0 ux1 ux2 ux3 ux4 h0 n0) v U'.heap L ∧ FrameEnd U o U' L 0 0) := by
  refine MetFree.of_bodySF pn_rmAi5 hisR ?_
  intro p e s m args below meth c s₁ Bd hml0 hP hK
  obtain ⟨rfl, hZ, hh⟩ := hP
  have hx := Bd.exec
  have hby := Bd.bytes
  have hml : c.maxLocals = 2 := hml0
  have hown : s.vm.findClass "java/lang/StringBuilder" = some m.cls := findClass_of_methodNamed Bd.named
  have hnm := (name_of_methodNamed Bd.named Bd.method).1
  have hrt := Bd.returns
  have hlk := Bd.notSynchronized
  have X0 : Stand p l e ({ frames := 2, cells := 0, slots := 0, locals := 33 } : Room) s m #[(.ref ua), (.int 0)] below meth c s₁ [] 0 0 := Stand.of_body Bd
  have e0 : s₁.heap = h0 := by rw [← hh, Bd.state]; rfl
  have N0 := Fr.nil n0
  have K0 := Keep.refl h0 [ua, ub]
  have lt_E_ua := own_lt E_ua.lt
  have lt_V_ub := own_lt V_ub.lt
  have nl_ua_ub := own_lg (Exa.neArv E_ua V_ub (own_hw 38 hw rfl))
  refine own_done (B := s₁.setTop (mkF m 0 #[VR ua, VI 0] [])) (fun t k => castTop (ef_rmAi5 m ua (0 : Int32)) k) ?_
  refine own_by (B := s₁.setTop (mkF m 1 #[VR ua, VI 0] [(.ref ua)])) (fun _ k => XS.aloadN X0.here hx rfl (hb hby d17_0) rfl rfl  k) ?_
  refine own_by (B := s₁.setTop (mkF m 2 #[VR ua, VI 0] [(.int 0), (.ref ua)])) (fun _ k => XS.iloadN X0.here hx rfl (hb hby d17_1) rfl  k) ?_
  obtain ⟨_, _, ⟨T1, L1, k1, n1⟩, -, X1, ⟨Lc1, hQ1, l1, y1, z1⟩, st1⟩ := superBack X0 hx hZ (y := (⟨"java/lang/AbstractStringBuilder", "append", "(I)Ljava/lang/AbstractStringBuilder;"⟩ : MethodName)) (K := "java/lang/StringBuilder") hown (own_hw 116 hw rfl) (own_sameM (y := (⟨"java/lang/AbstractStringBuilder", "append", "(I)Ljava/lang/AbstractStringBuilder;"⟩ : MethodName)) (w := (⟨"java/lang/AbstractStringBuilder", "isLatin1", "()Z"⟩ : MethodName)) (own_hw 118 hw rfl) (own_hw 127 hw rfl) rfl (by decide)) (own_hw 117 hw rfl) (own_hw 66 hw rfl) (by decide) (backOf (W := 0) (rmAai5 l Z a0 hw [] a_INPUT_BIT a_OUTPUT_BIT a_OUTPUT_WORD a_INPUT_WORD a_MEMORY_WORD p_INPUT_BIT v_INPUT_BIT p_OUTPUT_WORD v_OUTPUT_WORD p_OUTPUT_BIT v_OUTPUT_BIT p_MEMORY_WORD v_MEMORY_WORD p_INPUT_WORD v_INPUT_WORD a_DigitOnes k_INPUT_BIT k_OUTPUT_WORD k_OUTPUT_BIT k_MEMORY_WORD k_INPUT_WORD ucs uff ua ub kb ux0 ux1 ux2 ux3 ux4 h0 n0 (own_old_le O0) O0 HW E_ua F_ua_value F_ua_coder F_ua_count V_ub gn_ua gn_ub) hZ (own_hw 119 hw rfl) (own_hw 47 hw rfl) (by decide) (by decide)) e0 (Ins.self E_ua) (g := (mkF m 2 #[VR ua, VI 0] [(.int 0), (.ref ua)])) rfl (by rw [hml]; rfl) (own_hw 119 hw rfl) (argsL := [(.int 0)]) (rest := []) (lenOf pd_17__I_Ljava_lang_AbstractStringBuilder_ rfl) rfl (by show 2 * 0 + _ ≤ _; exact Nat.le_of_eq rfl) (hb hby d17_2) (fun _ _ => ⟨rfl, e0, (by decide : 0 + 0 ≤ _), (by decide : 0 + 0 ≤ _)⟩)
  dsimp only [Pt.U, Pt.locs, Pt.cells, Pt.slots] at X1 l1 y1 z1 st1 hQ1
  subst l1 y1 z1
  obtain ⟨rfl, NC1, KC1, Q0_N1, Q1_N1, Q2_N1, Q3_N1, Q4_N1⟩ := hQ1
  refine own_by (B := T1.setTop (mkF m 5 #[VR ua, VI 0] [(.ref ua)])) (fun _ k => st1.trans k) ?_
  obtain ⟨h1, e1⟩ : ∃ z, T1.heap = z := ⟨_, rfl⟩
  rw [e1] at KC1 Q0_N1 Q1_N1 Q2_N1 Q3_N1 Q4_N1
  have sz1 := KC1.1
  have O1 := O0.keep KC1 (allS gn_ua (allS gn_ub all0))
  have K1 := K0.trans KC1 (allS (Or.inl (List.mem_of_getElem? (i := 0) rfl)) (allS (Or.inl (List.mem_of_getElem? (i := 1) rfl)) all0))
  have N1 := Fr.app N0 NC1
  refine own_by (B := T1.setTop (mkF m 6 #[VR ua, VI 0] [])) (fun _ k => XT.pop X1.here hx rfl (hb hby d17_5) rfl rfl k) ?_
  refine own_by (B := T1.setTop (mkF m 7 #[VR ua, VI 0] [(.ref ua)])) (fun _ k => XS.aloadN X1.here hx rfl (hb hby d17_6) rfl rfl  k) ?_
  exact own_retA X1 hx hrt rfl rfl hlk (hb hby d17_7) (by decide) (by decide) (by show own_Q_rmAi5 Z ua ub kb ux0 ux1 ux2 ux3 ux4 h0 n0 _ T1.heap _; rw [e1]; exact ⟨rfl, N1, K1, Q0_N1, Q1_N1, Q2_N1, Q3_N1, Q4_N1⟩)

def own_Q_rmgv4 (Z : State) (uc : Nat) (ub : Nat) (kb : ClassId) (ux0 : Int32) (ux1 : Int32) (ux2 : Int32) (ux3 : Int32) (h0 : Heap) (n0 : Nat) (v : Option Value) (h : Heap) (L : List Loc) : Prop := v = some (.ref ub) ∧ Fr n0 L ∧ Keep h0 h []

theorem d25_0 : decode jdk_68_method_64_code 0 = .ok (.aload_n 0, 1) := by decide +kernel
theorem d25_1 : decode jdk_68_method_64_code 1 = .ok (.getfield 15, 3) := by decide +kernel
theorem d25_4 : decode jdk_68_method_64_code 4 = .ok (.areturn, 1) := by decide +kernel
theorem pn_rmgv4 : plainFor (⟨"java/lang/AbstractStringBuilder", "getValue", "()[B"⟩ : MethodName) = true := by first | exact plainFor_of_name (by first | (simp [plainName, overriddenIn]; done) | decide +kernel) | exact Jvm.Free.JP.mathPlain rfl (by decide +kernel) | decide +kernel
theorem ef_rmgv4 (m : MethodId) (x0 : Nat) : entryFrame m #[(.ref x0)] 1 = mkF m 0 #[VR x0] [] := by first | (simp [entryFrame, mkF, argsToLocals, Value.category]; done) | rfl
set_option maxRecDepth 65536 in
set_option maxHeartbeats 40000000 in
theorem rmgv4 (l : Launch) (Z : State) (a0 : Array Value) (hw : ∀ d ∈ tables_1, d.before a0 Z = true) (ws : List Jvm.Cond) (a_INPUT_BIT a_OUTPUT_BIT a_OUTPUT_WORD a_INPUT_WORD a_MEMORY_WORD p_INPUT_BIT v_INPUT_BIT p_OUTPUT_WORD v_OUTPUT_WORD p_OUTPUT_BIT v_OUTPUT_BIT p_MEMORY_WORD v_MEMORY_WORD p_INPUT_WORD v_INPUT_WORD a_DigitOnes : Nat) (k_INPUT_BIT : ClassId) (k_OUTPUT_WORD : ClassId) (k_OUTPUT_BIT : ClassId) (k_MEMORY_WORD : ClassId) (k_INPUT_WORD : ClassId) (ucs : Int32) (uff : Value) (uc : Nat) (ub : Nat) (kb : ClassId) (ux0 : Int32) (ux1 : Int32) (ux2 : Int32) (ux3 : Int32) (h0 : Heap) (n0 : Nat) (Z0 : n0 ≤ h0.size) (O0 : Old Z n0 h0) (HW : own_W Z Z.heap a_INPUT_BIT a_OUTPUT_BIT a_OUTPUT_WORD a_INPUT_WORD a_MEMORY_WORD p_INPUT_BIT v_INPUT_BIT p_OUTPUT_WORD v_OUTPUT_WORD p_OUTPUT_BIT v_OUTPUT_BIT p_MEMORY_WORD v_MEMORY_WORD p_INPUT_WORD v_INPUT_WORD a_DigitOnes k_INPUT_BIT k_OUTPUT_WORD k_OUTPUT_BIT k_MEMORY_WORD k_INPUT_WORD ucs uff) (E_uc : Exa Z h0 uc "java/lang/StringBuilder") (F_uc_value : Fld Z h0 uc "java/lang/AbstractStringBuilder" "value" "[B" (.ref ub)) (F_uc_coder : Fld Z h0 uc "java/lang/AbstractStringBuilder" "coder" "B" (.int 0)) (F_uc_count : Fld Z h0 uc "java/lang/AbstractStringBuilder" "count" "I" (.int 4)) (V_ub : Arv Z h0 ub kb .byte (16 : Int32) [(.int ux0), (.int ux1), (.int ux2), (.int ux3), (.int 0), (.int 0), (.int 0), (.int 0), (.int 0), (.int 0), (.int 0), (.int 0), (.int 0), (.int 0), (.int 0), (.int 0)] (.int 0))   :
    MetFree l (⟨"java/lang/AbstractStringBuilder", "getValue", "()[B"⟩ : MethodName) (head1 (Jvm.Cond.code (⟨"java/lang/AbstractStringBuilder", "getValue", "()[B"⟩ : MethodName) jdk_68_method_64_code 1 (some (.array .byte)) :: ws) ({ frames := 0, cells := 0, slots := 0, locals := 0 } : Room)) (fun a U => a = #[(.ref uc)] ∧ Z.Warmed39 U.vm ∧ U.heap = h0) (fun _ _ _ _ _ => True) (fun _ U o U' => ∃ v L, o = .returned v ∧ (own_Q_rmgv4 Z uc ub kb ux0 ux1 ux2 ux3 h0 n0) v U'.heap L ∧ FrameEnd U o U' L 0 0) := by
  refine MetFree.of_bodySF pn_rmgv4 hisR ?_
  intro p e s m args below meth c s₁ Bd hml0 hP hK
  obtain ⟨rfl, hZ, hh⟩ := hP
  have hx := Bd.exec
  have hby := Bd.bytes
  have hml : c.maxLocals = 1 := hml0
  have hown : s.vm.findClass "java/lang/AbstractStringBuilder" = some m.cls := findClass_of_methodNamed Bd.named
  have hnm := (name_of_methodNamed Bd.named Bd.method).1
  have hrt := Bd.returns
  have hlk := Bd.notSynchronized
  have X0 : Stand p l e ({ frames := 0, cells := 0, slots := 0, locals := 0 } : Room) s m #[(.ref uc)] below meth c s₁ [] 0 0 := Stand.of_body Bd
  have e0 : s₁.heap = h0 := by rw [← hh, Bd.state]; rfl
  have N0 := Fr.nil n0
  have K0 := Keep.refl h0 []
  have lt_E_uc := own_lt E_uc.lt
  have lt_V_ub := own_lt V_ub.lt
  have nl_uc_ub := own_lg (Exa.neArv E_uc V_ub (own_hw 38 hw rfl))
  refine own_done (B := s₁.setTop (mkF m 0 #[VR uc] [])) (fun t k => castTop (ef_rmgv4 m uc) k) ?_
  refine own_by (B := s₁.setTop (mkF m 1 #[VR uc] [(.ref uc)])) (fun _ k => XS.aloadN X0.here hx rfl (hb hby d25_0) rfl rfl  k) ?_
  obtain ⟨T1, X1, e1, st1⟩ := getF X0 hx hZ hown (host := "") (Or.inl (own_hw 53 hw rfl)) Via.refl e0 F_uc_value (g := (mkF m 1 #[VR uc] [(.ref uc)])) rfl rfl (hb hby d25_1)
  refine own_by (B := T1.setTop (mkF m 4 #[VR uc] [(.ref ub)])) st1 ?_
  exact own_retA X1 hx hrt rfl rfl hlk (hb hby d25_4) (by decide) (by decide) (by show own_Q_rmgv4 Z uc ub kb ux0 ux1 ux2 ux3 h0 n0 _ T1.heap _; rw [e1]; exact ⟨rfl, N0, K0⟩)

def own_Q_rmlat4 (Z : State) (uc : Nat) (ub : Nat) (kb : ClassId) (ux0 : Int32) (ux1 : Int32) (ux2 : Int32) (ux3 : Int32) (h0 : Heap) (n0 : Nat) (v : Option Value) (h : Heap) (L : List Loc) : Prop := v = some (.int 1) ∧ Fr n0 L ∧ Keep h0 h []

theorem pn_rmlat4 : plainFor (⟨"java/lang/AbstractStringBuilder", "isLatin1", "()Z"⟩ : MethodName) = true := by first | exact plainFor_of_name (by first | (simp [plainName, overriddenIn]; done) | decide +kernel) | exact Jvm.Free.JP.mathPlain rfl (by decide +kernel) | decide +kernel
theorem ef_rmlat4 (m : MethodId) (x0 : Nat) : entryFrame m #[(.ref x0)] 1 = mkF m 0 #[VR x0] [] := by first | (simp [entryFrame, mkF, argsToLocals, Value.category]; done) | rfl
set_option maxRecDepth 65536 in
set_option maxHeartbeats 40000000 in
theorem rmlat4 (l : Launch) (Z : State) (a0 : Array Value) (hw : ∀ d ∈ tables_1, d.before a0 Z = true) (ws : List Jvm.Cond) (a_INPUT_BIT a_OUTPUT_BIT a_OUTPUT_WORD a_INPUT_WORD a_MEMORY_WORD p_INPUT_BIT v_INPUT_BIT p_OUTPUT_WORD v_OUTPUT_WORD p_OUTPUT_BIT v_OUTPUT_BIT p_MEMORY_WORD v_MEMORY_WORD p_INPUT_WORD v_INPUT_WORD a_DigitOnes : Nat) (k_INPUT_BIT : ClassId) (k_OUTPUT_WORD : ClassId) (k_OUTPUT_BIT : ClassId) (k_MEMORY_WORD : ClassId) (k_INPUT_WORD : ClassId) (ucs : Int32) (uff : Value) (uc : Nat) (ub : Nat) (kb : ClassId) (ux0 : Int32) (ux1 : Int32) (ux2 : Int32) (ux3 : Int32) (h0 : Heap) (n0 : Nat) (Z0 : n0 ≤ h0.size) (O0 : Old Z n0 h0) (HW : own_W Z Z.heap a_INPUT_BIT a_OUTPUT_BIT a_OUTPUT_WORD a_INPUT_WORD a_MEMORY_WORD p_INPUT_BIT v_INPUT_BIT p_OUTPUT_WORD v_OUTPUT_WORD p_OUTPUT_BIT v_OUTPUT_BIT p_MEMORY_WORD v_MEMORY_WORD p_INPUT_WORD v_INPUT_WORD a_DigitOnes k_INPUT_BIT k_OUTPUT_WORD k_OUTPUT_BIT k_MEMORY_WORD k_INPUT_WORD ucs uff) (E_uc : Exa Z h0 uc "java/lang/StringBuilder") (F_uc_value : Fld Z h0 uc "java/lang/AbstractStringBuilder" "value" "[B" (.ref ub)) (F_uc_coder : Fld Z h0 uc "java/lang/AbstractStringBuilder" "coder" "B" (.int 0)) (F_uc_count : Fld Z h0 uc "java/lang/AbstractStringBuilder" "count" "I" (.int 4)) (V_ub : Arv Z h0 ub kb .byte (16 : Int32) [(.int ux0), (.int ux1), (.int ux2), (.int ux3), (.int 0), (.int 0), (.int 0), (.int 0), (.int 0), (.int 0), (.int 0), (.int 0), (.int 0), (.int 0), (.int 0), (.int 0)] (.int 0))   :
    MetFree l (⟨"java/lang/AbstractStringBuilder", "isLatin1", "()Z"⟩ : MethodName) (head1 (Jvm.Cond.code (⟨"java/lang/AbstractStringBuilder", "isLatin1", "()Z"⟩ : MethodName) jdk_68_method_68_code 1 (some .boolean) :: ws) ({ frames := 0, cells := 0, slots := 0, locals := 0 } : Room)) (fun a U => a = #[(.ref uc)] ∧ Z.Warmed39 U.vm ∧ U.heap = h0) (fun _ _ _ _ _ => True) (fun _ U o U' => ∃ v L, o = .returned v ∧ (own_Q_rmlat4 Z uc ub kb ux0 ux1 ux2 ux3 h0 n0) v U'.heap L ∧ FrameEnd U o U' L 0 0) := by
  refine MetFree.of_bodySF pn_rmlat4 hisR ?_
  intro p e s m args below meth c s₁ Bd hml0 hP hK
  obtain ⟨rfl, hZ, hh⟩ := hP
  have hx := Bd.exec
  have hby := Bd.bytes
  have hml : c.maxLocals = 1 := hml0
  have hown : s.vm.findClass "java/lang/AbstractStringBuilder" = some m.cls := findClass_of_methodNamed Bd.named
  have hnm := (name_of_methodNamed Bd.named Bd.method).1
  have hrt := Bd.returns
  have hlk := Bd.notSynchronized
  have X0 : Stand p l e ({ frames := 0, cells := 0, slots := 0, locals := 0 } : Room) s m #[(.ref uc)] below meth c s₁ [] 0 0 := Stand.of_body Bd
  have e0 : s₁.heap = h0 := by rw [← hh, Bd.state]; rfl
  have N0 := Fr.nil n0
  have K0 := Keep.refl h0 []
  have HW' := HW
  obtain ⟨-, -, -, -, -, -, -, -, -, -, -, -, -, -, -, -, -, -, -, -, -, -, -, -, -, -, -, -, -, -, -, -, -, -, -, -, -, -, -, -, S_CS, H_CS, -, -, -, -⟩ := HW'
  have lt_E_uc := own_lt E_uc.lt
  have lt_V_ub := own_lt V_ub.lt
  have nl_uc_ub := own_lg (Exa.neArv E_uc V_ub (own_hw 38 hw rfl))
  refine own_done (B := s₁.setTop (mkF m 0 #[VR uc] [])) (fun t k => castTop (ef_rmlat4 m uc) k) ?_
  obtain ⟨T1, X1, e1, st1⟩ := getS2 X0 hx hZ hown (host := "") (Or.inl (own_hw 50 hw rfl)) Via.refl e0 (S_CS.ext O0.2) (g := (mkF m 0 #[VR uc] [])) rfl (hb hby d20_0)
  refine own_by (B := T1.setTop (mkF m 3 #[VR uc] [(.int ucs)])) st1 ?_
  refine own_by (B := T1.setTop (mkF m 6 #[VR uc] [])) (fun _ k => XS.ifNo X1.here hx rfl (hb hby d20_3) rfl (XT.i0_eq_f H_CS) k) ?_
  refine own_by (B := T1.setTop (mkF m 7 #[VR uc] [(.ref uc)])) (fun _ k => XS.aloadN X1.here hx rfl (hb hby d20_6) rfl rfl  k) ?_
  obtain ⟨T2, X2, e2, st2⟩ := getF X1 hx hZ hown (host := "") (Or.inl (own_hw 55 hw rfl)) Via.refl e1 F_uc_coder (g := (mkF m 7 #[VR uc] [(.ref uc)])) rfl rfl (hb hby d20_7)
  refine own_by (B := T2.setTop (mkF m 10 #[VR uc] [(.int 0)])) st2 ?_
  refine own_by (B := T2.setTop (mkF m 13 #[VR uc] [])) (fun _ k => XS.ifNo X2.here hx rfl (hb hby d20_10) rfl (XT.i0_ne_f (by decide)) k) ?_
  refine own_by (B := T2.setTop (mkF m 14 #[VR uc] [(.int 1)])) (fun _ k => XS.iconst X2.here hx rfl (hb hby d20_13) k) ?_
  refine own_by (B := T2.setTop (mkF m 18 #[VR uc] [(.int 1)])) (fun _ k => XS.goto X2.here hx rfl (pc0 := 14) (pc' := 18) rfl (hb hby d20_14) (by decide) (by decide) k) ?_
  exact own_retZ X2 hx hrt hlk rfl (hb hby d20_18) (by decide) (by decide) (by show own_Q_rmlat4 Z uc ub kb ux0 ux1 ux2 ux3 h0 n0 _ T2.heap _; rw [e2]; exact ⟨rfl, N0, K0⟩)

def own_Q_rmal4 (Z : State) (uc : Nat) (ub : Nat) (kb : ClassId) (ux0 : Int32) (ux1 : Int32) (ux2 : Int32) (ux3 : Int32) (h0 : Heap) (n0 : Nat) (v : Option Value) (h : Heap) (L : List Loc) : Prop := v = some (.int 4) ∧ Fr n0 L ∧ Keep h0 h []

theorem d27_0 : decode jdk_68_method_6_code 0 = .ok (.aload_n 0, 1) := by decide +kernel
theorem d27_1 : decode jdk_68_method_6_code 1 = .ok (.getfield 79, 3) := by decide +kernel
theorem d27_4 : decode jdk_68_method_6_code 4 = .ok (.ireturn, 1) := by decide +kernel
theorem pn_rmal4 : plainFor (⟨"java/lang/AbstractStringBuilder", "length", "()I"⟩ : MethodName) = true := by first | exact plainFor_of_name (by first | (simp [plainName, overriddenIn]; done) | decide +kernel) | exact Jvm.Free.JP.mathPlain rfl (by decide +kernel) | decide +kernel
theorem ef_rmal4 (m : MethodId) (x0 : Nat) : entryFrame m #[(.ref x0)] 1 = mkF m 0 #[VR x0] [] := by first | (simp [entryFrame, mkF, argsToLocals, Value.category]; done) | rfl
set_option maxRecDepth 65536 in
set_option maxHeartbeats 40000000 in
theorem rmal4 (l : Launch) (Z : State) (a0 : Array Value) (hw : ∀ d ∈ tables_1, d.before a0 Z = true) (ws : List Jvm.Cond) (a_INPUT_BIT a_OUTPUT_BIT a_OUTPUT_WORD a_INPUT_WORD a_MEMORY_WORD p_INPUT_BIT v_INPUT_BIT p_OUTPUT_WORD v_OUTPUT_WORD p_OUTPUT_BIT v_OUTPUT_BIT p_MEMORY_WORD v_MEMORY_WORD p_INPUT_WORD v_INPUT_WORD a_DigitOnes : Nat) (k_INPUT_BIT : ClassId) (k_OUTPUT_WORD : ClassId) (k_OUTPUT_BIT : ClassId) (k_MEMORY_WORD : ClassId) (k_INPUT_WORD : ClassId) (ucs : Int32) (uff : Value) (uc : Nat) (ub : Nat) (kb : ClassId) (ux0 : Int32) (ux1 : Int32) (ux2 : Int32) (ux3 : Int32) (h0 : Heap) (n0 : Nat) (Z0 : n0 ≤ h0.size) (O0 : Old Z n0 h0) (HW : own_W Z Z.heap a_INPUT_BIT a_OUTPUT_BIT a_OUTPUT_WORD a_INPUT_WORD a_MEMORY_WORD p_INPUT_BIT v_INPUT_BIT p_OUTPUT_WORD v_OUTPUT_WORD p_OUTPUT_BIT v_OUTPUT_BIT p_MEMORY_WORD v_MEMORY_WORD p_INPUT_WORD v_INPUT_WORD a_DigitOnes k_INPUT_BIT k_OUTPUT_WORD k_OUTPUT_BIT k_MEMORY_WORD k_INPUT_WORD ucs uff) (E_uc : Exa Z h0 uc "java/lang/StringBuilder") (F_uc_value : Fld Z h0 uc "java/lang/AbstractStringBuilder" "value" "[B" (.ref ub)) (F_uc_coder : Fld Z h0 uc "java/lang/AbstractStringBuilder" "coder" "B" (.int 0)) (F_uc_count : Fld Z h0 uc "java/lang/AbstractStringBuilder" "count" "I" (.int 4)) (V_ub : Arv Z h0 ub kb .byte (16 : Int32) [(.int ux0), (.int ux1), (.int ux2), (.int ux3), (.int 0), (.int 0), (.int 0), (.int 0), (.int 0), (.int 0), (.int 0), (.int 0), (.int 0), (.int 0), (.int 0), (.int 0)] (.int 0))   :
    MetFree l (⟨"java/lang/AbstractStringBuilder", "length", "()I"⟩ : MethodName) (head1 (Jvm.Cond.code (⟨"java/lang/AbstractStringBuilder", "length", "()I"⟩ : MethodName) jdk_68_method_6_code 1 (some .int) :: ws) ({ frames := 0, cells := 0, slots := 0, locals := 0 } : Room)) (fun a U => a = #[(.ref uc)] ∧ Z.Warmed39 U.vm ∧ U.heap = h0) (fun _ _ _ _ _ => True) (fun _ U o U' => ∃ v L, o = .returned v ∧ (own_Q_rmal4 Z uc ub kb ux0 ux1 ux2 ux3 h0 n0) v U'.heap L ∧ FrameEnd U o U' L 0 0) := by
  refine MetFree.of_bodySF pn_rmal4 hisR ?_
  intro p e s m args below meth c s₁ Bd hml0 hP hK
  obtain ⟨rfl, hZ, hh⟩ := hP
  have hx := Bd.exec
  have hby := Bd.bytes
  have hml : c.maxLocals = 1 := hml0
  have hown : s.vm.findClass "java/lang/AbstractStringBuilder" = some m.cls := findClass_of_methodNamed Bd.named
  have hnm := (name_of_methodNamed Bd.named Bd.method).1
  have hrt := Bd.returns
  have hlk := Bd.notSynchronized
  have X0 : Stand p l e ({ frames := 0, cells := 0, slots := 0, locals := 0 } : Room) s m #[(.ref uc)] below meth c s₁ [] 0 0 := Stand.of_body Bd
  have e0 : s₁.heap = h0 := by rw [← hh, Bd.state]; rfl
  have N0 := Fr.nil n0
  have K0 := Keep.refl h0 []
  have lt_E_uc := own_lt E_uc.lt
  have lt_V_ub := own_lt V_ub.lt
  have nl_uc_ub := own_lg (Exa.neArv E_uc V_ub (own_hw 38 hw rfl))
  refine own_done (B := s₁.setTop (mkF m 0 #[VR uc] [])) (fun t k => castTop (ef_rmal4 m uc) k) ?_
  refine own_by (B := s₁.setTop (mkF m 1 #[VR uc] [(.ref uc)])) (fun _ k => XS.aloadN X0.here hx rfl (hb hby d27_0) rfl rfl  k) ?_
  obtain ⟨T1, X1, e1, st1⟩ := getF X0 hx hZ hown (host := "") (Or.inl (own_hw 84 hw rfl)) Via.refl e0 F_uc_count (g := (mkF m 1 #[VR uc] [(.ref uc)])) rfl rfl (hb hby d27_1)
  refine own_by (B := T1.setTop (mkF m 4 #[VR uc] [(.int 4)])) st1 ?_
  exact own_retI X1 hx hrt hlk (hb hby d27_4) (by decide) (by decide) (by show own_Q_rmal4 Z uc ub kb ux0 ux1 ux2 ux3 h0 n0 _ T1.heap _; rw [e1]; exact ⟨rfl, N0, K0⟩)

def own_Q_rmsl4 (Z : State) (uc : Nat) (ub : Nat) (kb : ClassId) (ux0 : Int32) (ux1 : Int32) (ux2 : Int32) (ux3 : Int32) (h0 : Heap) (n0 : Nat) (v : Option Value) (h : Heap) (L : List Loc) : Prop := v = some (.int 4) ∧ Fr n0 L ∧ Keep h0 h []

theorem d26_0 : decode jdk_67_method_93_code 0 = .ok (.aload_n 0, 1) := by decide +kernel
theorem d26_1 : decode jdk_67_method_93_code 1 = .ok (.invokespecial 343, 3) := by decide +kernel
theorem d26_4 : decode jdk_67_method_93_code 4 = .ok (.ireturn, 1) := by decide +kernel
theorem pd_26___I : parseMethodDescriptor "()I" = some ⟨[], some .int⟩ := by decide +kernel
theorem pn_rmsl4 : plainFor (⟨"java/lang/StringBuilder", "length", "()I"⟩ : MethodName) = true := by first | exact plainFor_of_name (by first | (simp [plainName, overriddenIn]; done) | decide +kernel) | exact Jvm.Free.JP.mathPlain rfl (by decide +kernel) | decide +kernel
theorem ef_rmsl4 (m : MethodId) (x0 : Nat) : entryFrame m #[(.ref x0)] 1 = mkF m 0 #[VR x0] [] := by first | (simp [entryFrame, mkF, argsToLocals, Value.category]; done) | rfl
set_option maxRecDepth 65536 in
set_option maxHeartbeats 40000000 in
theorem rmsl4 (l : Launch) (Z : State) (a0 : Array Value) (hw : ∀ d ∈ tables_1, d.before a0 Z = true) (ws : List Jvm.Cond) (a_INPUT_BIT a_OUTPUT_BIT a_OUTPUT_WORD a_INPUT_WORD a_MEMORY_WORD p_INPUT_BIT v_INPUT_BIT p_OUTPUT_WORD v_OUTPUT_WORD p_OUTPUT_BIT v_OUTPUT_BIT p_MEMORY_WORD v_MEMORY_WORD p_INPUT_WORD v_INPUT_WORD a_DigitOnes : Nat) (k_INPUT_BIT : ClassId) (k_OUTPUT_WORD : ClassId) (k_OUTPUT_BIT : ClassId) (k_MEMORY_WORD : ClassId) (k_INPUT_WORD : ClassId) (ucs : Int32) (uff : Value) (uc : Nat) (ub : Nat) (kb : ClassId) (ux0 : Int32) (ux1 : Int32) (ux2 : Int32) (ux3 : Int32) (h0 : Heap) (n0 : Nat) (Z0 : n0 ≤ h0.size) (O0 : Old Z n0 h0) (HW : own_W Z Z.heap a_INPUT_BIT a_OUTPUT_BIT a_OUTPUT_WORD a_INPUT_WORD a_MEMORY_WORD p_INPUT_BIT v_INPUT_BIT p_OUTPUT_WORD v_OUTPUT_WORD p_OUTPUT_BIT v_OUTPUT_BIT p_MEMORY_WORD v_MEMORY_WORD p_INPUT_WORD v_INPUT_WORD a_DigitOnes k_INPUT_BIT k_OUTPUT_WORD k_OUTPUT_BIT k_MEMORY_WORD k_INPUT_WORD ucs uff) (E_uc : Exa Z h0 uc "java/lang/StringBuilder") (F_uc_value : Fld Z h0 uc "java/lang/AbstractStringBuilder" "value" "[B" (.ref ub)) (F_uc_coder : Fld Z h0 uc "java/lang/AbstractStringBuilder" "coder" "B" (.int 0)) (F_uc_count : Fld Z h0 uc "java/lang/AbstractStringBuilder" "count" "I" (.int 4)) (V_ub : Arv Z h0 ub kb .byte (16 : Int32) [(.int ux0), (.int ux1), (.int ux2), (.int ux3), (.int 0), (.int 0), (.int 0), (.int 0), (.int 0), (.int 0), (.int 0), (.int 0), (.int 0), (.int 0), (.int 0), (.int 0)] (.int 0))   :
    MetFree l (⟨"java/lang/StringBuilder", "length", "()I"⟩ : MethodName) (head1 (Jvm.Cond.code (⟨"java/lang/StringBuilder", "length", "()I"⟩ : MethodName) jdk_67_method_93_code 1 (some .int) :: ws) ({ frames := 1, cells := 0, slots := 0, locals := 12 } : Room)) (fun a U => a = #[(.ref uc)] ∧ Z.Warmed39 U.vm ∧ U.heap = h0) (fun _ _ _ _ _ => True) (fun _ U o U' => ∃ v L, o = .returned v ∧ (own_Q_rmsl4 Z uc ub kb ux0 ux1 ux2 ux3 h0 n0) v U'.heap L ∧ FrameEnd U o U' L 0 0) := by
  refine MetFree.of_bodySF pn_rmsl4 hisR ?_
  intro p e s m args below meth c s₁ Bd hml0 hP hK
  obtain ⟨rfl, hZ, hh⟩ := hP
  have hx := Bd.exec
  have hby := Bd.bytes
  have hml : c.maxLocals = 1 := hml0
  have hown : s.vm.findClass "java/lang/StringBuilder" = some m.cls := findClass_of_methodNamed Bd.named
  have hnm := (name_of_methodNamed Bd.named Bd.method).1
  have hrt := Bd.returns
  have hlk := Bd.notSynchronized
  have X0 : Stand p l e ({ frames := 1, cells := 0, slots := 0, locals := 12 } : Room) s m #[(.ref uc)] below meth c s₁ [] 0 0 := Stand.of_body Bd
  have e0 : s₁.heap = h0 := by rw [← hh, Bd.state]; rfl
  have N0 := Fr.nil n0
  have K0 := Keep.refl h0 []
  have lt_E_uc := own_lt E_uc.lt
  have lt_V_ub := own_lt V_ub.lt
  have nl_uc_ub := own_lg (Exa.neArv E_uc V_ub (own_hw 38 hw rfl))
  refine own_done (B := s₁.setTop (mkF m 0 #[VR uc] [])) (fun t k => castTop (ef_rmsl4 m uc) k) ?_
  refine own_by (B := s₁.setTop (mkF m 1 #[VR uc] [(.ref uc)])) (fun _ k => XS.aloadN X0.here hx rfl (hb hby d26_0) rfl rfl  k) ?_
  obtain ⟨_, _, ⟨T1, L1, k1, n1⟩, -, X1, ⟨Lc1, hQ1, l1, y1, z1⟩, st1⟩ := superBack X0 hx hZ (y := (⟨"java/lang/AbstractStringBuilder", "length", "()I"⟩ : MethodName)) (K := "java/lang/StringBuilder") hown (own_hw 162 hw rfl) (own_sameM (y := (⟨"java/lang/AbstractStringBuilder", "length", "()I"⟩ : MethodName)) (w := (⟨"java/lang/AbstractStringBuilder", "isLatin1", "()Z"⟩ : MethodName)) (own_hw 157 hw rfl) (own_hw 127 hw rfl) rfl (by decide)) (own_hw 158 hw rfl) (own_hw 66 hw rfl) (by decide) (backOf (W := 0) (rmal4 l Z a0 hw [] a_INPUT_BIT a_OUTPUT_BIT a_OUTPUT_WORD a_INPUT_WORD a_MEMORY_WORD p_INPUT_BIT v_INPUT_BIT p_OUTPUT_WORD v_OUTPUT_WORD p_OUTPUT_BIT v_OUTPUT_BIT p_MEMORY_WORD v_MEMORY_WORD p_INPUT_WORD v_INPUT_WORD a_DigitOnes k_INPUT_BIT k_OUTPUT_WORD k_OUTPUT_BIT k_MEMORY_WORD k_INPUT_WORD ucs uff uc ub kb ux0 ux1 ux2 ux3 h0 n0 (own_old_le O0) O0 HW E_uc F_uc_value F_uc_coder F_uc_count V_ub) hZ (own_hw 163 hw rfl) (own_hw 47 hw rfl) (by decide) (by decide)) e0 (Ins.self E_uc) (g := (mkF m 1 #[VR uc] [(.ref uc)])) rfl (by rw [hml]; rfl) (own_hw 163 hw rfl) (argsL := []) (rest := []) (lenOf pd_26___I rfl) rfl (by show 2 * 0 + _ ≤ _; exact Nat.le_of_eq rfl) (hb hby d26_1) (fun _ _ => ⟨rfl, e0, (by decide : 0 + 0 ≤ _), (by decide : 0 + 0 ≤ _)⟩)
  dsimp only [Pt.U, Pt.locs, Pt.cells, Pt.slots] at X1 l1 y1 z1 st1 hQ1
  subst l1 y1 z1
  obtain ⟨rfl, NC1, KC1⟩ := hQ1
  refine own_by (B := T1.setTop (mkF m 4 #[VR uc] [(.int 4)])) (fun _ k => st1.trans k) ?_
  obtain ⟨h1, e1⟩ : ∃ z, T1.heap = z := ⟨_, rfl⟩
  rw [e1] at KC1
  have sz1 := KC1.1
  have O1 := O0.keep KC1 all0
  have K1 := K0.trans KC1 all0
  have N1 := Fr.app N0 NC1
  exact own_retI X1 hx hrt hlk (hb hby d26_4) (by decide) (by decide) (by show own_Q_rmsl4 Z uc ub kb ux0 ux1 ux2 ux3 h0 n0 _ T1.heap _; rw [e1]; exact ⟨rfl, N1, K1⟩)

def own_Q_rmMin4 (Z : State)  (h0 : Heap) (n0 : Nat) (v : Option Value) (h : Heap) (L : List Loc) : Prop := v = some (.int 4) ∧ Fr n0 L ∧ Keep h0 h []

theorem d31_0 : decode jdk_29_method_69_code 0 = .ok (.iload_n 0, 1) := by decide +kernel
theorem d31_1 : decode jdk_29_method_69_code 1 = .ok (.iload_n 1, 1) := by decide +kernel
theorem d31_2 : decode jdk_29_method_69_code 2 = .ok (.if_icmp .gt 7, 3) := by decide +kernel
theorem d31_9 : decode jdk_29_method_69_code 9 = .ok (.iload_n 1, 1) := by decide +kernel
theorem d31_10 : decode jdk_29_method_69_code 10 = .ok (.ireturn, 1) := by decide +kernel
theorem pn_rmMin4 : plainFor (⟨"java/lang/Math", "min", "(II)I"⟩ : MethodName) = true := by first | exact plainFor_of_name (by first | (simp [plainName, overriddenIn]; done) | decide +kernel) | exact Jvm.Free.JP.mathPlain rfl (by decide +kernel) | decide +kernel
theorem ef_rmMin4 (m : MethodId) (x0 : Int32) (x1 : Int32) : entryFrame m #[(.int x0), (.int x1)] 2 = mkF m 0 #[VI x0, VI x1] [] := by first | (simp [entryFrame, mkF, argsToLocals, Value.category]; done) | rfl
set_option maxRecDepth 65536 in
set_option maxHeartbeats 40000000 in
theorem rmMin4 (l : Launch) (Z : State) (a0 : Array Value) (hw : ∀ d ∈ tables_1, d.before a0 Z = true) (ws : List Jvm.Cond) (a_INPUT_BIT a_OUTPUT_BIT a_OUTPUT_WORD a_INPUT_WORD a_MEMORY_WORD p_INPUT_BIT v_INPUT_BIT p_OUTPUT_WORD v_OUTPUT_WORD p_OUTPUT_BIT v_OUTPUT_BIT p_MEMORY_WORD v_MEMORY_WORD p_INPUT_WORD v_INPUT_WORD a_DigitOnes : Nat) (k_INPUT_BIT : ClassId) (k_OUTPUT_WORD : ClassId) (k_OUTPUT_BIT : ClassId) (k_MEMORY_WORD : ClassId) (k_INPUT_WORD : ClassId) (ucs : Int32) (uff : Value)  (h0 : Heap) (n0 : Nat) (Z0 : n0 ≤ h0.size) (O0 : Old Z n0 h0) (HW : own_W Z Z.heap a_INPUT_BIT a_OUTPUT_BIT a_OUTPUT_WORD a_INPUT_WORD a_MEMORY_WORD p_INPUT_BIT v_INPUT_BIT p_OUTPUT_WORD v_OUTPUT_WORD p_OUTPUT_BIT v_OUTPUT_BIT p_MEMORY_WORD v_MEMORY_WORD p_INPUT_WORD v_INPUT_WORD a_DigitOnes k_INPUT_BIT k_OUTPUT_WORD k_OUTPUT_BIT k_MEMORY_WORD k_INPUT_WORD ucs uff)    :
    MetFree l (⟨"java/lang/Math", "min", "(II)I"⟩ : MethodName) (head1 (Jvm.Cond.code (⟨"java/lang/Math", "min", "(II)I"⟩ : MethodName) jdk_29_method_69_code 2 (some .int) :: ws) ({ frames := 0, cells := 0, slots := 0, locals := 0 } : Room)) (fun a U => a = #[(.int 16), (.int 4)] ∧ Z.Warmed39 U.vm ∧ U.heap = h0) (fun _ _ _ _ _ => True) (fun _ U o U' => ∃ v L, o = .returned v ∧ (own_Q_rmMin4 Z  h0 n0) v U'.heap L ∧ FrameEnd U o U' L 0 0) := by
  refine MetFree.of_bodySF pn_rmMin4 hisR ?_
  intro p e s m args below meth c s₁ Bd hml0 hP hK
  obtain ⟨rfl, hZ, hh⟩ := hP
  have hx := Bd.exec
  have hby := Bd.bytes
  have hml : c.maxLocals = 2 := hml0
  have hown : s.vm.findClass "java/lang/Math" = some m.cls := findClass_of_methodNamed Bd.named
  have hnm := (name_of_methodNamed Bd.named Bd.method).1
  have hrt := Bd.returns
  have hlk := Bd.notSynchronized
  have X0 : Stand p l e ({ frames := 0, cells := 0, slots := 0, locals := 0 } : Room) s m #[(.int 16), (.int 4)] below meth c s₁ [] 0 0 := Stand.of_body Bd
  have e0 : s₁.heap = h0 := by rw [← hh, Bd.state]; rfl
  have N0 := Fr.nil n0
  have K0 := Keep.refl h0 []
  refine own_done (B := s₁.setTop (mkF m 0 #[VI 16, VI 4] [])) (fun t k => castTop (ef_rmMin4 m (16 : Int32) (4 : Int32)) k) ?_
  refine own_by (B := s₁.setTop (mkF m 1 #[VI 16, VI 4] [(.int 16)])) (fun _ k => XS.iloadN X0.here hx rfl (hb hby d31_0) rfl  k) ?_
  refine own_by (B := s₁.setTop (mkF m 2 #[VI 16, VI 4] [(.int 4), (.int 16)])) (fun _ k => XS.iloadN X0.here hx rfl (hb hby d31_1) rfl  k) ?_
  refine own_by (B := s₁.setTop (mkF m 9 #[VI 16, VI 4] [])) (fun _ k => XS.icmpYes X0.here hx rfl (pc0 := 2) (pc' := 9) rfl (hb hby d31_2) rfl (XT.ii_gt_t (by decide)) (by decide) (by decide) k) ?_
  refine own_by (B := s₁.setTop (mkF m 10 #[VI 16, VI 4] [(.int 4)])) (fun _ k => XS.iloadN X0.here hx rfl (hb hby d31_9) rfl  k) ?_
  exact own_retI X0 hx hrt hlk (hb hby d31_10) (by decide) (by decide) (by show own_Q_rmMin4 Z  h0 n0 _ s₁.heap _; rw [e0]; exact ⟨rfl, N0, K0⟩)

def own_Q_rmChk4 (Z : State)  (h0 : Heap) (n0 : Nat) (v : Option Value) (h : Heap) (L : List Loc) : Prop := v = none ∧ Fr n0 L ∧ Keep h0 h []

theorem d30_0 : decode jdk_65_method_131_code 0 = .ok (.iload_n 1, 1) := by decide +kernel
theorem d30_1 : decode jdk_65_method_131_code 1 = .ok (.iload_n 0, 1) := by decide +kernel
theorem d30_2 : decode jdk_65_method_131_code 2 = .ok (.if_icmp .ge 35, 3) := by decide +kernel
theorem d30_37 : decode jdk_65_method_131_code 37 = .ok (.return_, 1) := by decide +kernel
theorem pn_rmChk4 : plainFor (⟨"java/util/Arrays", "checkLength", "(II)V"⟩ : MethodName) = true := by first | exact plainFor_of_name (by first | (simp [plainName, overriddenIn]; done) | decide +kernel) | exact Jvm.Free.JP.mathPlain rfl (by decide +kernel) | decide +kernel
theorem ef_rmChk4 (m : MethodId) (x0 : Int32) (x1 : Int32) : entryFrame m #[(.int x0), (.int x1)] 2 = mkF m 0 #[VI x0, VI x1] [] := by first | (simp [entryFrame, mkF, argsToLocals, Value.category]; done) | rfl
set_option maxRecDepth 65536 in
set_option maxHeartbeats 40000000 in
theorem rmChk4 (l : Launch) (Z : State) (a0 : Array Value) (hw : ∀ d ∈ tables_1, d.before a0 Z = true) (ws : List Jvm.Cond) (a_INPUT_BIT a_OUTPUT_BIT a_OUTPUT_WORD a_INPUT_WORD a_MEMORY_WORD p_INPUT_BIT v_INPUT_BIT p_OUTPUT_WORD v_OUTPUT_WORD p_OUTPUT_BIT v_OUTPUT_BIT p_MEMORY_WORD v_MEMORY_WORD p_INPUT_WORD v_INPUT_WORD a_DigitOnes : Nat) (k_INPUT_BIT : ClassId) (k_OUTPUT_WORD : ClassId) (k_OUTPUT_BIT : ClassId) (k_MEMORY_WORD : ClassId) (k_INPUT_WORD : ClassId) (ucs : Int32) (uff : Value)  (h0 : Heap) (n0 : Nat) (Z0 : n0 ≤ h0.size) (O0 : Old Z n0 h0) (HW : own_W Z Z.heap a_INPUT_BIT a_OUTPUT_BIT a_OUTPUT_WORD a_INPUT_WORD a_MEMORY_WORD p_INPUT_BIT v_INPUT_BIT p_OUTPUT_WORD v_OUTPUT_WORD p_OUTPUT_BIT v_OUTPUT_BIT p_MEMORY_WORD v_MEMORY_WORD p_INPUT_WORD v_INPUT_WORD a_DigitOnes k_INPUT_BIT k_OUTPUT_WORD k_OUTPUT_BIT k_MEMORY_WORD k_INPUT_WORD ucs uff)    :
    MetFree l (⟨"java/util/Arrays", "checkLength", "(II)V"⟩ : MethodName) (head1 (Jvm.Cond.code (⟨"java/util/Arrays", "checkLength", "(II)V"⟩ : MethodName) jdk_65_method_131_code 2 none :: ws) ({ frames := 0, cells := 0, slots := 0, locals := 0 } : Room)) (fun a U => a = #[(.int 0), (.int 4)] ∧ Z.Warmed39 U.vm ∧ U.heap = h0) (fun _ _ _ _ _ => True) (fun _ U o U' => ∃ v L, o = .returned v ∧ (own_Q_rmChk4 Z  h0 n0) v U'.heap L ∧ FrameEnd U o U' L 0 0) := by
  refine MetFree.of_bodySF pn_rmChk4 hisR ?_
  intro p e s m args below meth c s₁ Bd hml0 hP hK
  obtain ⟨rfl, hZ, hh⟩ := hP
  have hx := Bd.exec
  have hby := Bd.bytes
  have hml : c.maxLocals = 2 := hml0
  have hown : s.vm.findClass "java/util/Arrays" = some m.cls := findClass_of_methodNamed Bd.named
  have hnm := (name_of_methodNamed Bd.named Bd.method).1
  have hrt := Bd.returns
  have hlk := Bd.notSynchronized
  have X0 : Stand p l e ({ frames := 0, cells := 0, slots := 0, locals := 0 } : Room) s m #[(.int 0), (.int 4)] below meth c s₁ [] 0 0 := Stand.of_body Bd
  have e0 : s₁.heap = h0 := by rw [← hh, Bd.state]; rfl
  have N0 := Fr.nil n0
  have K0 := Keep.refl h0 []
  refine own_done (B := s₁.setTop (mkF m 0 #[VI 0, VI 4] [])) (fun t k => castTop (ef_rmChk4 m (0 : Int32) (4 : Int32)) k) ?_
  refine own_by (B := s₁.setTop (mkF m 1 #[VI 0, VI 4] [(.int 4)])) (fun _ k => XS.iloadN X0.here hx rfl (hb hby d30_0) rfl  k) ?_
  refine own_by (B := s₁.setTop (mkF m 2 #[VI 0, VI 4] [(.int 0), (.int 4)])) (fun _ k => XS.iloadN X0.here hx rfl (hb hby d30_1) rfl  k) ?_
  refine own_by (B := s₁.setTop (mkF m 37 #[VI 0, VI 4] [])) (fun _ k => XS.icmpYes X0.here hx rfl (pc0 := 2) (pc' := 37) rfl (hb hby d30_2) rfl (XT.ii_ge_t (by decide)) (by decide) (by decide) k) ?_
  exact own_retV X0 hx hrt hlk (hb hby d30_37) (by decide) (by decide) (by show own_Q_rmChk4 Z  h0 n0 _ s₁.heap _; rw [e0]; exact ⟨rfl, N0, K0⟩)

def own_Q_rmCrb4 (Z : State) (ub : Nat) (kb : ClassId) (ux0 : Int32) (ux1 : Int32) (ux2 : Int32) (ux3 : Int32) (h0 : Heap) (n0 : Nat) (v : Option Value) (h : Heap) (L : List Loc) : Prop := ∃ (r0_ : Nat) (kr0_ : ClassId), v = some (.ref r0_) ∧ Fr n0 L ∧ Keep h0 h [] ∧ h0.size ≤ r0_ ∧ Arv Z h r0_ kr0_ .byte (4 : Int32) [(.int ux0), (.int ux1), (.int ux2), (.int ux3)] (.int 0)

theorem d29_0 : decode jdk_65_method_133_code 0 = .ok (.iload_n 1, 1) := by decide +kernel
theorem d29_1 : decode jdk_65_method_133_code 1 = .ok (.iload_n 2, 1) := by decide +kernel
theorem d29_2 : decode jdk_65_method_133_code 2 = .ok (.invokestatic 343, 3) := by decide +kernel
theorem d29_5 : decode jdk_65_method_133_code 5 = .ok (.iload_n 2, 1) := by decide +kernel
theorem d29_6 : decode jdk_65_method_133_code 6 = .ok (.iload_n 1, 1) := by decide +kernel
theorem d29_7 : decode jdk_65_method_133_code 7 = .ok (.isub, 1) := by decide +kernel
theorem d29_8 : decode jdk_65_method_133_code 8 = .ok (.istore_n 3, 1) := by decide +kernel
theorem d29_9 : decode jdk_65_method_133_code 9 = .ok (.iload_n 3, 1) := by decide +kernel
theorem d29_10 : decode jdk_65_method_133_code 10 = .ok (.newarray .byte, 2) := by decide +kernel
theorem d29_12 : decode jdk_65_method_133_code 12 = .ok (.astore 4, 2) := by decide +kernel
theorem d29_14 : decode jdk_65_method_133_code 14 = .ok (.aload_n 0, 1) := by decide +kernel
theorem d29_15 : decode jdk_65_method_133_code 15 = .ok (.iload_n 1, 1) := by decide +kernel
theorem d29_16 : decode jdk_65_method_133_code 16 = .ok (.aload 4, 2) := by decide +kernel
theorem d29_18 : decode jdk_65_method_133_code 18 = .ok (.iconst 0, 1) := by decide +kernel
theorem d29_19 : decode jdk_65_method_133_code 19 = .ok (.aload_n 0, 1) := by decide +kernel
theorem d29_20 : decode jdk_65_method_133_code 20 = .ok (.arraylength, 1) := by decide +kernel
theorem d29_21 : decode jdk_65_method_133_code 21 = .ok (.iload_n 1, 1) := by decide +kernel
theorem d29_22 : decode jdk_65_method_133_code 22 = .ok (.isub, 1) := by decide +kernel
theorem d29_23 : decode jdk_65_method_133_code 23 = .ok (.iload_n 3, 1) := by decide +kernel
theorem d29_24 : decode jdk_65_method_133_code 24 = .ok (.invokestatic 304, 3) := by decide +kernel
theorem d29_27 : decode jdk_65_method_133_code 27 = .ok (.invokestatic 150, 3) := by decide +kernel
theorem d29_30 : decode jdk_65_method_133_code 30 = .ok (.aload 4, 2) := by decide +kernel
theorem d29_32 : decode jdk_65_method_133_code 32 = .ok (.areturn, 1) := by decide +kernel
theorem pd_29__II_V : parseMethodDescriptor "(II)V" = some ⟨[.int, .int], none⟩ := by decide +kernel
theorem pd_29__II_I : parseMethodDescriptor "(II)I" = some ⟨[.int, .int], some .int⟩ := by decide +kernel
theorem pn_rmCrb4 : plainFor (⟨"java/util/Arrays", "copyOfRangeByte", "([BII)[B"⟩ : MethodName) = true := by first | exact plainFor_of_name (by first | (simp [plainName, overriddenIn]; done) | decide +kernel) | exact Jvm.Free.JP.mathPlain rfl (by decide +kernel) | decide +kernel
theorem ef_rmCrb4 (m : MethodId) (x0 : Nat) (x1 : Int32) (x2 : Int32) : entryFrame m #[(.ref x0), (.int x1), (.int x2)] 5 = mkF m 0 #[VR x0, VI x1, VI x2, UU, UU] [] := by first | (simp [entryFrame, mkF, argsToLocals, Value.category]; done) | rfl
set_option maxRecDepth 65536 in
set_option maxHeartbeats 40000000 in
theorem rmCrb4 (l : Launch) (Z : State) (a0 : Array Value) (hw : ∀ d ∈ tables_1, d.before a0 Z = true) (ws : List Jvm.Cond) (a_INPUT_BIT a_OUTPUT_BIT a_OUTPUT_WORD a_INPUT_WORD a_MEMORY_WORD p_INPUT_BIT v_INPUT_BIT p_OUTPUT_WORD v_OUTPUT_WORD p_OUTPUT_BIT v_OUTPUT_BIT p_MEMORY_WORD v_MEMORY_WORD p_INPUT_WORD v_INPUT_WORD a_DigitOnes : Nat) (k_INPUT_BIT : ClassId) (k_OUTPUT_WORD : ClassId) (k_OUTPUT_BIT : ClassId) (k_MEMORY_WORD : ClassId) (k_INPUT_WORD : ClassId) (ucs : Int32) (uff : Value) (ub : Nat) (kb : ClassId) (ux0 : Int32) (ux1 : Int32) (ux2 : Int32) (ux3 : Int32) (h0 : Heap) (n0 : Nat) (Z0 : n0 ≤ h0.size) (O0 : Old Z n0 h0) (HW : own_W Z Z.heap a_INPUT_BIT a_OUTPUT_BIT a_OUTPUT_WORD a_INPUT_WORD a_MEMORY_WORD p_INPUT_BIT v_INPUT_BIT p_OUTPUT_WORD v_OUTPUT_WORD p_OUTPUT_BIT v_OUTPUT_BIT p_MEMORY_WORD v_MEMORY_WORD p_INPUT_WORD v_INPUT_WORD a_DigitOnes k_INPUT_BIT k_OUTPUT_WORD k_OUTPUT_BIT k_MEMORY_WORD k_INPUT_WORD ucs uff) (V_ub : Arv Z h0 ub kb .byte (16 : Int32) [(.int ux0), (.int ux1), (.int ux2), (.int ux3), (.int 0), (.int 0), (.int 0), (.int 0), (.int 0), (.int 0), (.int 0), (.int 0), (.int 0), (.int 0), (.int 0), (.int 0)] (.int 0))   :
    MetFree l (⟨"java/util/Arrays", "copyOfRangeByte", "([BII)[B"⟩ : MethodName) (head1 (Jvm.Cond.code (⟨"java/util/Arrays", "copyOfRangeByte", "([BII)[B"⟩ : MethodName) jdk_65_method_133_code 5 (some (.array .byte)) :: ws) ({ frames := 1, cells := 1, slots := 4, locals := 51 } : Room)) (fun a U => a = #[(.ref ub), (.int 0), (.int 4)] ∧ Z.Warmed39 U.vm ∧ U.heap = h0) (fun _ _ _ _ _ => True) (fun _ U o U' => ∃ v L, o = .returned v ∧ (own_Q_rmCrb4 Z ub kb ux0 ux1 ux2 ux3 h0 n0) v U'.heap L ∧ FrameEnd U o U' L 1 4) := by
  refine MetFree.of_bodySF pn_rmCrb4 hisR ?_
  intro p e s m args below meth c s₁ Bd hml0 hP hK
  obtain ⟨rfl, hZ, hh⟩ := hP
  have hx := Bd.exec
  have hby := Bd.bytes
  have hml : c.maxLocals = 5 := hml0
  have hown : s.vm.findClass "java/util/Arrays" = some m.cls := findClass_of_methodNamed Bd.named
  have hnm := (name_of_methodNamed Bd.named Bd.method).1
  have hrt := Bd.returns
  have hlk := Bd.notSynchronized
  have X0 : Stand p l e ({ frames := 1, cells := 1, slots := 4, locals := 51 } : Room) s m #[(.ref ub), (.int 0), (.int 4)] below meth c s₁ [] 0 0 := Stand.of_body Bd
  have e0 : s₁.heap = h0 := by rw [← hh, Bd.state]; rfl
  have N0 := Fr.nil n0
  have K0 := Keep.refl h0 []
  have lt_V_ub := own_lt V_ub.lt
  refine own_done (B := s₁.setTop (mkF m 0 #[VR ub, VI 0, VI 4, UU, UU] [])) (fun t k => castTop (ef_rmCrb4 m ub (0 : Int32) (4 : Int32)) k) ?_
  refine own_by (B := s₁.setTop (mkF m 1 #[VR ub, VI 0, VI 4, UU, UU] [(.int 0)])) (fun _ k => XS.iloadN X0.here hx rfl (hb hby d29_0) rfl  k) ?_
  refine own_by (B := s₁.setTop (mkF m 2 #[VR ub, VI 0, VI 4, UU, UU] [(.int 4), (.int 0)])) (fun _ k => XS.iloadN X0.here hx rfl (hb hby d29_1) rfl  k) ?_
  obtain ⟨_, _, ⟨T1, L1, k1, n1⟩, -, X1, ⟨Lc1, hQ1, l1, y1, z1⟩, st1⟩ := Jvm.LawKit.callS X0 hx (y := (⟨"java/util/Arrays", "checkLength", "(II)V"⟩ : MethodName)) hown (mvT hZ (own_hw 172 hw rfl)) (mvT hZ (own_hw 173 hw rfl)) (mvT hZ (own_hw 167 hw rfl)) (mvT hZ (own_hw 174 hw rfl)) (by decide) (backOf (W := 0) (rmChk4 l Z a0 hw [] a_INPUT_BIT a_OUTPUT_BIT a_OUTPUT_WORD a_INPUT_WORD a_MEMORY_WORD p_INPUT_BIT v_INPUT_BIT p_OUTPUT_WORD v_OUTPUT_WORD p_OUTPUT_BIT v_OUTPUT_BIT p_MEMORY_WORD v_MEMORY_WORD p_INPUT_WORD v_INPUT_WORD a_DigitOnes k_INPUT_BIT k_OUTPUT_WORD k_OUTPUT_BIT k_MEMORY_WORD k_INPUT_WORD ucs uff  h0 n0 (own_old_le O0) O0 HW ) hZ (own_hw 174 hw rfl) (own_hw 167 hw rfl) (by decide) (by decide)) (g := (mkF m 2 #[VR ub, VI 0, VI 4, UU, UU] [(.int 4), (.int 0)])) rfl (by rw [hml]; rfl) (argsL := [(.int 0), (.int 4)]) (rest := []) (lenOf pd_29__II_V rfl) rfl (by show 2 * 0 + _ ≤ _; exact Nat.le_of_eq rfl) (hb hby d29_2) (fun _ _ => ⟨rfl, e0, (by decide : 0 + 0 ≤ _), (by decide : 0 + 0 ≤ _)⟩)
  dsimp only [Pt.U, Pt.locs, Pt.cells, Pt.slots] at X1 l1 y1 z1 st1 hQ1
  subst l1 y1 z1
  obtain ⟨rfl, NC1, KC1⟩ := hQ1
  refine own_by (B := T1.setTop (mkF m 5 #[VR ub, VI 0, VI 4, UU, UU] [])) st1 ?_
  obtain ⟨h1, e1⟩ : ∃ z, T1.heap = z := ⟨_, rfl⟩
  rw [e1] at KC1
  have sz1 := KC1.1
  have O1 := O0.keep KC1 all0
  have K1 := K0.trans KC1 all0
  have N1 := Fr.app N0 NC1
  refine own_by (B := T1.setTop (mkF m 6 #[VR ub, VI 0, VI 4, UU, UU] [(.int 4)])) (fun _ k => XS.iloadN X1.here hx rfl (hb hby d29_5) rfl  k) ?_
  refine own_by (B := T1.setTop (mkF m 7 #[VR ub, VI 0, VI 4, UU, UU] [(.int 0), (.int 4)])) (fun _ k => XS.iloadN X1.here hx rfl (hb hby d29_6) rfl  k) ?_
  refine own_by (B := T1.setTop (mkF m 8 #[VR ub, VI 0, VI 4, UU, UU] [(.int 4)])) (fun _ k => XS.isub X1.here hx rfl (hb hby d29_7) rfl k) ?_
  refine own_by (B := T1.setTop (mkF m 9 #[VR ub, VI 0, VI 4, VI 4, UU] [])) (fun _ k => XS.istoreN X1.here hx rfl (hb hby d29_8) rfl (l' := #[VR ub, VI 0, VI 4, VI 4, UU]) rfl k) ?_
  refine own_by (B := T1.setTop (mkF m 10 #[VR ub, VI 0, VI 4, VI 4, UU] [(.int 4)])) (fun _ k => XS.iloadN X1.here hx rfl (hb hby d29_9) rfl  k) ?_
  obtain ⟨T2, h2, ka2, X2, e2, E2, A2, st2⟩ := newP X1 hx hZ (own_hw 52 hw rfl) e1 (g := (mkF m 10 #[VR ub, VI 0, VI 4, VI 4, UU] [(.int 4)])) rfl (hb hby d29_10) rfl (by decide) (cap := 4) (by decide) (by decide) (by decide) (by decide)
  obtain ⟨b2, g2⟩ : ∃ z, z = h1.size := ⟨_, rfl⟩
  rw [← g2] at A2 st2
  have sz2 := E2.1
  have gn2 : n0 ≤ b2 := g2 ▸ own_old_le O1
  have fz2 : h0.size ≤ b2 := g2 ▸ K1.1
  have lt2 := own_lt A2.lt
  have O2 := O1.ext E2
  have K2 := K1.ext E2
  have V2 : Arv Z h2 b2 ka2 .byte (4 : Int32) [(.int 0), (.int 0), (.int 0), (.int 0)] (.int 0) := (Arv.new A2 (by decide)).pad (pad_rep [] (.int 0) 4)
  refine own_by (B := T2.setTop (mkF m 12 #[VR ub, VI 0, VI 4, VI 4, UU] [(.ref b2)])) st2 ?_
  refine own_by (B := T2.setTop (mkF m 14 #[VR ub, VI 0, VI 4, VI 4, VR b2] [])) (fun _ k => XS.astore X2.here hx rfl (hb hby d29_12) rfl rfl (l' := #[VR ub, VI 0, VI 4, VI 4, VR b2]) rfl k) ?_
  refine own_by (B := T2.setTop (mkF m 15 #[VR ub, VI 0, VI 4, VI 4, VR b2] [(.ref ub)])) (fun _ k => XS.aloadN X2.here hx rfl (hb hby d29_14) rfl rfl  k) ?_
  refine own_by (B := T2.setTop (mkF m 16 #[VR ub, VI 0, VI 4, VI 4, VR b2] [(.int 0), (.ref ub)])) (fun _ k => XS.iloadN X2.here hx rfl (hb hby d29_15) rfl  k) ?_
  refine own_by (B := T2.setTop (mkF m 18 #[VR ub, VI 0, VI 4, VI 4, VR b2] [(.ref b2), (.int 0), (.ref ub)])) (fun _ k => XS.aload X2.here hx rfl (hb hby d29_16) rfl rfl  k) ?_
  refine own_by (B := T2.setTop (mkF m 19 #[VR ub, VI 0, VI 4, VI 4, VR b2] [(.int 0), (.ref b2), (.int 0), (.ref ub)])) (fun _ k => XS.iconst X2.here hx rfl (hb hby d29_18) k) ?_
  refine own_by (B := T2.setTop (mkF m 20 #[VR ub, VI 0, VI 4, VI 4, VR b2] [(.ref ub), (.int 0), (.ref b2), (.int 0), (.ref ub)])) (fun _ k => XS.aloadN X2.here hx rfl (hb hby d29_19) rfl rfl  k) ?_
  have c3 := ((V_ub.keep KC1 nin0).ext E2)
  obtain ⟨cl4, Ar4, qq4, Sz4, Nn4, Hh4, Gg4⟩ := id (c3)
  refine own_by (B := T2.setTop (mkF m 21 #[VR ub, VI 0, VI 4, VI 4, VR b2] [(.int 16), (.int 0), (.ref b2), (.int 0), (.ref ub)])) (fun t k => X2.arraylength hx (by rw [e2]; exact Ar4.1) (State.isArrayOf_alike hZ.alike Ar4.2.1) (g := (mkF m 20 #[VR ub, VI 0, VI 4, VI 4, VR b2] [(.ref ub), (.int 0), (.ref b2), (.int 0), (.ref ub)])) rfl rfl (hb hby d29_20) t (by rw [len_of Sz4 Nn4]; exact k)) ?_
  refine own_by (B := T2.setTop (mkF m 22 #[VR ub, VI 0, VI 4, VI 4, VR b2] [(.int 0), (.int 16), (.int 0), (.ref b2), (.int 0), (.ref ub)])) (fun _ k => XS.iloadN X2.here hx rfl (hb hby d29_21) rfl  k) ?_
  refine own_by (B := T2.setTop (mkF m 23 #[VR ub, VI 0, VI 4, VI 4, VR b2] [(.int 16), (.int 0), (.ref b2), (.int 0), (.ref ub)])) (fun _ k => XS.isub X2.here hx rfl (hb hby d29_22) rfl k) ?_
  refine own_by (B := T2.setTop (mkF m 24 #[VR ub, VI 0, VI 4, VI 4, VR b2] [(.int 4), (.int 16), (.int 0), (.ref b2), (.int 0), (.ref ub)])) (fun _ k => XS.iloadN X2.here hx rfl (hb hby d29_23) rfl  k) ?_
  obtain ⟨_, _, ⟨T5, L5, k5, n5⟩, -, X5, ⟨Lc5, hQ5, l5, y5, z5⟩, st5⟩ := Jvm.LawKit.callS X2 hx (y := (⟨"java/lang/Math", "min", "(II)I"⟩ : MethodName)) hown (mvT hZ (own_hw 175 hw rfl)) (mvT hZ (own_hw 176 hw rfl)) (mvT hZ (own_hw 177 hw rfl)) (mvT hZ (own_hw 178 hw rfl)) (by decide) (backOf (W := 4) (rmMin4 l Z a0 hw [] a_INPUT_BIT a_OUTPUT_BIT a_OUTPUT_WORD a_INPUT_WORD a_MEMORY_WORD p_INPUT_BIT v_INPUT_BIT p_OUTPUT_WORD v_OUTPUT_WORD p_OUTPUT_BIT v_OUTPUT_BIT p_MEMORY_WORD v_MEMORY_WORD p_INPUT_WORD v_INPUT_WORD a_DigitOnes k_INPUT_BIT k_OUTPUT_WORD k_OUTPUT_BIT k_MEMORY_WORD k_INPUT_WORD ucs uff  h2 n0 (own_old_le O2) O2 HW ) hZ (own_hw 178 hw rfl) (own_hw 177 hw rfl) (by decide) (by decide)) (g := (mkF m 24 #[VR ub, VI 0, VI 4, VI 4, VR b2] [(.int 4), (.int 16), (.int 0), (.ref b2), (.int 0), (.ref ub)])) rfl (by rw [hml]; rfl) (argsL := [(.int 16), (.int 4)]) (rest := [(.int 0), (.ref b2), (.int 0), (.ref ub)]) (lenOf pd_29__II_I rfl) rfl (by show 2 * 0 + _ ≤ _; exact Nat.le_of_eq rfl) (hb hby d29_24) (fun _ _ => ⟨rfl, e2, (by decide : 1 + 0 ≤ _), (by decide : 4 + 0 ≤ _)⟩)
  dsimp only [Pt.U, Pt.locs, Pt.cells, Pt.slots] at X5 l5 y5 z5 st5 hQ5
  subst l5 y5 z5
  obtain ⟨rfl, NC5, KC5⟩ := hQ5
  refine own_by (B := T5.setTop (mkF m 27 #[VR ub, VI 0, VI 4, VI 4, VR b2] [(.int 4), (.int 0), (.ref b2), (.int 0), (.ref ub)])) st5 ?_
  obtain ⟨h5, e5⟩ : ∃ z, T5.heap = z := ⟨_, rfl⟩
  rw [e5] at KC5
  have sz5 := KC5.1
  have O5 := O2.keep KC5 all0
  have K5 := K2.trans KC5 all0
  have N5 := Fr.app N1 NC5
  have c7 := (c3.keep KC5 nin0)
  have c8 := (V2.keep KC5 nin0)
  obtain ⟨T6, h6, L6, X6, e6, NC6, KC6, VC6, st6⟩ := cpA X5 hx hZ hown (own_hw 179 hw rfl) (own_hw 110 hw rfl) (own_hw 108 hw rfl) (own_hw 109 hw rfl) e5 c7 c8 (us := [(.int ux0), (.int ux1), (.int ux2), (.int ux3)]) (Or.inl ⟨rfl, rfl⟩) (by decide) (by decide) (by decide) (by decide) (by decide) rfl (Nat.le_of_ble_eq_true rfl) N5 gn2 (g := (mkF m 27 #[VR ub, VI 0, VI 4, VI 4, VR b2] [(.int 4), (.int 0), (.ref b2), (.int 0), (.ref ub)])) rfl (by rw [hml]; rfl) (rest := []) rfl (hb hby d29_27) (by decide) (W := 0) (by show 2 * 0 + _ ≤ _; exact Nat.le_of_eq rfl) (by decide)
  have V6 : Arv Z h6 b2 ka2 .byte (4 : Int32) [(.int ux0), (.int ux1), (.int ux2), (.int ux3)] (.int 0) := VC6
  have sz6 := KC6.1
  have O6 := O5.keep KC6 (allS gn2 all0)
  have K6 := K5.trans KC6 (allS (Or.inr fz2) all0)
  refine own_by (B := T6.setTop (mkF m 30 #[VR ub, VI 0, VI 4, VI 4, VR b2] [])) st6 ?_
  refine own_by (B := T6.setTop (mkF m 32 #[VR ub, VI 0, VI 4, VI 4, VR b2] [(.ref b2)])) (fun _ k => XS.aload X6.here hx rfl (hb hby d29_30) rfl rfl  k) ?_
  exact own_retA X6 hx hrt rfl rfl hlk (hb hby d29_32) (by decide) (by decide) (by show own_Q_rmCrb4 Z ub kb ux0 ux1 ux2 ux3 h0 n0 _ T6.heap _; rw [e6]; exact ⟨b2, ka2, rfl, NC6, K6, fz2, V6⟩)

def own_Q_rmCr4 (Z : State) (ub : Nat) (kb : ClassId) (ux0 : Int32) (ux1 : Int32) (ux2 : Int32) (ux3 : Int32) (h0 : Heap) (n0 : Nat) (v : Option Value) (h : Heap) (L : List Loc) : Prop := ∃ (r0_ : Nat) (kr0_ : ClassId), v = some (.ref r0_) ∧ Fr n0 L ∧ Keep h0 h [] ∧ h0.size ≤ r0_ ∧ Arv Z h r0_ kr0_ .byte (4 : Int32) [(.int ux0), (.int ux1), (.int ux2), (.int ux3)] (.int 0)

theorem d28_0 : decode jdk_65_method_132_code 0 = .ok (.iload_n 1, 1) := by decide +kernel
theorem d28_1 : decode jdk_65_method_132_code 1 = .ok (.ifCond .ne 9, 3) := by decide +kernel
theorem d28_4 : decode jdk_65_method_132_code 4 = .ok (.iload_n 2, 1) := by decide +kernel
theorem d28_5 : decode jdk_65_method_132_code 5 = .ok (.aload_n 0, 1) := by decide +kernel
theorem d28_6 : decode jdk_65_method_132_code 6 = .ok (.arraylength, 1) := by decide +kernel
theorem d28_7 : decode jdk_65_method_132_code 7 = .ok (.if_icmp .eq 10, 3) := by decide +kernel
theorem d28_10 : decode jdk_65_method_132_code 10 = .ok (.aload_n 0, 1) := by decide +kernel
theorem d28_11 : decode jdk_65_method_132_code 11 = .ok (.iload_n 1, 1) := by decide +kernel
theorem d28_12 : decode jdk_65_method_132_code 12 = .ok (.iload_n 2, 1) := by decide +kernel
theorem d28_13 : decode jdk_65_method_132_code 13 = .ok (.invokestatic 339, 3) := by decide +kernel
theorem d28_16 : decode jdk_65_method_132_code 16 = .ok (.areturn, 1) := by decide +kernel
theorem pd_28___BII__B : parseMethodDescriptor "([BII)[B" = some ⟨[(.array .byte), .int, .int], some (.array .byte)⟩ := by decide +kernel
theorem pn_rmCr4 : plainFor (⟨"java/util/Arrays", "copyOfRange", "([BII)[B"⟩ : MethodName) = true := by first | exact plainFor_of_name (by first | (simp [plainName, overriddenIn]; done) | decide +kernel) | exact Jvm.Free.JP.mathPlain rfl (by decide +kernel) | decide +kernel
theorem ef_rmCr4 (m : MethodId) (x0 : Nat) (x1 : Int32) (x2 : Int32) : entryFrame m #[(.ref x0), (.int x1), (.int x2)] 3 = mkF m 0 #[VR x0, VI x1, VI x2] [] := by first | (simp [entryFrame, mkF, argsToLocals, Value.category]; done) | rfl
set_option maxRecDepth 65536 in
set_option maxHeartbeats 40000000 in
theorem rmCr4 (l : Launch) (Z : State) (a0 : Array Value) (hw : ∀ d ∈ tables_1, d.before a0 Z = true) (ws : List Jvm.Cond) (a_INPUT_BIT a_OUTPUT_BIT a_OUTPUT_WORD a_INPUT_WORD a_MEMORY_WORD p_INPUT_BIT v_INPUT_BIT p_OUTPUT_WORD v_OUTPUT_WORD p_OUTPUT_BIT v_OUTPUT_BIT p_MEMORY_WORD v_MEMORY_WORD p_INPUT_WORD v_INPUT_WORD a_DigitOnes : Nat) (k_INPUT_BIT : ClassId) (k_OUTPUT_WORD : ClassId) (k_OUTPUT_BIT : ClassId) (k_MEMORY_WORD : ClassId) (k_INPUT_WORD : ClassId) (ucs : Int32) (uff : Value) (ub : Nat) (kb : ClassId) (ux0 : Int32) (ux1 : Int32) (ux2 : Int32) (ux3 : Int32) (h0 : Heap) (n0 : Nat) (Z0 : n0 ≤ h0.size) (O0 : Old Z n0 h0) (HW : own_W Z Z.heap a_INPUT_BIT a_OUTPUT_BIT a_OUTPUT_WORD a_INPUT_WORD a_MEMORY_WORD p_INPUT_BIT v_INPUT_BIT p_OUTPUT_WORD v_OUTPUT_WORD p_OUTPUT_BIT v_OUTPUT_BIT p_MEMORY_WORD v_MEMORY_WORD p_INPUT_WORD v_INPUT_WORD a_DigitOnes k_INPUT_BIT k_OUTPUT_WORD k_OUTPUT_BIT k_MEMORY_WORD k_INPUT_WORD ucs uff) (V_ub : Arv Z h0 ub kb .byte (16 : Int32) [(.int ux0), (.int ux1), (.int ux2), (.int ux3), (.int 0), (.int 0), (.int 0), (.int 0), (.int 0), (.int 0), (.int 0), (.int 0), (.int 0), (.int 0), (.int 0), (.int 0)] (.int 0))   :
    MetFree l (⟨"java/util/Arrays", "copyOfRange", "([BII)[B"⟩ : MethodName) (head1 (Jvm.Cond.code (⟨"java/util/Arrays", "copyOfRange", "([BII)[B"⟩ : MethodName) jdk_65_method_132_code 3 (some (.array .byte)) :: ws) ({ frames := 2, cells := 1, slots := 4, locals := 67 } : Room)) (fun a U => a = #[(.ref ub), (.int 0), (.int 4)] ∧ Z.Warmed39 U.vm ∧ U.heap = h0) (fun _ _ _ _ _ => True) (fun _ U o U' => ∃ v L, o = .returned v ∧ (own_Q_rmCr4 Z ub kb ux0 ux1 ux2 ux3 h0 n0) v U'.heap L ∧ FrameEnd U o U' L 1 4) := by
  refine MetFree.of_bodySF pn_rmCr4 hisR ?_
  intro p e s m args below meth c s₁ Bd hml0 hP hK
  obtain ⟨rfl, hZ, hh⟩ := hP
  have hx := Bd.exec
  have hby := Bd.bytes
  have hml : c.maxLocals = 3 := hml0
  have hown : s.vm.findClass "java/util/Arrays" = some m.cls := findClass_of_methodNamed Bd.named
  have hnm := (name_of_methodNamed Bd.named Bd.method).1
  have hrt := Bd.returns
  have hlk := Bd.notSynchronized
  have X0 : Stand p l e ({ frames := 2, cells := 1, slots := 4, locals := 67 } : Room) s m #[(.ref ub), (.int 0), (.int 4)] below meth c s₁ [] 0 0 := Stand.of_body Bd
  have e0 : s₁.heap = h0 := by rw [← hh, Bd.state]; rfl
  have N0 := Fr.nil n0
  have K0 := Keep.refl h0 []
  have lt_V_ub := own_lt V_ub.lt
  refine own_done (B := s₁.setTop (mkF m 0 #[VR ub, VI 0, VI 4] [])) (fun t k => castTop (ef_rmCr4 m ub (0 : Int32) (4 : Int32)) k) ?_
  refine own_by (B := s₁.setTop (mkF m 1 #[VR ub, VI 0, VI 4] [(.int 0)])) (fun _ k => XS.iloadN X0.here hx rfl (hb hby d28_0) rfl  k) ?_
  refine own_by (B := s₁.setTop (mkF m 4 #[VR ub, VI 0, VI 4] [])) (fun _ k => XS.ifNo X0.here hx rfl (hb hby d28_1) rfl (XT.i0_ne_f (by decide)) k) ?_
  refine own_by (B := s₁.setTop (mkF m 5 #[VR ub, VI 0, VI 4] [(.int 4)])) (fun _ k => XS.iloadN X0.here hx rfl (hb hby d28_4) rfl  k) ?_
  refine own_by (B := s₁.setTop (mkF m 6 #[VR ub, VI 0, VI 4] [(.ref ub), (.int 4)])) (fun _ k => XS.aloadN X0.here hx rfl (hb hby d28_5) rfl rfl  k) ?_
  obtain ⟨cl1, Ar1, qq1, Sz1, Nn1, Hh1, Gg1⟩ := id (V_ub)
  refine own_by (B := s₁.setTop (mkF m 7 #[VR ub, VI 0, VI 4] [(.int 16), (.int 4)])) (fun t k => X0.arraylength hx (by rw [e0]; exact Ar1.1) (State.isArrayOf_alike hZ.alike Ar1.2.1) (g := (mkF m 6 #[VR ub, VI 0, VI 4] [(.ref ub), (.int 4)])) rfl rfl (hb hby d28_6) t (by rw [len_of Sz1 Nn1]; exact k)) ?_
  refine own_by (B := s₁.setTop (mkF m 10 #[VR ub, VI 0, VI 4] [])) (fun _ k => XS.icmpNo X0.here hx rfl (hb hby d28_7) rfl (XT.ii_eq_f (by decide)) k) ?_
  refine own_by (B := s₁.setTop (mkF m 11 #[VR ub, VI 0, VI 4] [(.ref ub)])) (fun _ k => XS.aloadN X0.here hx rfl (hb hby d28_10) rfl rfl  k) ?_
  refine own_by (B := s₁.setTop (mkF m 12 #[VR ub, VI 0, VI 4] [(.int 0), (.ref ub)])) (fun _ k => XS.iloadN X0.here hx rfl (hb hby d28_11) rfl  k) ?_
  refine own_by (B := s₁.setTop (mkF m 13 #[VR ub, VI 0, VI 4] [(.int 4), (.int 0), (.ref ub)])) (fun _ k => XS.iloadN X0.here hx rfl (hb hby d28_12) rfl  k) ?_
  obtain ⟨_, _, ⟨T2, L2, k2, n2⟩, -, X2, ⟨Lc2, hQ2, l2, y2, z2⟩, st2⟩ := Jvm.LawKit.callS X0 hx (y := (⟨"java/util/Arrays", "copyOfRangeByte", "([BII)[B"⟩ : MethodName)) hown (mvT hZ (own_hw 169 hw rfl)) (mvT hZ (own_hw 170 hw rfl)) (mvT hZ (own_hw 167 hw rfl)) (mvT hZ (own_hw 171 hw rfl)) (by decide) (backOf (W := 0) (rmCrb4 l Z a0 hw [] a_INPUT_BIT a_OUTPUT_BIT a_OUTPUT_WORD a_INPUT_WORD a_MEMORY_WORD p_INPUT_BIT v_INPUT_BIT p_OUTPUT_WORD v_OUTPUT_WORD p_OUTPUT_BIT v_OUTPUT_BIT p_MEMORY_WORD v_MEMORY_WORD p_INPUT_WORD v_INPUT_WORD a_DigitOnes k_INPUT_BIT k_OUTPUT_WORD k_OUTPUT_BIT k_MEMORY_WORD k_INPUT_WORD ucs uff ub kb ux0 ux1 ux2 ux3 h0 n0 (own_old_le O0) O0 HW V_ub) hZ (own_hw 171 hw rfl) (own_hw 167 hw rfl) (by decide) (by decide)) (g := (mkF m 13 #[VR ub, VI 0, VI 4] [(.int 4), (.int 0), (.ref ub)])) rfl (by rw [hml]; rfl) (argsL := [(.ref ub), (.int 0), (.int 4)]) (rest := []) (lenOf pd_28___BII__B rfl) rfl (by show 2 * 0 + _ ≤ _; exact Nat.le_of_eq rfl) (hb hby d28_13) (fun _ _ => ⟨rfl, e0, (by decide : 0 + 1 ≤ _), (by decide : 0 + 4 ≤ _)⟩)
  dsimp only [Pt.U, Pt.locs, Pt.cells, Pt.slots] at X2 l2 y2 z2 st2 hQ2
  subst l2 y2 z2
  obtain ⟨r0_N2, kr0_N2, rfl, NC2, KC2, hb0_N2, Q0_N2⟩ := hQ2
  refine own_by (B := T2.setTop (mkF m 16 #[VR ub, VI 0, VI 4] [(.ref r0_N2)])) st2 ?_
  have gnr0_N2 : n0 ≤ r0_N2 := Nat.le_trans (own_old_le O0) hb0_N2
  have fzr0_N2 : h0.size ≤ r0_N2 := Nat.le_trans K0.1 hb0_N2
  obtain ⟨h2, e2⟩ : ∃ z, T2.heap = z := ⟨_, rfl⟩
  rw [e2] at KC2 Q0_N2
  have sz2 := KC2.1
  have O2 := O0.keep KC2 all0
  have K2 := K0.trans KC2 all0
  have N2 := Fr.app N0 NC2
  have ltq0_2 := own_lt Q0_N2.lt
  exact own_retA X2 hx hrt rfl rfl hlk (hb hby d28_16) (by decide) (by decide) (by show own_Q_rmCr4 Z ub kb ux0 ux1 ux2 ux3 h0 n0 _ T2.heap _; rw [e2]; exact ⟨r0_N2, kr0_N2, rfl, N2, K2, fzr0_N2, Q0_N2⟩)

def own_Q_rmSi24 (Z : State) (ua : Nat) (uc : Nat) (ub : Nat) (kb : ClassId) (ux0 : Int32) (ux1 : Int32) (ux2 : Int32) (ux3 : Int32) (h0 : Heap) (n0 : Nat) (v : Option Value) (h : Heap) (L : List Loc) : Prop := ∃ (r0_ : Nat) (kr0_ : ClassId), v = none ∧ Fr n0 L ∧ Keep h0 h [ua] ∧ h0.size ≤ r0_ ∧ Exa Z h ua "java/lang/String" ∧ Fld Z h ua "java/lang/String" "value" "[B" (.ref r0_) ∧ Fld Z h ua "java/lang/String" "coder" "B" (.int 0) ∧ Arv Z h r0_ kr0_ .byte (4 : Int32) [(.int ux0), (.int ux1), (.int ux2), (.int ux3)] (.int 0)

theorem d24_0 : decode jdk_42_method_150_code 0 = .ok (.aload_n 0, 1) := by decide +kernel
theorem d24_1 : decode jdk_42_method_150_code 1 = .ok (.invokespecial 1, 3) := by decide +kernel
theorem d24_4 : decode jdk_42_method_150_code 4 = .ok (.aload_n 1, 1) := by decide +kernel
theorem d24_5 : decode jdk_42_method_150_code 5 = .ok (.invokevirtual 552, 3) := by decide +kernel
theorem d24_8 : decode jdk_42_method_150_code 8 = .ok (.astore_n 3, 1) := by decide +kernel
theorem d24_9 : decode jdk_42_method_150_code 9 = .ok (.aload_n 1, 1) := by decide +kernel
theorem d24_10 : decode jdk_42_method_150_code 10 = .ok (.invokevirtual 549, 3) := by decide +kernel
theorem d24_13 : decode jdk_42_method_150_code 13 = .ok (.istore 4, 2) := by decide +kernel
theorem d24_15 : decode jdk_42_method_150_code 15 = .ok (.aload_n 1, 1) := by decide +kernel
theorem d24_16 : decode jdk_42_method_150_code 16 = .ok (.invokevirtual 1047, 3) := by decide +kernel
theorem d24_19 : decode jdk_42_method_150_code 19 = .ok (.ifCond .eq 22, 3) := by decide +kernel
theorem d24_22 : decode jdk_42_method_150_code 22 = .ok (.aload_n 0, 1) := by decide +kernel
theorem d24_23 : decode jdk_42_method_150_code 23 = .ok (.iconst 0, 1) := by decide +kernel
theorem d24_24 : decode jdk_42_method_150_code 24 = .ok (.putfield 15, 3) := by decide +kernel
theorem d24_27 : decode jdk_42_method_150_code 27 = .ok (.aload_n 0, 1) := by decide +kernel
theorem d24_28 : decode jdk_42_method_150_code 28 = .ok (.aload_n 3, 1) := by decide +kernel
theorem d24_29 : decode jdk_42_method_150_code 29 = .ok (.iconst 0, 1) := by decide +kernel
theorem d24_30 : decode jdk_42_method_150_code 30 = .ok (.iload 4, 2) := by decide +kernel
theorem d24_32 : decode jdk_42_method_150_code 32 = .ok (.invokestatic 54, 3) := by decide +kernel
theorem d24_35 : decode jdk_42_method_150_code 35 = .ok (.putfield 9, 3) := by decide +kernel
theorem d24_38 : decode jdk_42_method_150_code 38 = .ok (.goto 59, 3) := by decide +kernel
theorem d24_97 : decode jdk_42_method_150_code 97 = .ok (.return_, 1) := by decide +kernel
theorem pd_24____B : parseMethodDescriptor "()[B" = some ⟨[], some (.array .byte)⟩ := by decide +kernel
theorem pd_24___I : parseMethodDescriptor "()I" = some ⟨[], some .int⟩ := by decide +kernel
theorem pd_24___Z : parseMethodDescriptor "()Z" = some ⟨[], some .boolean⟩ := by decide +kernel
theorem pd_24___BII__B : parseMethodDescriptor "([BII)[B" = some ⟨[(.array .byte), .int, .int], some (.array .byte)⟩ := by decide +kernel
theorem pn_rmSi24 : plainFor (⟨"java/lang/String", "<init>", "(Ljava/lang/AbstractStringBuilder;Ljava/lang/Void;)V"⟩ : MethodName) = true := by first | exact plainFor_of_name (by first | (simp [plainName, overriddenIn]; done) | decide +kernel) | exact Jvm.Free.JP.mathPlain rfl (by decide +kernel) | decide +kernel
theorem ef_rmSi24 (m : MethodId) (x0 : Nat) (x1 : Nat) : entryFrame m #[(.ref x0), (.ref x1), .null] 5 = mkF m 0 #[VR x0, VR x1, .val .null, UU, UU] [] := by first | (simp [entryFrame, mkF, argsToLocals, Value.category]; done) | rfl
set_option maxRecDepth 65536 in
set_option maxHeartbeats 40000000 in
theorem rmSi24 (l : Launch) (Z : State) (a0 : Array Value) (hw : ∀ d ∈ tables_1, d.before a0 Z = true) (ws : List Jvm.Cond) (a_INPUT_BIT a_OUTPUT_BIT a_OUTPUT_WORD a_INPUT_WORD a_MEMORY_WORD p_INPUT_BIT v_INPUT_BIT p_OUTPUT_WORD v_OUTPUT_WORD p_OUTPUT_BIT v_OUTPUT_BIT p_MEMORY_WORD v_MEMORY_WORD p_INPUT_WORD v_INPUT_WORD a_DigitOnes : Nat) (k_INPUT_BIT : ClassId) (k_OUTPUT_WORD : ClassId) (k_OUTPUT_BIT : ClassId) (k_MEMORY_WORD : ClassId) (k_INPUT_WORD : ClassId) (ucs : Int32) (uff : Value) (ua : Nat) (uc : Nat) (ub : Nat) (kb : ClassId) (ux0 : Int32) (ux1 : Int32) (ux2 : Int32) (ux3 : Int32) (h0 : Heap) (n0 : Nat) (Z0 : n0 ≤ h0.size) (O0 : Old Z n0 h0) (HW : own_W Z Z.heap a_INPUT_BIT a_OUTPUT_BIT a_OUTPUT_WORD a_INPUT_WORD a_MEMORY_WORD p_INPUT_BIT v_INPUT_BIT p_OUTPUT_WORD v_OUTPUT_WORD p_OUTPUT_BIT v_OUTPUT_BIT p_MEMORY_WORD v_MEMORY_WORD p_INPUT_WORD v_INPUT_WORD a_DigitOnes k_INPUT_BIT k_OUTPUT_WORD k_OUTPUT_BIT k_MEMORY_WORD k_INPUT_WORD ucs uff) (E_ua : Exa Z h0 ua "java/lang/String") (F_ua_value : Fld Z h0 ua "java/lang/String" "value" "[B" .null) (F_ua_coder : Fld Z h0 ua "java/lang/String" "coder" "B" (.int 0)) (E_uc : Exa Z h0 uc "java/lang/StringBuilder") (F_uc_value : Fld Z h0 uc "java/lang/AbstractStringBuilder" "value" "[B" (.ref ub)) (F_uc_coder : Fld Z h0 uc "java/lang/AbstractStringBuilder" "coder" "B" (.int 0)) (F_uc_count : Fld Z h0 uc "java/lang/AbstractStringBuilder" "count" "I" (.int 4)) (V_ub : Arv Z h0 ub kb .byte (16 : Int32) [(.int ux0), (.int ux1), (.int ux2), (.int ux3), (.int 0), (.int 0), (.int 0), (.int 0), (.int 0), (.int 0), (.int 0), (.int 0), (.int 0), (.int 0), (.int 0), (.int 0)] (.int 0)) (gn_ua : n0 ≤ ua)  :
    MetFree l (⟨"java/lang/String", "<init>", "(Ljava/lang/AbstractStringBuilder;Ljava/lang/Void;)V"⟩ : MethodName) (head1 (Jvm.Cond.code (⟨"java/lang/String", "<init>", "(Ljava/lang/AbstractStringBuilder;Ljava/lang/Void;)V"⟩ : MethodName) jdk_42_method_150_code 5 none :: ws) ({ frames := 3, cells := 1, slots := 4, locals := 82 } : Room)) (fun a U => a = #[(.ref ua), (.ref uc), .null] ∧ Z.Warmed39 U.vm ∧ U.heap = h0) (fun _ _ _ _ _ => True) (fun _ U o U' => ∃ v L, o = .returned v ∧ (own_Q_rmSi24 Z ua uc ub kb ux0 ux1 ux2 ux3 h0 n0) v U'.heap L ∧ FrameEnd U o U' L 1 4) := by
  refine MetFree.of_bodySF pn_rmSi24 hisR ?_
  intro p e s m args below meth c s₁ Bd hml0 hP hK
  obtain ⟨rfl, hZ, hh⟩ := hP
  have hx := Bd.exec
  have hby := Bd.bytes
  have hml : c.maxLocals = 5 := hml0
  have hown : s.vm.findClass "java/lang/String" = some m.cls := findClass_of_methodNamed Bd.named
  have hnm := (name_of_methodNamed Bd.named Bd.method).1
  have hrt := Bd.returns
  have hlk := Bd.notSynchronized
  have X0 : Stand p l e ({ frames := 3, cells := 1, slots := 4, locals := 82 } : Room) s m #[(.ref ua), (.ref uc), .null] below meth c s₁ [] 0 0 := Stand.of_body Bd
  have e0 : s₁.heap = h0 := by rw [← hh, Bd.state]; rfl
  have N0 := Fr.nil n0
  have K0 := Keep.refl h0 [ua]
  have lt_E_ua := own_lt E_ua.lt
  have lt_E_uc := own_lt E_uc.lt
  have lt_V_ub := own_lt V_ub.lt
  have nl_ua_ub := own_lg (Exa.neArv E_ua V_ub (own_hw 134 hw rfl))
  have nl_uc_ub := own_lg (Exa.neArv E_uc V_ub (own_hw 38 hw rfl))
  refine own_done (B := s₁.setTop (mkF m 0 #[VR ua, VR uc, .val .null, UU, UU] [])) (fun t k => castTop (ef_rmSi24 m ua uc) k) ?_
  refine own_by (B := s₁.setTop (mkF m 1 #[VR ua, VR uc, .val .null, UU, UU] [(.ref ua)])) (fun _ k => XS.aloadN X0.here hx rfl (hb hby d24_0) rfl rfl  k) ?_
  obtain ⟨T1, X1, e1, st1⟩ := initO X0 hx hZ hown (own_hw 150 hw rfl) (own_hw 20 hw rfl) (own_hw 21 hw rfl) e0 (g := (mkF m 1 #[VR ua, VR uc, .val .null, UU, UU] [(.ref ua)])) rfl (by rw [hml]; rfl) rfl (hb hby d24_1) (by decide) (W := 0) (by show 2 * 0 + _ ≤ _; exact Nat.le_of_eq rfl) (by decide)
  refine own_by (B := T1.setTop (mkF m 4 #[VR ua, VR uc, .val .null, UU, UU] [])) st1 ?_
  refine own_by (B := T1.setTop (mkF m 5 #[VR ua, VR uc, .val .null, UU, UU] [(.ref uc)])) (fun _ k => XS.aloadN X1.here hx rfl (hb hby d24_4) rfl rfl  k) ?_
  obtain ⟨cq2, kq2, qa2, qb2, qc2⟩ := isOf hZ e1 E_uc
  obtain ⟨_, _, ⟨T2, L2, k2, n2⟩, -, X2, ⟨Lc2, hQ2, l2, y2, z2⟩, st2⟩ := X1.virtualBack hx (y := (⟨"java/lang/AbstractStringBuilder", "getValue", "()[B"⟩ : MethodName)) (z := (⟨"java/lang/AbstractStringBuilder", "getValue", "()[B"⟩ : MethodName)) hown (mvT hZ (own_hw 151 hw rfl)) (mvT hZ (own_hw 152 hw rfl)) (notFace_of_selects (args := #[]) (mvT hZ (own_hw 154 hw rfl))) (mvT hZ (own_hw 154 hw rfl)) (mvT hZ (own_hw 153 hw rfl)) (by decide) (backOf (W := 0) (rmgv4 l Z a0 hw [] a_INPUT_BIT a_OUTPUT_BIT a_OUTPUT_WORD a_INPUT_WORD a_MEMORY_WORD p_INPUT_BIT v_INPUT_BIT p_OUTPUT_WORD v_OUTPUT_WORD p_OUTPUT_BIT v_OUTPUT_BIT p_MEMORY_WORD v_MEMORY_WORD p_INPUT_WORD v_INPUT_WORD a_DigitOnes k_INPUT_BIT k_OUTPUT_WORD k_OUTPUT_BIT k_MEMORY_WORD k_INPUT_WORD ucs uff uc ub kb ux0 ux1 ux2 ux3 h0 n0 (own_old_le O0) O0 HW E_uc F_uc_value F_uc_coder F_uc_count V_ub) hZ (own_hw 155 hw rfl) (own_hw 47 hw rfl) (by decide) (by decide)) qa2 qc2 (g := (mkF m 5 #[VR ua, VR uc, .val .null, UU, UU] [(.ref uc)])) rfl (by rw [hml]; rfl) (Steps.refl _) (argsL := []) (rest := []) (lenOf pd_24____B rfl) rfl (by show 2 * 0 + _ ≤ _; exact Nat.le_of_eq rfl) (hb hby d24_5) (fun _ _ => ⟨rfl, e1, (by decide : 0 + 0 ≤ _), (by decide : 0 + 0 ≤ _)⟩)
  dsimp only [Pt.U, Pt.locs, Pt.cells, Pt.slots] at X2 l2 y2 z2 st2 hQ2
  subst l2 y2 z2
  obtain ⟨rfl, NC2, KC2⟩ := hQ2
  refine own_by (B := T2.setTop (mkF m 8 #[VR ua, VR uc, .val .null, UU, UU] [(.ref ub)])) (fun _ k => st2.trans k) ?_
  obtain ⟨h2, e2⟩ : ∃ z, T2.heap = z := ⟨_, rfl⟩
  rw [e2] at KC2
  have sz2 := KC2.1
  have O2 := O0.keep KC2 all0
  have K2 := K0.trans KC2 all0
  have N2 := Fr.app N0 NC2
  refine own_by (B := T2.setTop (mkF m 9 #[VR ua, VR uc, .val .null, VR ub, UU] [])) (fun _ k => XS.astoreN X2.here hx rfl (hb hby d24_8) rfl rfl (l' := #[VR ua, VR uc, .val .null, VR ub, UU]) rfl k) ?_
  refine own_by (B := T2.setTop (mkF m 10 #[VR ua, VR uc, .val .null, VR ub, UU] [(.ref uc)])) (fun _ k => XS.aloadN X2.here hx rfl (hb hby d24_9) rfl rfl  k) ?_
  have c3 := (E_uc.keep KC2)
  have c4 := (F_uc_value.keep KC2 nin0)
  have c5 := (F_uc_coder.keep KC2 nin0)
  have c6 := (F_uc_count.keep KC2 nin0)
  have c7 := (V_ub.keep KC2 nin0)
  obtain ⟨cq8, kq8, qa8, qb8, qc8⟩ := isOf hZ e2 c3
  obtain ⟨_, _, ⟨T8, L8, k8, n8⟩, -, X8, ⟨Lc8, hQ8, l8, y8, z8⟩, st8⟩ := X2.virtualBack hx (y := (⟨"java/lang/AbstractStringBuilder", "length", "()I"⟩ : MethodName)) (z := (⟨"java/lang/StringBuilder", "length", "()I"⟩ : MethodName)) hown (mvT hZ (own_hw 156 hw rfl)) (mvT hZ (own_hw 157 hw rfl)) (own_nf (a0 := #[]) (w := (⟨"java/lang/AbstractStringBuilder", "isLatin1", "()Z"⟩ : MethodName)) (mvT hZ (own_hw 127 hw rfl)) rfl) (mvT hZ (own_hw 159 hw rfl)) (mvT hZ (own_hw 160 hw rfl)) (by decide) (backOf (W := 0) (rmsl4 l Z a0 hw [] a_INPUT_BIT a_OUTPUT_BIT a_OUTPUT_WORD a_INPUT_WORD a_MEMORY_WORD p_INPUT_BIT v_INPUT_BIT p_OUTPUT_WORD v_OUTPUT_WORD p_OUTPUT_BIT v_OUTPUT_BIT p_MEMORY_WORD v_MEMORY_WORD p_INPUT_WORD v_INPUT_WORD a_DigitOnes k_INPUT_BIT k_OUTPUT_WORD k_OUTPUT_BIT k_MEMORY_WORD k_INPUT_WORD ucs uff uc ub kb ux0 ux1 ux2 ux3 h2 n0 (own_old_le O2) O2 HW c3 c4 c5 c6 c7) hZ (own_hw 161 hw rfl) (own_hw 39 hw rfl) (by decide) (by decide)) qa8 qc8 (g := (mkF m 10 #[VR ua, VR uc, .val .null, VR ub, UU] [(.ref uc)])) rfl (by rw [hml]; rfl) (Steps.refl _) (argsL := []) (rest := []) (lenOf pd_24___I rfl) rfl (by show 2 * 0 + _ ≤ _; exact Nat.le_of_eq rfl) (hb hby d24_10) (fun _ _ => ⟨rfl, e2, (by decide : 0 + 0 ≤ _), (by decide : 0 + 0 ≤ _)⟩)
  dsimp only [Pt.U, Pt.locs, Pt.cells, Pt.slots] at X8 l8 y8 z8 st8 hQ8
  subst l8 y8 z8
  obtain ⟨rfl, NC8, KC8⟩ := hQ8
  refine own_by (B := T8.setTop (mkF m 13 #[VR ua, VR uc, .val .null, VR ub, UU] [(.int 4)])) (fun _ k => st8.trans k) ?_
  obtain ⟨h8, e8⟩ : ∃ z, T8.heap = z := ⟨_, rfl⟩
  rw [e8] at KC8
  have sz8 := KC8.1
  have O8 := O2.keep KC8 all0
  have K8 := K2.trans KC8 all0
  have N8 := Fr.app N2 NC8
  refine own_by (B := T8.setTop (mkF m 15 #[VR ua, VR uc, .val .null, VR ub, VI 4] [])) (fun _ k => XS.istore X8.here hx rfl (hb hby d24_13) rfl (l' := #[VR ua, VR uc, .val .null, VR ub, VI 4]) rfl k) ?_
  refine own_by (B := T8.setTop (mkF m 16 #[VR ua, VR uc, .val .null, VR ub, VI 4] [(.ref uc)])) (fun _ k => XS.aloadN X8.here hx rfl (hb hby d24_15) rfl rfl  k) ?_
  have c9 := (c3.keep KC8)
  have c10 := (c4.keep KC8 nin0)
  have c11 := (c5.keep KC8 nin0)
  have c12 := (c6.keep KC8 nin0)
  have c13 := (c7.keep KC8 nin0)
  obtain ⟨cq14, kq14, qa14, qb14, qc14⟩ := isOf hZ e8 c9
  obtain ⟨_, _, ⟨T14, L14, k14, n14⟩, -, X14, ⟨Lc14, hQ14, l14, y14, z14⟩, st14⟩ := X8.virtualBack hx (y := (⟨"java/lang/AbstractStringBuilder", "isLatin1", "()Z"⟩ : MethodName)) (z := (⟨"java/lang/AbstractStringBuilder", "isLatin1", "()Z"⟩ : MethodName)) hown (mvT hZ (own_hw 164 hw rfl)) (mvT hZ (own_hw 125 hw rfl)) (notFace_of_selects (args := #[]) (mvT hZ (own_hw 127 hw rfl))) (mvT hZ (own_hw 127 hw rfl)) (mvT hZ (own_hw 126 hw rfl)) (by decide) (backOf (W := 0) (rmlat4 l Z a0 hw [] a_INPUT_BIT a_OUTPUT_BIT a_OUTPUT_WORD a_INPUT_WORD a_MEMORY_WORD p_INPUT_BIT v_INPUT_BIT p_OUTPUT_WORD v_OUTPUT_WORD p_OUTPUT_BIT v_OUTPUT_BIT p_MEMORY_WORD v_MEMORY_WORD p_INPUT_WORD v_INPUT_WORD a_DigitOnes k_INPUT_BIT k_OUTPUT_WORD k_OUTPUT_BIT k_MEMORY_WORD k_INPUT_WORD ucs uff uc ub kb ux0 ux1 ux2 ux3 h8 n0 (own_old_le O8) O8 HW c9 c10 c11 c12 c13) hZ (own_hw 128 hw rfl) (own_hw 47 hw rfl) (by decide) (by decide)) qa14 qc14 (g := (mkF m 16 #[VR ua, VR uc, .val .null, VR ub, VI 4] [(.ref uc)])) rfl (by rw [hml]; rfl) (Steps.refl _) (argsL := []) (rest := []) (lenOf pd_24___Z rfl) rfl (by show 2 * 0 + _ ≤ _; exact Nat.le_of_eq rfl) (hb hby d24_16) (fun _ _ => ⟨rfl, e8, (by decide : 0 + 0 ≤ _), (by decide : 0 + 0 ≤ _)⟩)
  dsimp only [Pt.U, Pt.locs, Pt.cells, Pt.slots] at X14 l14 y14 z14 st14 hQ14
  subst l14 y14 z14
  obtain ⟨rfl, NC14, KC14⟩ := hQ14
  refine own_by (B := T14.setTop (mkF m 19 #[VR ua, VR uc, .val .null, VR ub, VI 4] [(.int 1)])) (fun _ k => st14.trans k) ?_
  obtain ⟨h14, e14⟩ : ∃ z, T14.heap = z := ⟨_, rfl⟩
  rw [e14] at KC14
  have sz14 := KC14.1
  have O14 := O8.keep KC14 all0
  have K14 := K8.trans KC14 all0
  have N14 := Fr.app N8 NC14
  refine own_by (B := T14.setTop (mkF m 22 #[VR ua, VR uc, .val .null, VR ub, VI 4] [])) (fun _ k => XS.ifNo X14.here hx rfl (hb hby d24_19) rfl (XT.i0_eq_f (by decide)) k) ?_
  refine own_by (B := T14.setTop (mkF m 23 #[VR ua, VR uc, .val .null, VR ub, VI 4] [(.ref ua)])) (fun _ k => XS.aloadN X14.here hx rfl (hb hby d24_22) rfl rfl  k) ?_
  refine own_by (B := T14.setTop (mkF m 24 #[VR ua, VR uc, .val .null, VR ub, VI 4] [(.int 0), (.ref ua)])) (fun _ k => XS.iconst X14.here hx rfl (hb hby d24_23) k) ?_
  have c16 := (((E_ua.keep KC2).keep KC8).keep KC14)
  have c17 := (((F_ua_coder.keep KC2 nin0).keep KC8 nin0).keep KC14 nin0)
  obtain ⟨T15, h15, X15, e15, W15, st15⟩ := putF X14 hx hZ hown (host := "") (Or.inl (own_hw 82 hw rfl)) Via.refl e14 c17 c16 (Or.inr ⟨(own_hw 83 hw rfl), rfl, hnm⟩) (own_hw 134 hw rfl) (ty := .byte) (by decide) rfl rfl (g := (mkF m 24 #[VR ua, VR uc, .val .null, VR ub, VI 4] [(.int 0), (.ref ua)])) rfl rfl (hb hby d24_24)
  have sz15 := W15.size
  have O15 := O14.wr W15 gn_ua
  have K15 := K14.wr W15 (Or.inl (List.mem_of_getElem? (i := 0) rfl))
  have N15 := Fr.snoc X15 N14 gn_ua
  have F15 := c17.same W15
  refine own_by (B := T15.setTop (mkF m 27 #[VR ua, VR uc, .val .null, VR ub, VI 4] [])) st15 ?_
  refine own_by (B := T15.setTop (mkF m 28 #[VR ua, VR uc, .val .null, VR ub, VI 4] [(.ref ua)])) (fun _ k => XS.aloadN X15.here hx rfl (hb hby d24_27) rfl rfl  k) ?_
  refine own_by (B := T15.setTop (mkF m 29 #[VR ua, VR uc, .val .null, VR ub, VI 4] [(.ref ub), (.ref ua)])) (fun _ k => XS.aloadN X15.here hx rfl (hb hby d24_28) rfl rfl  k) ?_
  refine own_by (B := T15.setTop (mkF m 30 #[VR ua, VR uc, .val .null, VR ub, VI 4] [(.int 0), (.ref ub), (.ref ua)])) (fun _ k => XS.iconst X15.here hx rfl (hb hby d24_29) k) ?_
  refine own_by (B := T15.setTop (mkF m 32 #[VR ua, VR uc, .val .null, VR ub, VI 4] [(.int 4), (.int 0), (.ref ub), (.ref ua)])) (fun _ k => XS.iload X15.here hx rfl (hb hby d24_30) rfl  k) ?_
  have c18 := ((c13.keep KC14 nin0).other W15 (own_ne (by omega)))
  obtain ⟨_, _, ⟨T19, L19, k19, n19⟩, -, X19, ⟨Lc19, hQ19, l19, y19, z19⟩, st19⟩ := Jvm.LawKit.callS X15 hx (y := (⟨"java/util/Arrays", "copyOfRange", "([BII)[B"⟩ : MethodName)) hown (mvT hZ (own_hw 165 hw rfl)) (mvT hZ (own_hw 166 hw rfl)) (mvT hZ (own_hw 167 hw rfl)) (mvT hZ (own_hw 168 hw rfl)) (by decide) (backOf (W := 1) (rmCr4 l Z a0 hw [] a_INPUT_BIT a_OUTPUT_BIT a_OUTPUT_WORD a_INPUT_WORD a_MEMORY_WORD p_INPUT_BIT v_INPUT_BIT p_OUTPUT_WORD v_OUTPUT_WORD p_OUTPUT_BIT v_OUTPUT_BIT p_MEMORY_WORD v_MEMORY_WORD p_INPUT_WORD v_INPUT_WORD a_DigitOnes k_INPUT_BIT k_OUTPUT_WORD k_OUTPUT_BIT k_MEMORY_WORD k_INPUT_WORD ucs uff ub kb ux0 ux1 ux2 ux3 h15 n0 (own_old_le O15) O15 HW c18) hZ (own_hw 168 hw rfl) (own_hw 167 hw rfl) (by decide) (by decide)) (g := (mkF m 32 #[VR ua, VR uc, .val .null, VR ub, VI 4] [(.int 4), (.int 0), (.ref ub), (.ref ua)])) rfl (by rw [hml]; rfl) (argsL := [(.ref ub), (.int 0), (.int 4)]) (rest := [(.ref ua)]) (lenOf pd_24___BII__B rfl) rfl (by show 2 * 0 + _ ≤ _; exact Nat.le_of_eq rfl) (hb hby d24_32) (fun _ _ => ⟨rfl, e15, (by decide : 0 + 1 ≤ _), (by decide : 0 + 4 ≤ _)⟩)
  dsimp only [Pt.U, Pt.locs, Pt.cells, Pt.slots] at X19 l19 y19 z19 st19 hQ19
  subst l19 y19 z19
  obtain ⟨r0_N19, kr0_N19, rfl, NC19, KC19, hb0_N19, Q0_N19⟩ := hQ19
  refine own_by (B := T19.setTop (mkF m 35 #[VR ua, VR uc, .val .null, VR ub, VI 4] [(.ref r0_N19), (.ref ua)])) st19 ?_
  have gnr0_N19 : n0 ≤ r0_N19 := Nat.le_trans (own_old_le O15) hb0_N19
  have fzr0_N19 : h0.size ≤ r0_N19 := Nat.le_trans K15.1 hb0_N19
  obtain ⟨h19, e19⟩ : ∃ z, T19.heap = z := ⟨_, rfl⟩
  rw [e19] at KC19 Q0_N19
  have sz19 := KC19.1
  have O19 := O15.keep KC19 all0
  have K19 := K15.trans KC19 all0
  have N19 := Fr.app N15 NC19
  have ltq0_19 := own_lt Q0_N19.lt
  have c21 := ((c16.wr W15).keep KC19)
  have c22 := (((((F_ua_value.keep KC2 nin0).keep KC8 nin0).keep KC14 nin0).other W15 (Or.inr (slot_ne (Or.inr (own_hw 75 hw rfl)) (Or.inr (own_hw 83 hw rfl)) (by decide) (t := (.array .byte)) (t' := .byte) (by decide) (by decide)))).keep KC19 nin0)
  obtain ⟨T20, h20, X20, e20, W20, st20⟩ := putF X19 hx hZ hown (host := "") (Or.inl (own_hw 74 hw rfl)) Via.refl e19 c22 c21 (Or.inr ⟨(own_hw 75 hw rfl), rfl, hnm⟩) (own_hw 134 hw rfl) (ty := (.array .byte)) (by decide) rfl rfl (g := (mkF m 35 #[VR ua, VR uc, .val .null, VR ub, VI 4] [(.ref r0_N19), (.ref ua)])) rfl rfl (hb hby d24_35)
  have sz20 := W20.size
  have O20 := O19.wr W20 gn_ua
  have K20 := K19.wr W20 (Or.inl (List.mem_of_getElem? (i := 0) rfl))
  have N20 := Fr.snoc X20 N19 gn_ua
  have F20 := c22.same W20
  refine own_by (B := T20.setTop (mkF m 38 #[VR ua, VR uc, .val .null, VR ub, VI 4] [])) st20 ?_
  refine own_by (B := T20.setTop (mkF m 97 #[VR ua, VR uc, .val .null, VR ub, VI 4] [])) (fun _ k => XS.goto X20.here hx rfl (pc0 := 38) (pc' := 97) rfl (hb hby d24_38) (by decide) (by decide) k) ?_
  have c23 := (c21.wr W20)
  have c24 := ((F15.keep KC19 nin0).other W20 (Or.inr (slot_ne (Or.inr (own_hw 83 hw rfl)) (Or.inr (own_hw 75 hw rfl)) (by decide) (t := .byte) (t' := (.array .byte)) (by decide) (by decide))))
  have c25 := (Q0_N19.other W20 (own_ne (by omega)))
  exact own_retV X20 hx hrt hlk (hb hby d24_97) (by decide) (by decide) (by show own_Q_rmSi24 Z ua uc ub kb ux0 ux1 ux2 ux3 h0 n0 _ T20.heap _; rw [e20]; exact ⟨r0_N19, kr0_N19, rfl, N20, K20, fzr0_N19, c23, F20, c24, c25⟩)

def own_Q_rmSi14 (Z : State) (ua : Nat) (uc : Nat) (ub : Nat) (kb : ClassId) (ux0 : Int32) (ux1 : Int32) (ux2 : Int32) (ux3 : Int32) (h0 : Heap) (n0 : Nat) (v : Option Value) (h : Heap) (L : List Loc) : Prop := ∃ (r0_ : Nat) (kr0_ : ClassId), v = none ∧ Fr n0 L ∧ Keep h0 h [ua] ∧ h0.size ≤ r0_ ∧ Exa Z h ua "java/lang/String" ∧ Fld Z h ua "java/lang/String" "value" "[B" (.ref r0_) ∧ Fld Z h ua "java/lang/String" "coder" "B" (.int 0) ∧ Arv Z h r0_ kr0_ .byte (4 : Int32) [(.int ux0), (.int ux1), (.int ux2), (.int ux3)] (.int 0)

theorem d23_0 : decode jdk_42_method_53_code 0 = .ok (.aload_n 0, 1) := by decide +kernel
theorem d23_1 : decode jdk_42_method_53_code 1 = .ok (.aload_n 1, 1) := by decide +kernel
theorem d23_2 : decode jdk_42_method_53_code 2 = .ok (.aconst_null, 1) := by decide +kernel
theorem d23_3 : decode jdk_42_method_53_code 3 = .ok (.invokespecial 489, 3) := by decide +kernel
theorem d23_6 : decode jdk_42_method_53_code 6 = .ok (.return_, 1) := by decide +kernel
theorem pd_23__Ljava_lang_AbstractStringBuilder_Ljava_lang_Void__V : parseMethodDescriptor "(Ljava/lang/AbstractStringBuilder;Ljava/lang/Void;)V" = some ⟨[(.object "java/lang/AbstractStringBuilder"), (.object "java/lang/Void")], none⟩ := by decide +kernel
theorem pn_rmSi14 : plainFor (⟨"java/lang/String", "<init>", "(Ljava/lang/StringBuilder;)V"⟩ : MethodName) = true := by first | exact plainFor_of_name (by first | (simp [plainName, overriddenIn]; done) | decide +kernel) | exact Jvm.Free.JP.mathPlain rfl (by decide +kernel) | decide +kernel
theorem ef_rmSi14 (m : MethodId) (x0 : Nat) (x1 : Nat) : entryFrame m #[(.ref x0), (.ref x1)] 2 = mkF m 0 #[VR x0, VR x1] [] := by first | (simp [entryFrame, mkF, argsToLocals, Value.category]; done) | rfl
set_option maxRecDepth 65536 in
set_option maxHeartbeats 40000000 in
theorem rmSi14 (l : Launch) (Z : State) (a0 : Array Value) (hw : ∀ d ∈ tables_1, d.before a0 Z = true) (ws : List Jvm.Cond) (a_INPUT_BIT a_OUTPUT_BIT a_OUTPUT_WORD a_INPUT_WORD a_MEMORY_WORD p_INPUT_BIT v_INPUT_BIT p_OUTPUT_WORD v_OUTPUT_WORD p_OUTPUT_BIT v_OUTPUT_BIT p_MEMORY_WORD v_MEMORY_WORD p_INPUT_WORD v_INPUT_WORD a_DigitOnes : Nat) (k_INPUT_BIT : ClassId) (k_OUTPUT_WORD : ClassId) (k_OUTPUT_BIT : ClassId) (k_MEMORY_WORD : ClassId) (k_INPUT_WORD : ClassId) (ucs : Int32) (uff : Value) (ua : Nat) (uc : Nat) (ub : Nat) (kb : ClassId) (ux0 : Int32) (ux1 : Int32) (ux2 : Int32) (ux3 : Int32) (h0 : Heap) (n0 : Nat) (Z0 : n0 ≤ h0.size) (O0 : Old Z n0 h0) (HW : own_W Z Z.heap a_INPUT_BIT a_OUTPUT_BIT a_OUTPUT_WORD a_INPUT_WORD a_MEMORY_WORD p_INPUT_BIT v_INPUT_BIT p_OUTPUT_WORD v_OUTPUT_WORD p_OUTPUT_BIT v_OUTPUT_BIT p_MEMORY_WORD v_MEMORY_WORD p_INPUT_WORD v_INPUT_WORD a_DigitOnes k_INPUT_BIT k_OUTPUT_WORD k_OUTPUT_BIT k_MEMORY_WORD k_INPUT_WORD ucs uff) (E_ua : Exa Z h0 ua "java/lang/String") (F_ua_value : Fld Z h0 ua "java/lang/String" "value" "[B" .null) (F_ua_coder : Fld Z h0 ua "java/lang/String" "coder" "B" (.int 0)) (E_uc : Exa Z h0 uc "java/lang/StringBuilder") (F_uc_value : Fld Z h0 uc "java/lang/AbstractStringBuilder" "value" "[B" (.ref ub)) (F_uc_coder : Fld Z h0 uc "java/lang/AbstractStringBuilder" "coder" "B" (.int 0)) (F_uc_count : Fld Z h0 uc "java/lang/AbstractStringBuilder" "count" "I" (.int 4)) (V_ub : Arv Z h0 ub kb .byte (16 : Int32) [(.int ux0), (.int ux1), (.int ux2), (.int ux3), (.int 0), (.int 0), (.int 0), (.int 0), (.int 0), (.int 0), (.int 0), (.int 0), (.int 0), (.int 0), (.int 0), (.int 0)] (.int 0)) (gn_ua : n0 ≤ ua)  :
    MetFree l (⟨"java/lang/String", "<init>", "(Ljava/lang/StringBuilder;)V"⟩ : MethodName) (head1 (Jvm.Cond.code (⟨"java/lang/String", "<init>", "(Ljava/lang/StringBuilder;)V"⟩ : MethodName) jdk_42_method_53_code 2 none :: ws) ({ frames := 4, cells := 1, slots := 4, locals := 98 } : Room)) (fun a U => a = #[(.ref ua), (.ref uc)] ∧ Z.Warmed39 U.vm ∧ U.heap = h0) (fun _ _ _ _ _ => True) (fun _ U o U' => ∃ v L, o = .returned v ∧ (own_Q_rmSi14 Z ua uc ub kb ux0 ux1 ux2 ux3 h0 n0) v U'.heap L ∧ FrameEnd U o U' L 1 4) := by
  refine MetFree.of_bodySF pn_rmSi14 hisR ?_
  intro p e s m args below meth c s₁ Bd hml0 hP hK
  obtain ⟨rfl, hZ, hh⟩ := hP
  have hx := Bd.exec
  have hby := Bd.bytes
  have hml : c.maxLocals = 2 := hml0
  have hown : s.vm.findClass "java/lang/String" = some m.cls := findClass_of_methodNamed Bd.named
  have hnm := (name_of_methodNamed Bd.named Bd.method).1
  have hrt := Bd.returns
  have hlk := Bd.notSynchronized
  have X0 : Stand p l e ({ frames := 4, cells := 1, slots := 4, locals := 98 } : Room) s m #[(.ref ua), (.ref uc)] below meth c s₁ [] 0 0 := Stand.of_body Bd
  have e0 : s₁.heap = h0 := by rw [← hh, Bd.state]; rfl
  have N0 := Fr.nil n0
  have K0 := Keep.refl h0 [ua]
  have lt_E_ua := own_lt E_ua.lt
  have lt_E_uc := own_lt E_uc.lt
  have lt_V_ub := own_lt V_ub.lt
  have nl_ua_ub := own_lg (Exa.neArv E_ua V_ub (own_hw 134 hw rfl))
  have nl_uc_ub := own_lg (Exa.neArv E_uc V_ub (own_hw 38 hw rfl))
  refine own_done (B := s₁.setTop (mkF m 0 #[VR ua, VR uc] [])) (fun t k => castTop (ef_rmSi14 m ua uc) k) ?_
  refine own_by (B := s₁.setTop (mkF m 1 #[VR ua, VR uc] [(.ref ua)])) (fun _ k => XS.aloadN X0.here hx rfl (hb hby d23_0) rfl rfl  k) ?_
  refine own_by (B := s₁.setTop (mkF m 2 #[VR ua, VR uc] [(.ref uc), (.ref ua)])) (fun _ k => XS.aloadN X0.here hx rfl (hb hby d23_1) rfl rfl  k) ?_
  refine own_by (B := s₁.setTop (mkF m 3 #[VR ua, VR uc] [.null, (.ref uc), (.ref ua)])) (fun _ k => XS.aconstNull X0.here hx rfl (hb hby d23_2) k) ?_
  obtain ⟨_, _, ⟨T1, L1, k1, n1⟩, -, X1, ⟨Lc1, hQ1, l1, y1, z1⟩, st1⟩ := X0.specialBack hx (y := (⟨"java/lang/String", "<init>", "(Ljava/lang/AbstractStringBuilder;Ljava/lang/Void;)V"⟩ : MethodName)) rfl hown (mvT hZ (own_hw 147 hw rfl)) (mvT hZ (own_hw 148 hw rfl)) (mvT hZ (own_hw 149 hw rfl)) (by decide) (backOf (W := 0) (rmSi24 l Z a0 hw [] a_INPUT_BIT a_OUTPUT_BIT a_OUTPUT_WORD a_INPUT_WORD a_MEMORY_WORD p_INPUT_BIT v_INPUT_BIT p_OUTPUT_WORD v_OUTPUT_WORD p_OUTPUT_BIT v_OUTPUT_BIT p_MEMORY_WORD v_MEMORY_WORD p_INPUT_WORD v_INPUT_WORD a_DigitOnes k_INPUT_BIT k_OUTPUT_WORD k_OUTPUT_BIT k_MEMORY_WORD k_INPUT_WORD ucs uff ua uc ub kb ux0 ux1 ux2 ux3 h0 n0 (own_old_le O0) O0 HW E_ua F_ua_value F_ua_coder E_uc F_uc_value F_uc_coder F_uc_count V_ub gn_ua) hZ (own_hw 149 hw rfl) (own_hw 51 hw rfl) (by decide) (by decide)) (g := (mkF m 3 #[VR ua, VR uc] [.null, (.ref uc), (.ref ua)])) rfl (by rw [hml]; rfl) (Steps.refl _) (a := ua) (argsL := [(.ref uc), .null]) (rest := []) (lenOf pd_23__Ljava_lang_AbstractStringBuilder_Ljava_lang_Void__V rfl) rfl (by show 2 * 0 + _ ≤ _; exact Nat.le_of_eq rfl) (hb hby d23_3) (fun _ _ => ⟨rfl, e0, (by decide : 0 + 1 ≤ _), (by decide : 0 + 4 ≤ _)⟩)
  dsimp only [Pt.U, Pt.locs, Pt.cells, Pt.slots] at X1 l1 y1 z1 st1 hQ1
  subst l1 y1 z1
  obtain ⟨r0_N1, kr0_N1, rfl, NC1, KC1, hb0_N1, Q0_N1, Q1_N1, Q2_N1, Q3_N1⟩ := hQ1
  refine own_by (B := T1.setTop (mkF m 6 #[VR ua, VR uc] [])) (fun _ k => st1.trans k) ?_
  have gnr0_N1 : n0 ≤ r0_N1 := Nat.le_trans (own_old_le O0) hb0_N1
  have fzr0_N1 : h0.size ≤ r0_N1 := Nat.le_trans K0.1 hb0_N1
  obtain ⟨h1, e1⟩ : ∃ z, T1.heap = z := ⟨_, rfl⟩
  rw [e1] at KC1 Q0_N1 Q1_N1 Q2_N1 Q3_N1
  have sz1 := KC1.1
  have O1 := O0.keep KC1 (allS gn_ua all0)
  have K1 := K0.trans KC1 (allS (Or.inl (List.mem_of_getElem? (i := 0) rfl)) all0)
  have N1 := Fr.app N0 NC1
  have ltq3_1 := own_lt Q3_N1.lt
  exact own_retV X1 hx hrt hlk (hb hby d23_6) (by decide) (by decide) (by show own_Q_rmSi14 Z ua uc ub kb ux0 ux1 ux2 ux3 h0 n0 _ T1.heap _; rw [e1]; exact ⟨r0_N1, kr0_N1, rfl, N1, K1, fzr0_N1, Q0_N1, Q1_N1, Q2_N1, Q3_N1⟩)

def own_Q_rmTs4 (Z : State) (uc : Nat) (ub : Nat) (kb : ClassId) (ux0 : Int32) (ux1 : Int32) (ux2 : Int32) (ux3 : Int32) (h0 : Heap) (n0 : Nat) (v : Option Value) (h : Heap) (L : List Loc) : Prop := ∃ (r0_ r1_ : Nat) (kr0_ : ClassId), v = some (.ref r0_) ∧ Fr n0 L ∧ Keep h0 h [] ∧ h0.size ≤ r0_ ∧ h0.size ≤ r1_ ∧ Exa Z h r0_ "java/lang/String" ∧ Fld Z h r0_ "java/lang/String" "value" "[B" (.ref r1_) ∧ Fld Z h r0_ "java/lang/String" "coder" "B" (.int 0) ∧ Arv Z h r1_ kr0_ .byte (4 : Int32) [(.int ux0), (.int ux1), (.int ux2), (.int ux3)] (.int 0)

theorem d22_0 : decode jdk_67_method_42_code 0 = .ok (.new 18, 3) := by decide +kernel
theorem d22_3 : decode jdk_67_method_42_code 3 = .ok (.dup, 1) := by decide +kernel
theorem d22_4 : decode jdk_67_method_42_code 4 = .ok (.aload_n 0, 1) := by decide +kernel
theorem d22_5 : decode jdk_67_method_42_code 5 = .ok (.invokespecial 137, 3) := by decide +kernel
theorem d22_8 : decode jdk_67_method_42_code 8 = .ok (.areturn, 1) := by decide +kernel
theorem pd_22__Ljava_lang_StringBuilder__V : parseMethodDescriptor "(Ljava/lang/StringBuilder;)V" = some ⟨[(.object "java/lang/StringBuilder")], none⟩ := by decide +kernel
theorem pn_rmTs4 : plainFor (⟨"java/lang/StringBuilder", "toString", "()Ljava/lang/String;"⟩ : MethodName) = true := by first | exact plainFor_of_name (by first | (simp [plainName, overriddenIn]; done) | decide +kernel) | exact Jvm.Free.JP.mathPlain rfl (by decide +kernel) | decide +kernel
theorem ef_rmTs4 (m : MethodId) (x0 : Nat) : entryFrame m #[(.ref x0)] 1 = mkF m 0 #[VR x0] [] := by first | (simp [entryFrame, mkF, argsToLocals, Value.category]; done) | rfl
set_option maxRecDepth 65536 in
set_option maxHeartbeats 40000000 in
theorem rmTs4 (l : Launch) (Z : State) (a0 : Array Value) (hw : ∀ d ∈ tables_1, d.before a0 Z = true) (ws : List Jvm.Cond) (a_INPUT_BIT a_OUTPUT_BIT a_OUTPUT_WORD a_INPUT_WORD a_MEMORY_WORD p_INPUT_BIT v_INPUT_BIT p_OUTPUT_WORD v_OUTPUT_WORD p_OUTPUT_BIT v_OUTPUT_BIT p_MEMORY_WORD v_MEMORY_WORD p_INPUT_WORD v_INPUT_WORD a_DigitOnes : Nat) (k_INPUT_BIT : ClassId) (k_OUTPUT_WORD : ClassId) (k_OUTPUT_BIT : ClassId) (k_MEMORY_WORD : ClassId) (k_INPUT_WORD : ClassId) (ucs : Int32) (uff : Value) (uc : Nat) (ub : Nat) (kb : ClassId) (ux0 : Int32) (ux1 : Int32) (ux2 : Int32) (ux3 : Int32) (h0 : Heap) (n0 : Nat) (Z0 : n0 ≤ h0.size) (O0 : Old Z n0 h0) (HW : own_W Z Z.heap a_INPUT_BIT a_OUTPUT_BIT a_OUTPUT_WORD a_INPUT_WORD a_MEMORY_WORD p_INPUT_BIT v_INPUT_BIT p_OUTPUT_WORD v_OUTPUT_WORD p_OUTPUT_BIT v_OUTPUT_BIT p_MEMORY_WORD v_MEMORY_WORD p_INPUT_WORD v_INPUT_WORD a_DigitOnes k_INPUT_BIT k_OUTPUT_WORD k_OUTPUT_BIT k_MEMORY_WORD k_INPUT_WORD ucs uff) (E_uc : Exa Z h0 uc "java/lang/StringBuilder") (F_uc_value : Fld Z h0 uc "java/lang/AbstractStringBuilder" "value" "[B" (.ref ub)) (F_uc_coder : Fld Z h0 uc "java/lang/AbstractStringBuilder" "coder" "B" (.int 0)) (F_uc_count : Fld Z h0 uc "java/lang/AbstractStringBuilder" "count" "I" (.int 4)) (V_ub : Arv Z h0 ub kb .byte (16 : Int32) [(.int ux0), (.int ux1), (.int ux2), (.int ux3), (.int 0), (.int 0), (.int 0), (.int 0), (.int 0), (.int 0), (.int 0), (.int 0), (.int 0), (.int 0), (.int 0), (.int 0)] (.int 0))   :
    MetFree l (⟨"java/lang/StringBuilder", "toString", "()Ljava/lang/String;"⟩ : MethodName) (head1 (Jvm.Cond.code (⟨"java/lang/StringBuilder", "toString", "()Ljava/lang/String;"⟩ : MethodName) jdk_67_method_42_code 1 (some (.object "java/lang/String")) :: ws) ({ frames := 5, cells := 2, slots := 8, locals := 112 } : Room)) (fun a U => a = #[(.ref uc)] ∧ Z.Warmed39 U.vm ∧ U.heap = h0) (fun _ _ _ _ _ => True) (fun _ U o U' => ∃ v L, o = .returned v ∧ (own_Q_rmTs4 Z uc ub kb ux0 ux1 ux2 ux3 h0 n0) v U'.heap L ∧ FrameEnd U o U' L 2 8) := by
  refine MetFree.of_bodySF pn_rmTs4 hisR ?_
  intro p e s m args below meth c s₁ Bd hml0 hP hK
  obtain ⟨rfl, hZ, hh⟩ := hP
  have hx := Bd.exec
  have hby := Bd.bytes
  have hml : c.maxLocals = 1 := hml0
  have hown : s.vm.findClass "java/lang/StringBuilder" = some m.cls := findClass_of_methodNamed Bd.named
  have hnm := (name_of_methodNamed Bd.named Bd.method).1
  have hrt := Bd.returns
  have hlk := Bd.notSynchronized
  have X0 : Stand p l e ({ frames := 5, cells := 2, slots := 8, locals := 112 } : Room) s m #[(.ref uc)] below meth c s₁ [] 0 0 := Stand.of_body Bd
  have e0 : s₁.heap = h0 := by rw [← hh, Bd.state]; rfl
  have N0 := Fr.nil n0
  have K0 := Keep.refl h0 []
  have lt_E_uc := own_lt E_uc.lt
  have lt_V_ub := own_lt V_ub.lt
  have nl_uc_ub := own_lg (Exa.neArv E_uc V_ub (own_hw 38 hw rfl))
  refine own_done (B := s₁.setTop (mkF m 0 #[VR uc] [])) (fun t k => castTop (ef_rmTs4 m uc) k) ?_
  obtain ⟨T1, h1, X1, e1, E1, A1, D1, -, st1⟩ := newO X0 hx hZ hown (own_hw 142 hw rfl) (own_hw 134 hw rfl) (own_hw 51 hw rfl) e0 (g := (mkF m 0 #[VR uc] [])) rfl (hb hby d22_0) (by decide) (by decide)
  obtain ⟨b1, g1⟩ : ∃ z, z = h0.size := ⟨_, rfl⟩
  rw [← g1] at A1 D1 st1
  have sz1 := E1.1
  have gn1 : n0 ≤ b1 := g1 ▸ own_old_le O0
  have fz1 : h0.size ≤ b1 := g1 ▸ K0.1
  have lt1 := own_lt A1.lt
  have O1 := O0.ext E1
  have K1 := K0.ext E1
  have F1_value : Fld Z h1 b1 "java/lang/String" "value" "[B" .null := D1 (Or.inr (own_hw 75 hw rfl)) (ty := (.array .byte)) (by decide)
  have F1_coder : Fld Z h1 b1 "java/lang/String" "coder" "B" (.int 0) := D1 (Or.inr (own_hw 83 hw rfl)) (ty := .byte) (by decide)
  refine own_by (B := T1.setTop (mkF m 3 #[VR uc] [(.ref b1)])) st1 ?_
  refine own_by (B := T1.setTop (mkF m 4 #[VR uc] [(.ref b1), (.ref b1)])) (fun _ k => XS.dup X1.here hx rfl (hb hby d22_3) rfl rfl k) ?_
  refine own_by (B := T1.setTop (mkF m 5 #[VR uc] [(.ref uc), (.ref b1), (.ref b1)])) (fun _ k => XS.aloadN X1.here hx rfl (hb hby d22_4) rfl rfl  k) ?_
  have c2 := (E_uc.ext E1)
  have c3 := (F_uc_value.ext E1)
  have c4 := (F_uc_coder.ext E1)
  have c5 := (F_uc_count.ext E1)
  have c6 := (V_ub.ext E1)
  obtain ⟨_, _, ⟨T7, L7, k7, n7⟩, -, X7, ⟨Lc7, hQ7, l7, y7, z7⟩, st7⟩ := X1.specialBack hx (y := (⟨"java/lang/String", "<init>", "(Ljava/lang/StringBuilder;)V"⟩ : MethodName)) rfl hown (mvT hZ (own_hw 143 hw rfl)) (mvT hZ (own_hw 144 hw rfl)) (mvT hZ (own_hw 146 hw rfl)) (by decide) (backOf (W := 1) (rmSi14 l Z a0 hw [] a_INPUT_BIT a_OUTPUT_BIT a_OUTPUT_WORD a_INPUT_WORD a_MEMORY_WORD p_INPUT_BIT v_INPUT_BIT p_OUTPUT_WORD v_OUTPUT_WORD p_OUTPUT_BIT v_OUTPUT_BIT p_MEMORY_WORD v_MEMORY_WORD p_INPUT_WORD v_INPUT_WORD a_DigitOnes k_INPUT_BIT k_OUTPUT_WORD k_OUTPUT_BIT k_MEMORY_WORD k_INPUT_WORD ucs uff b1 uc ub kb ux0 ux1 ux2 ux3 h1 n0 (own_old_le O1) O1 HW A1 F1_value F1_coder c2 c3 c4 c5 c6 gn1) hZ (own_hw 146 hw rfl) (own_hw 51 hw rfl) (by decide) (by decide)) (g := (mkF m 5 #[VR uc] [(.ref uc), (.ref b1), (.ref b1)])) rfl (by rw [hml]; rfl) (Steps.refl _) (a := b1) (argsL := [(.ref uc)]) (rest := [(.ref b1)]) (lenOf pd_22__Ljava_lang_StringBuilder__V rfl) rfl (by show 2 * 0 + _ ≤ _; exact Nat.le_of_eq rfl) (hb hby d22_5) (fun _ _ => ⟨rfl, e1, (by decide : 1 + 1 ≤ _), (by decide : 4 + 4 ≤ _)⟩)
  dsimp only [Pt.U, Pt.locs, Pt.cells, Pt.slots] at X7 l7 y7 z7 st7 hQ7
  subst l7 y7 z7
  obtain ⟨r0_N7, kr0_N7, rfl, NC7, KC7, hb0_N7, Q0_N7, Q1_N7, Q2_N7, Q3_N7⟩ := hQ7
  refine own_by (B := T7.setTop (mkF m 8 #[VR uc] [(.ref b1)])) (fun _ k => st7.trans k) ?_
  have gnr0_N7 : n0 ≤ r0_N7 := Nat.le_trans (own_old_le O1) hb0_N7
  have fzr0_N7 : h0.size ≤ r0_N7 := Nat.le_trans K1.1 hb0_N7
  obtain ⟨h7, e7⟩ : ∃ z, T7.heap = z := ⟨_, rfl⟩
  rw [e7] at KC7 Q0_N7 Q1_N7 Q2_N7 Q3_N7
  have sz7 := KC7.1
  have O7 := O1.keep KC7 (allS gn1 all0)
  have K7 := K1.trans KC7 (allS (Or.inr fz1) all0)
  have N7 := Fr.app N0 NC7
  have ltq3_7 := own_lt Q3_N7.lt
  exact own_retA X7 hx hrt rfl rfl hlk (hb hby d22_8) (by decide) (by decide) (by show own_Q_rmTs4 Z uc ub kb ux0 ux1 ux2 ux3 h0 n0 _ T7.heap _; rw [e7]; exact ⟨b1, r0_N7, kr0_N7, rfl, N7, K7, fz1, fzr0_N7, Q0_N7, Q1_N7, Q2_N7, Q3_N7⟩)

def own_Q_rmgv6 (Z : State) (uc : Nat) (ub : Nat) (kb : ClassId) (ux0 : Int32) (ux1 : Int32) (ux2 : Int32) (ux3 : Int32) (ux4 : Int32) (ux5 : Int32) (h0 : Heap) (n0 : Nat) (v : Option Value) (h : Heap) (L : List Loc) : Prop := v = some (.ref ub) ∧ Fr n0 L ∧ Keep h0 h []

theorem pn_rmgv6 : plainFor (⟨"java/lang/AbstractStringBuilder", "getValue", "()[B"⟩ : MethodName) = true := by first | exact plainFor_of_name (by first | (simp [plainName, overriddenIn]; done) | decide +kernel) | exact Jvm.Free.JP.mathPlain rfl (by decide +kernel) | decide +kernel
theorem ef_rmgv6 (m : MethodId) (x0 : Nat) : entryFrame m #[(.ref x0)] 1 = mkF m 0 #[VR x0] [] := by first | (simp [entryFrame, mkF, argsToLocals, Value.category]; done) | rfl
set_option maxRecDepth 65536 in
set_option maxHeartbeats 40000000 in
theorem rmgv6 (l : Launch) (Z : State) (a0 : Array Value) (hw : ∀ d ∈ tables_1, d.before a0 Z = true) (ws : List Jvm.Cond) (a_INPUT_BIT a_OUTPUT_BIT a_OUTPUT_WORD a_INPUT_WORD a_MEMORY_WORD p_INPUT_BIT v_INPUT_BIT p_OUTPUT_WORD v_OUTPUT_WORD p_OUTPUT_BIT v_OUTPUT_BIT p_MEMORY_WORD v_MEMORY_WORD p_INPUT_WORD v_INPUT_WORD a_DigitOnes : Nat) (k_INPUT_BIT : ClassId) (k_OUTPUT_WORD : ClassId) (k_OUTPUT_BIT : ClassId) (k_MEMORY_WORD : ClassId) (k_INPUT_WORD : ClassId) (ucs : Int32) (uff : Value) (uc : Nat) (ub : Nat) (kb : ClassId) (ux0 : Int32) (ux1 : Int32) (ux2 : Int32) (ux3 : Int32) (ux4 : Int32) (ux5 : Int32) (h0 : Heap) (n0 : Nat) (Z0 : n0 ≤ h0.size) (O0 : Old Z n0 h0) (HW : own_W Z Z.heap a_INPUT_BIT a_OUTPUT_BIT a_OUTPUT_WORD a_INPUT_WORD a_MEMORY_WORD p_INPUT_BIT v_INPUT_BIT p_OUTPUT_WORD v_OUTPUT_WORD p_OUTPUT_BIT v_OUTPUT_BIT p_MEMORY_WORD v_MEMORY_WORD p_INPUT_WORD v_INPUT_WORD a_DigitOnes k_INPUT_BIT k_OUTPUT_WORD k_OUTPUT_BIT k_MEMORY_WORD k_INPUT_WORD ucs uff) (E_uc : Exa Z h0 uc "java/lang/StringBuilder") (F_uc_value : Fld Z h0 uc "java/lang/AbstractStringBuilder" "value" "[B" (.ref ub)) (F_uc_coder : Fld Z h0 uc "java/lang/AbstractStringBuilder" "coder" "B" (.int 0)) (F_uc_count : Fld Z h0 uc "java/lang/AbstractStringBuilder" "count" "I" (.int 6)) (V_ub : Arv Z h0 ub kb .byte (16 : Int32) [(.int ux0), (.int ux1), (.int ux2), (.int ux3), (.int ux4), (.int ux5), (.int 0), (.int 0), (.int 0), (.int 0), (.int 0), (.int 0), (.int 0), (.int 0), (.int 0), (.int 0)] (.int 0))   :
    MetFree l (⟨"java/lang/AbstractStringBuilder", "getValue", "()[B"⟩ : MethodName) (head1 (Jvm.Cond.code (⟨"java/lang/AbstractStringBuilder", "getValue", "()[B"⟩ : MethodName) jdk_68_method_64_code 1 (some (.array .byte)) :: ws) ({ frames := 0, cells := 0, slots := 0, locals := 0 } : Room)) (fun a U => a = #[(.ref uc)] ∧ Z.Warmed39 U.vm ∧ U.heap = h0) (fun _ _ _ _ _ => True) (fun _ U o U' => ∃ v L, o = .returned v ∧ (own_Q_rmgv6 Z uc ub kb ux0 ux1 ux2 ux3 ux4 ux5 h0 n0) v U'.heap L ∧ FrameEnd U o U' L 0 0) := by
  refine MetFree.of_bodySF pn_rmgv6 hisR ?_
  intro p e s m args below meth c s₁ Bd hml0 hP hK
  obtain ⟨rfl, hZ, hh⟩ := hP
  have hx := Bd.exec
  have hby := Bd.bytes
  have hml : c.maxLocals = 1 := hml0
  have hown : s.vm.findClass "java/lang/AbstractStringBuilder" = some m.cls := findClass_of_methodNamed Bd.named
  have hnm := (name_of_methodNamed Bd.named Bd.method).1
  have hrt := Bd.returns
  have hlk := Bd.notSynchronized
  have X0 : Stand p l e ({ frames := 0, cells := 0, slots := 0, locals := 0 } : Room) s m #[(.ref uc)] below meth c s₁ [] 0 0 := Stand.of_body Bd
  have e0 : s₁.heap = h0 := by rw [← hh, Bd.state]; rfl
  have N0 := Fr.nil n0
  have K0 := Keep.refl h0 []
  have lt_E_uc := own_lt E_uc.lt
  have lt_V_ub := own_lt V_ub.lt
  have nl_uc_ub := own_lg (Exa.neArv E_uc V_ub (own_hw 38 hw rfl))
  refine own_done (B := s₁.setTop (mkF m 0 #[VR uc] [])) (fun t k => castTop (ef_rmgv6 m uc) k) ?_
  refine own_by (B := s₁.setTop (mkF m 1 #[VR uc] [(.ref uc)])) (fun _ k => XS.aloadN X0.here hx rfl (hb hby d25_0) rfl rfl  k) ?_
  obtain ⟨T1, X1, e1, st1⟩ := getF X0 hx hZ hown (host := "") (Or.inl (own_hw 53 hw rfl)) Via.refl e0 F_uc_value (g := (mkF m 1 #[VR uc] [(.ref uc)])) rfl rfl (hb hby d25_1)
  refine own_by (B := T1.setTop (mkF m 4 #[VR uc] [(.ref ub)])) st1 ?_
  exact own_retA X1 hx hrt rfl rfl hlk (hb hby d25_4) (by decide) (by decide) (by show own_Q_rmgv6 Z uc ub kb ux0 ux1 ux2 ux3 ux4 ux5 h0 n0 _ T1.heap _; rw [e1]; exact ⟨rfl, N0, K0⟩)

def own_Q_rmlat6 (Z : State) (uc : Nat) (ub : Nat) (kb : ClassId) (ux0 : Int32) (ux1 : Int32) (ux2 : Int32) (ux3 : Int32) (ux4 : Int32) (ux5 : Int32) (h0 : Heap) (n0 : Nat) (v : Option Value) (h : Heap) (L : List Loc) : Prop := v = some (.int 1) ∧ Fr n0 L ∧ Keep h0 h []

theorem pn_rmlat6 : plainFor (⟨"java/lang/AbstractStringBuilder", "isLatin1", "()Z"⟩ : MethodName) = true := by first | exact plainFor_of_name (by first | (simp [plainName, overriddenIn]; done) | decide +kernel) | exact Jvm.Free.JP.mathPlain rfl (by decide +kernel) | decide +kernel
theorem ef_rmlat6 (m : MethodId) (x0 : Nat) : entryFrame m #[(.ref x0)] 1 = mkF m 0 #[VR x0] [] := by first | (simp [entryFrame, mkF, argsToLocals, Value.category]; done) | rfl
set_option maxRecDepth 65536 in
set_option maxHeartbeats 40000000 in
theorem rmlat6 (l : Launch) (Z : State) (a0 : Array Value) (hw : ∀ d ∈ tables_1, d.before a0 Z = true) (ws : List Jvm.Cond) (a_INPUT_BIT a_OUTPUT_BIT a_OUTPUT_WORD a_INPUT_WORD a_MEMORY_WORD p_INPUT_BIT v_INPUT_BIT p_OUTPUT_WORD v_OUTPUT_WORD p_OUTPUT_BIT v_OUTPUT_BIT p_MEMORY_WORD v_MEMORY_WORD p_INPUT_WORD v_INPUT_WORD a_DigitOnes : Nat) (k_INPUT_BIT : ClassId) (k_OUTPUT_WORD : ClassId) (k_OUTPUT_BIT : ClassId) (k_MEMORY_WORD : ClassId) (k_INPUT_WORD : ClassId) (ucs : Int32) (uff : Value) (uc : Nat) (ub : Nat) (kb : ClassId) (ux0 : Int32) (ux1 : Int32) (ux2 : Int32) (ux3 : Int32) (ux4 : Int32) (ux5 : Int32) (h0 : Heap) (n0 : Nat) (Z0 : n0 ≤ h0.size) (O0 : Old Z n0 h0) (HW : own_W Z Z.heap a_INPUT_BIT a_OUTPUT_BIT a_OUTPUT_WORD a_INPUT_WORD a_MEMORY_WORD p_INPUT_BIT v_INPUT_BIT p_OUTPUT_WORD v_OUTPUT_WORD p_OUTPUT_BIT v_OUTPUT_BIT p_MEMORY_WORD v_MEMORY_WORD p_INPUT_WORD v_INPUT_WORD a_DigitOnes k_INPUT_BIT k_OUTPUT_WORD k_OUTPUT_BIT k_MEMORY_WORD k_INPUT_WORD ucs uff) (E_uc : Exa Z h0 uc "java/lang/StringBuilder") (F_uc_value : Fld Z h0 uc "java/lang/AbstractStringBuilder" "value" "[B" (.ref ub)) (F_uc_coder : Fld Z h0 uc "java/lang/AbstractStringBuilder" "coder" "B" (.int 0)) (F_uc_count : Fld Z h0 uc "java/lang/AbstractStringBuilder" "count" "I" (.int 6)) (V_ub : Arv Z h0 ub kb .byte (16 : Int32) [(.int ux0), (.int ux1), (.int ux2), (.int ux3), (.int ux4), (.int ux5), (.int 0), (.int 0), (.int 0), (.int 0), (.int 0), (.int 0), (.int 0), (.int 0), (.int 0), (.int 0)] (.int 0))   :
    MetFree l (⟨"java/lang/AbstractStringBuilder", "isLatin1", "()Z"⟩ : MethodName) (head1 (Jvm.Cond.code (⟨"java/lang/AbstractStringBuilder", "isLatin1", "()Z"⟩ : MethodName) jdk_68_method_68_code 1 (some .boolean) :: ws) ({ frames := 0, cells := 0, slots := 0, locals := 0 } : Room)) (fun a U => a = #[(.ref uc)] ∧ Z.Warmed39 U.vm ∧ U.heap = h0) (fun _ _ _ _ _ => True) (fun _ U o U' => ∃ v L, o = .returned v ∧ (own_Q_rmlat6 Z uc ub kb ux0 ux1 ux2 ux3 ux4 ux5 h0 n0) v U'.heap L ∧ FrameEnd U o U' L 0 0) := by
  refine MetFree.of_bodySF pn_rmlat6 hisR ?_
  intro p e s m args below meth c s₁ Bd hml0 hP hK
  obtain ⟨rfl, hZ, hh⟩ := hP
  have hx := Bd.exec
  have hby := Bd.bytes
  have hml : c.maxLocals = 1 := hml0
  have hown : s.vm.findClass "java/lang/AbstractStringBuilder" = some m.cls := findClass_of_methodNamed Bd.named
  have hnm := (name_of_methodNamed Bd.named Bd.method).1
  have hrt := Bd.returns
  have hlk := Bd.notSynchronized
  have X0 : Stand p l e ({ frames := 0, cells := 0, slots := 0, locals := 0 } : Room) s m #[(.ref uc)] below meth c s₁ [] 0 0 := Stand.of_body Bd
  have e0 : s₁.heap = h0 := by rw [← hh, Bd.state]; rfl
  have N0 := Fr.nil n0
  have K0 := Keep.refl h0 []
  have HW' := HW
  obtain ⟨-, -, -, -, -, -, -, -, -, -, -, -, -, -, -, -, -, -, -, -, -, -, -, -, -, -, -, -, -, -, -, -, -, -, -, -, -, -, -, -, S_CS, H_CS, -, -, -, -⟩ := HW'
  have lt_E_uc := own_lt E_uc.lt
  have lt_V_ub := own_lt V_ub.lt
  have nl_uc_ub := own_lg (Exa.neArv E_uc V_ub (own_hw 38 hw rfl))
  refine own_done (B := s₁.setTop (mkF m 0 #[VR uc] [])) (fun t k => castTop (ef_rmlat6 m uc) k) ?_
  obtain ⟨T1, X1, e1, st1⟩ := getS2 X0 hx hZ hown (host := "") (Or.inl (own_hw 50 hw rfl)) Via.refl e0 (S_CS.ext O0.2) (g := (mkF m 0 #[VR uc] [])) rfl (hb hby d20_0)
  refine own_by (B := T1.setTop (mkF m 3 #[VR uc] [(.int ucs)])) st1 ?_
  refine own_by (B := T1.setTop (mkF m 6 #[VR uc] [])) (fun _ k => XS.ifNo X1.here hx rfl (hb hby d20_3) rfl (XT.i0_eq_f H_CS) k) ?_
  refine own_by (B := T1.setTop (mkF m 7 #[VR uc] [(.ref uc)])) (fun _ k => XS.aloadN X1.here hx rfl (hb hby d20_6) rfl rfl  k) ?_
  obtain ⟨T2, X2, e2, st2⟩ := getF X1 hx hZ hown (host := "") (Or.inl (own_hw 55 hw rfl)) Via.refl e1 F_uc_coder (g := (mkF m 7 #[VR uc] [(.ref uc)])) rfl rfl (hb hby d20_7)
  refine own_by (B := T2.setTop (mkF m 10 #[VR uc] [(.int 0)])) st2 ?_
  refine own_by (B := T2.setTop (mkF m 13 #[VR uc] [])) (fun _ k => XS.ifNo X2.here hx rfl (hb hby d20_10) rfl (XT.i0_ne_f (by decide)) k) ?_
  refine own_by (B := T2.setTop (mkF m 14 #[VR uc] [(.int 1)])) (fun _ k => XS.iconst X2.here hx rfl (hb hby d20_13) k) ?_
  refine own_by (B := T2.setTop (mkF m 18 #[VR uc] [(.int 1)])) (fun _ k => XS.goto X2.here hx rfl (pc0 := 14) (pc' := 18) rfl (hb hby d20_14) (by decide) (by decide) k) ?_
  exact own_retZ X2 hx hrt hlk rfl (hb hby d20_18) (by decide) (by decide) (by show own_Q_rmlat6 Z uc ub kb ux0 ux1 ux2 ux3 ux4 ux5 h0 n0 _ T2.heap _; rw [e2]; exact ⟨rfl, N0, K0⟩)

def own_Q_rmal6 (Z : State) (uc : Nat) (ub : Nat) (kb : ClassId) (ux0 : Int32) (ux1 : Int32) (ux2 : Int32) (ux3 : Int32) (ux4 : Int32) (ux5 : Int32) (h0 : Heap) (n0 : Nat) (v : Option Value) (h : Heap) (L : List Loc) : Prop := v = some (.int 6) ∧ Fr n0 L ∧ Keep h0 h []

theorem pn_rmal6 : plainFor (⟨"java/lang/AbstractStringBuilder", "length", "()I"⟩ : MethodName) = true := by first | exact plainFor_of_name (by first | (simp [plainName, overriddenIn]; done) | decide +kernel) | exact Jvm.Free.JP.mathPlain rfl (by decide +kernel) | decide +kernel
theorem ef_rmal6 (m : MethodId) (x0 : Nat) : entryFrame m #[(.ref x0)] 1 = mkF m 0 #[VR x0] [] := by first | (simp [entryFrame, mkF, argsToLocals, Value.category]; done) | rfl
set_option maxRecDepth 65536 in
set_option maxHeartbeats 40000000 in
theorem rmal6 (l : Launch) (Z : State) (a0 : Array Value) (hw : ∀ d ∈ tables_1, d.before a0 Z = true) (ws : List Jvm.Cond) (a_INPUT_BIT a_OUTPUT_BIT a_OUTPUT_WORD a_INPUT_WORD a_MEMORY_WORD p_INPUT_BIT v_INPUT_BIT p_OUTPUT_WORD v_OUTPUT_WORD p_OUTPUT_BIT v_OUTPUT_BIT p_MEMORY_WORD v_MEMORY_WORD p_INPUT_WORD v_INPUT_WORD a_DigitOnes : Nat) (k_INPUT_BIT : ClassId) (k_OUTPUT_WORD : ClassId) (k_OUTPUT_BIT : ClassId) (k_MEMORY_WORD : ClassId) (k_INPUT_WORD : ClassId) (ucs : Int32) (uff : Value) (uc : Nat) (ub : Nat) (kb : ClassId) (ux0 : Int32) (ux1 : Int32) (ux2 : Int32) (ux3 : Int32) (ux4 : Int32) (ux5 : Int32) (h0 : Heap) (n0 : Nat) (Z0 : n0 ≤ h0.size) (O0 : Old Z n0 h0) (HW : own_W Z Z.heap a_INPUT_BIT a_OUTPUT_BIT a_OUTPUT_WORD a_INPUT_WORD a_MEMORY_WORD p_INPUT_BIT v_INPUT_BIT p_OUTPUT_WORD v_OUTPUT_WORD p_OUTPUT_BIT v_OUTPUT_BIT p_MEMORY_WORD v_MEMORY_WORD p_INPUT_WORD v_INPUT_WORD a_DigitOnes k_INPUT_BIT k_OUTPUT_WORD k_OUTPUT_BIT k_MEMORY_WORD k_INPUT_WORD ucs uff) (E_uc : Exa Z h0 uc "java/lang/StringBuilder") (F_uc_value : Fld Z h0 uc "java/lang/AbstractStringBuilder" "value" "[B" (.ref ub)) (F_uc_coder : Fld Z h0 uc "java/lang/AbstractStringBuilder" "coder" "B" (.int 0)) (F_uc_count : Fld Z h0 uc "java/lang/AbstractStringBuilder" "count" "I" (.int 6)) (V_ub : Arv Z h0 ub kb .byte (16 : Int32) [(.int ux0), (.int ux1), (.int ux2), (.int ux3), (.int ux4), (.int ux5), (.int 0), (.int 0), (.int 0), (.int 0), (.int 0), (.int 0), (.int 0), (.int 0), (.int 0), (.int 0)] (.int 0))   :
    MetFree l (⟨"java/lang/AbstractStringBuilder", "length", "()I"⟩ : MethodName) (head1 (Jvm.Cond.code (⟨"java/lang/AbstractStringBuilder", "length", "()I"⟩ : MethodName) jdk_68_method_6_code 1 (some .int) :: ws) ({ frames := 0, cells := 0, slots := 0, locals := 0 } : Room)) (fun a U => a = #[(.ref uc)] ∧ Z.Warmed39 U.vm ∧ U.heap = h0) (fun _ _ _ _ _ => True) (fun _ U o U' => ∃ v L, o = .returned v ∧ (own_Q_rmal6 Z uc ub kb ux0 ux1 ux2 ux3 ux4 ux5 h0 n0) v U'.heap L ∧ FrameEnd U o U' L 0 0) := by
  refine MetFree.of_bodySF pn_rmal6 hisR ?_
  intro p e s m args below meth c s₁ Bd hml0 hP hK
  obtain ⟨rfl, hZ, hh⟩ := hP
  have hx := Bd.exec
  have hby := Bd.bytes
  have hml : c.maxLocals = 1 := hml0
  have hown : s.vm.findClass "java/lang/AbstractStringBuilder" = some m.cls := findClass_of_methodNamed Bd.named
  have hnm := (name_of_methodNamed Bd.named Bd.method).1
  have hrt := Bd.returns
  have hlk := Bd.notSynchronized
  have X0 : Stand p l e ({ frames := 0, cells := 0, slots := 0, locals := 0 } : Room) s m #[(.ref uc)] below meth c s₁ [] 0 0 := Stand.of_body Bd
  have e0 : s₁.heap = h0 := by rw [← hh, Bd.state]; rfl
  have N0 := Fr.nil n0
  have K0 := Keep.refl h0 []
  have lt_E_uc := own_lt E_uc.lt
  have lt_V_ub := own_lt V_ub.lt
  have nl_uc_ub := own_lg (Exa.neArv E_uc V_ub (own_hw 38 hw rfl))
  refine own_done (B := s₁.setTop (mkF m 0 #[VR uc] [])) (fun t k => castTop (ef_rmal6 m uc) k) ?_
  refine own_by (B := s₁.setTop (mkF m 1 #[VR uc] [(.ref uc)])) (fun _ k => XS.aloadN X0.here hx rfl (hb hby d27_0) rfl rfl  k) ?_
  obtain ⟨T1, X1, e1, st1⟩ := getF X0 hx hZ hown (host := "") (Or.inl (own_hw 84 hw rfl)) Via.refl e0 F_uc_count (g := (mkF m 1 #[VR uc] [(.ref uc)])) rfl rfl (hb hby d27_1)
  refine own_by (B := T1.setTop (mkF m 4 #[VR uc] [(.int 6)])) st1 ?_
  exact own_retI X1 hx hrt hlk (hb hby d27_4) (by decide) (by decide) (by show own_Q_rmal6 Z uc ub kb ux0 ux1 ux2 ux3 ux4 ux5 h0 n0 _ T1.heap _; rw [e1]; exact ⟨rfl, N0, K0⟩)

def own_Q_rmsl6 (Z : State) (uc : Nat) (ub : Nat) (kb : ClassId) (ux0 : Int32) (ux1 : Int32) (ux2 : Int32) (ux3 : Int32) (ux4 : Int32) (ux5 : Int32) (h0 : Heap) (n0 : Nat) (v : Option Value) (h : Heap) (L : List Loc) : Prop := v = some (.int 6) ∧ Fr n0 L ∧ Keep h0 h []

theorem pn_rmsl6 : plainFor (⟨"java/lang/StringBuilder", "length", "()I"⟩ : MethodName) = true := by first | exact plainFor_of_name (by first | (simp [plainName, overriddenIn]; done) | decide +kernel) | exact Jvm.Free.JP.mathPlain rfl (by decide +kernel) | decide +kernel
theorem ef_rmsl6 (m : MethodId) (x0 : Nat) : entryFrame m #[(.ref x0)] 1 = mkF m 0 #[VR x0] [] := by first | (simp [entryFrame, mkF, argsToLocals, Value.category]; done) | rfl
set_option maxRecDepth 65536 in
set_option maxHeartbeats 40000000 in
theorem rmsl6 (l : Launch) (Z : State) (a0 : Array Value) (hw : ∀ d ∈ tables_1, d.before a0 Z = true) (ws : List Jvm.Cond) (a_INPUT_BIT a_OUTPUT_BIT a_OUTPUT_WORD a_INPUT_WORD a_MEMORY_WORD p_INPUT_BIT v_INPUT_BIT p_OUTPUT_WORD v_OUTPUT_WORD p_OUTPUT_BIT v_OUTPUT_BIT p_MEMORY_WORD v_MEMORY_WORD p_INPUT_WORD v_INPUT_WORD a_DigitOnes : Nat) (k_INPUT_BIT : ClassId) (k_OUTPUT_WORD : ClassId) (k_OUTPUT_BIT : ClassId) (k_MEMORY_WORD : ClassId) (k_INPUT_WORD : ClassId) (ucs : Int32) (uff : Value) (uc : Nat) (ub : Nat) (kb : ClassId) (ux0 : Int32) (ux1 : Int32) (ux2 : Int32) (ux3 : Int32) (ux4 : Int32) (ux5 : Int32) (h0 : Heap) (n0 : Nat) (Z0 : n0 ≤ h0.size) (O0 : Old Z n0 h0) (HW : own_W Z Z.heap a_INPUT_BIT a_OUTPUT_BIT a_OUTPUT_WORD a_INPUT_WORD a_MEMORY_WORD p_INPUT_BIT v_INPUT_BIT p_OUTPUT_WORD v_OUTPUT_WORD p_OUTPUT_BIT v_OUTPUT_BIT p_MEMORY_WORD v_MEMORY_WORD p_INPUT_WORD v_INPUT_WORD a_DigitOnes k_INPUT_BIT k_OUTPUT_WORD k_OUTPUT_BIT k_MEMORY_WORD k_INPUT_WORD ucs uff) (E_uc : Exa Z h0 uc "java/lang/StringBuilder") (F_uc_value : Fld Z h0 uc "java/lang/AbstractStringBuilder" "value" "[B" (.ref ub)) (F_uc_coder : Fld Z h0 uc "java/lang/AbstractStringBuilder" "coder" "B" (.int 0)) (F_uc_count : Fld Z h0 uc "java/lang/AbstractStringBuilder" "count" "I" (.int 6)) (V_ub : Arv Z h0 ub kb .byte (16 : Int32) [(.int ux0), (.int ux1), (.int ux2), (.int ux3), (.int ux4), (.int ux5), (.int 0), (.int 0), (.int 0), (.int 0), (.int 0), (.int 0), (.int 0), (.int 0), (.int 0), (.int 0)] (.int 0))   :
    MetFree l (⟨"java/lang/StringBuilder", "length", "()I"⟩ : MethodName) (head1 (Jvm.Cond.code (⟨"java/lang/StringBuilder", "length", "()I"⟩ : MethodName) jdk_67_method_93_code 1 (some .int) :: ws) ({ frames := 1, cells := 0, slots := 0, locals := 12 } : Room)) (fun a U => a = #[(.ref uc)] ∧ Z.Warmed39 U.vm ∧ U.heap = h0) (fun _ _ _ _ _ => True) (fun _ U o U' => ∃ v L, o = .returned v ∧ (own_Q_rmsl6 Z uc ub kb ux0 ux1 ux2 ux3 ux4 ux5 h0 n0) v U'.heap L ∧ FrameEnd U o U' L 0 0) := by
  refine MetFree.of_bodySF pn_rmsl6 hisR ?_
  intro p e s m args below meth c s₁ Bd hml0 hP hK
  obtain ⟨rfl, hZ, hh⟩ := hP
  have hx := Bd.exec
  have hby := Bd.bytes
  have hml : c.maxLocals = 1 := hml0
  have hown : s.vm.findClass "java/lang/StringBuilder" = some m.cls := findClass_of_methodNamed Bd.named
  have hnm := (name_of_methodNamed Bd.named Bd.method).1
  have hrt := Bd.returns
  have hlk := Bd.notSynchronized
  have X0 : Stand p l e ({ frames := 1, cells := 0, slots := 0, locals := 12 } : Room) s m #[(.ref uc)] below meth c s₁ [] 0 0 := Stand.of_body Bd
  have e0 : s₁.heap = h0 := by rw [← hh, Bd.state]; rfl
  have N0 := Fr.nil n0
  have K0 := Keep.refl h0 []
  have lt_E_uc := own_lt E_uc.lt
  have lt_V_ub := own_lt V_ub.lt
  have nl_uc_ub := own_lg (Exa.neArv E_uc V_ub (own_hw 38 hw rfl))
  refine own_done (B := s₁.setTop (mkF m 0 #[VR uc] [])) (fun t k => castTop (ef_rmsl6 m uc) k) ?_
  refine own_by (B := s₁.setTop (mkF m 1 #[VR uc] [(.ref uc)])) (fun _ k => XS.aloadN X0.here hx rfl (hb hby d26_0) rfl rfl  k) ?_
  obtain ⟨_, _, ⟨T1, L1, k1, n1⟩, -, X1, ⟨Lc1, hQ1, l1, y1, z1⟩, st1⟩ := superBack X0 hx hZ (y := (⟨"java/lang/AbstractStringBuilder", "length", "()I"⟩ : MethodName)) (K := "java/lang/StringBuilder") hown (own_hw 162 hw rfl) (own_sameM (y := (⟨"java/lang/AbstractStringBuilder", "length", "()I"⟩ : MethodName)) (w := (⟨"java/lang/AbstractStringBuilder", "isLatin1", "()Z"⟩ : MethodName)) (own_hw 157 hw rfl) (own_hw 127 hw rfl) rfl (by decide)) (own_hw 158 hw rfl) (own_hw 66 hw rfl) (by decide) (backOf (W := 0) (rmal6 l Z a0 hw [] a_INPUT_BIT a_OUTPUT_BIT a_OUTPUT_WORD a_INPUT_WORD a_MEMORY_WORD p_INPUT_BIT v_INPUT_BIT p_OUTPUT_WORD v_OUTPUT_WORD p_OUTPUT_BIT v_OUTPUT_BIT p_MEMORY_WORD v_MEMORY_WORD p_INPUT_WORD v_INPUT_WORD a_DigitOnes k_INPUT_BIT k_OUTPUT_WORD k_OUTPUT_BIT k_MEMORY_WORD k_INPUT_WORD ucs uff uc ub kb ux0 ux1 ux2 ux3 ux4 ux5 h0 n0 (own_old_le O0) O0 HW E_uc F_uc_value F_uc_coder F_uc_count V_ub) hZ (own_hw 163 hw rfl) (own_hw 47 hw rfl) (by decide) (by decide)) e0 (Ins.self E_uc) (g := (mkF m 1 #[VR uc] [(.ref uc)])) rfl (by rw [hml]; rfl) (own_hw 163 hw rfl) (argsL := []) (rest := []) (lenOf pd_26___I rfl) rfl (by show 2 * 0 + _ ≤ _; exact Nat.le_of_eq rfl) (hb hby d26_1) (fun _ _ => ⟨rfl, e0, (by decide : 0 + 0 ≤ _), (by decide : 0 + 0 ≤ _)⟩)
  dsimp only [Pt.U, Pt.locs, Pt.cells, Pt.slots] at X1 l1 y1 z1 st1 hQ1
  subst l1 y1 z1
  obtain ⟨rfl, NC1, KC1⟩ := hQ1
  refine own_by (B := T1.setTop (mkF m 4 #[VR uc] [(.int 6)])) (fun _ k => st1.trans k) ?_
  obtain ⟨h1, e1⟩ : ∃ z, T1.heap = z := ⟨_, rfl⟩
  rw [e1] at KC1
  have sz1 := KC1.1
  have O1 := O0.keep KC1 all0
  have K1 := K0.trans KC1 all0
  have N1 := Fr.app N0 NC1
  exact own_retI X1 hx hrt hlk (hb hby d26_4) (by decide) (by decide) (by show own_Q_rmsl6 Z uc ub kb ux0 ux1 ux2 ux3 ux4 ux5 h0 n0 _ T1.heap _; rw [e1]; exact ⟨rfl, N1, K1⟩)

def own_Q_rmMin6 (Z : State)  (h0 : Heap) (n0 : Nat) (v : Option Value) (h : Heap) (L : List Loc) : Prop := v = some (.int 6) ∧ Fr n0 L ∧ Keep h0 h []

theorem pn_rmMin6 : plainFor (⟨"java/lang/Math", "min", "(II)I"⟩ : MethodName) = true := by first | exact plainFor_of_name (by first | (simp [plainName, overriddenIn]; done) | decide +kernel) | exact Jvm.Free.JP.mathPlain rfl (by decide +kernel) | decide +kernel
theorem ef_rmMin6 (m : MethodId) (x0 : Int32) (x1 : Int32) : entryFrame m #[(.int x0), (.int x1)] 2 = mkF m 0 #[VI x0, VI x1] [] := by first | (simp [entryFrame, mkF, argsToLocals, Value.category]; done) | rfl
set_option maxRecDepth 65536 in
set_option maxHeartbeats 40000000 in
theorem rmMin6 (l : Launch) (Z : State) (a0 : Array Value) (hw : ∀ d ∈ tables_1, d.before a0 Z = true) (ws : List Jvm.Cond) (a_INPUT_BIT a_OUTPUT_BIT a_OUTPUT_WORD a_INPUT_WORD a_MEMORY_WORD p_INPUT_BIT v_INPUT_BIT p_OUTPUT_WORD v_OUTPUT_WORD p_OUTPUT_BIT v_OUTPUT_BIT p_MEMORY_WORD v_MEMORY_WORD p_INPUT_WORD v_INPUT_WORD a_DigitOnes : Nat) (k_INPUT_BIT : ClassId) (k_OUTPUT_WORD : ClassId) (k_OUTPUT_BIT : ClassId) (k_MEMORY_WORD : ClassId) (k_INPUT_WORD : ClassId) (ucs : Int32) (uff : Value)  (h0 : Heap) (n0 : Nat) (Z0 : n0 ≤ h0.size) (O0 : Old Z n0 h0) (HW : own_W Z Z.heap a_INPUT_BIT a_OUTPUT_BIT a_OUTPUT_WORD a_INPUT_WORD a_MEMORY_WORD p_INPUT_BIT v_INPUT_BIT p_OUTPUT_WORD v_OUTPUT_WORD p_OUTPUT_BIT v_OUTPUT_BIT p_MEMORY_WORD v_MEMORY_WORD p_INPUT_WORD v_INPUT_WORD a_DigitOnes k_INPUT_BIT k_OUTPUT_WORD k_OUTPUT_BIT k_MEMORY_WORD k_INPUT_WORD ucs uff)    :
    MetFree l (⟨"java/lang/Math", "min", "(II)I"⟩ : MethodName) (head1 (Jvm.Cond.code (⟨"java/lang/Math", "min", "(II)I"⟩ : MethodName) jdk_29_method_69_code 2 (some .int) :: ws) ({ frames := 0, cells := 0, slots := 0, locals := 0 } : Room)) (fun a U => a = #[(.int 16), (.int 6)] ∧ Z.Warmed39 U.vm ∧ U.heap = h0) (fun _ _ _ _ _ => True) (fun _ U o U' => ∃ v L, o = .returned v ∧ (own_Q_rmMin6 Z  h0 n0) v U'.heap L ∧ FrameEnd U o U' L 0 0) := by
  refine MetFree.of_bodySF pn_rmMin6 hisR ?_
  intro p e s m args below meth c s₁ Bd hml0 hP hK
  obtain ⟨rfl, hZ, hh⟩ := hP
  have hx := Bd.exec
  have hby := Bd.bytes
  have hml : c.maxLocals = 2 := hml0
  have hown : s.vm.findClass "java/lang/Math" = some m.cls := findClass_of_methodNamed Bd.named
  have hnm := (name_of_methodNamed Bd.named Bd.method).1
  have hrt := Bd.returns
  have hlk := Bd.notSynchronized
  have X0 : Stand p l e ({ frames := 0, cells := 0, slots := 0, locals := 0 } : Room) s m #[(.int 16), (.int 6)] below meth c s₁ [] 0 0 := Stand.of_body Bd
  have e0 : s₁.heap = h0 := by rw [← hh, Bd.state]; rfl
  have N0 := Fr.nil n0
  have K0 := Keep.refl h0 []
  refine own_done (B := s₁.setTop (mkF m 0 #[VI 16, VI 6] [])) (fun t k => castTop (ef_rmMin6 m (16 : Int32) (6 : Int32)) k) ?_
  refine own_by (B := s₁.setTop (mkF m 1 #[VI 16, VI 6] [(.int 16)])) (fun _ k => XS.iloadN X0.here hx rfl (hb hby d31_0) rfl  k) ?_
  refine own_by (B := s₁.setTop (mkF m 2 #[VI 16, VI 6] [(.int 6), (.int 16)])) (fun _ k => XS.iloadN X0.here hx rfl (hb hby d31_1) rfl  k) ?_
  refine own_by (B := s₁.setTop (mkF m 9 #[VI 16, VI 6] [])) (fun _ k => XS.icmpYes X0.here hx rfl (pc0 := 2) (pc' := 9) rfl (hb hby d31_2) rfl (XT.ii_gt_t (by decide)) (by decide) (by decide) k) ?_
  refine own_by (B := s₁.setTop (mkF m 10 #[VI 16, VI 6] [(.int 6)])) (fun _ k => XS.iloadN X0.here hx rfl (hb hby d31_9) rfl  k) ?_
  exact own_retI X0 hx hrt hlk (hb hby d31_10) (by decide) (by decide) (by show own_Q_rmMin6 Z  h0 n0 _ s₁.heap _; rw [e0]; exact ⟨rfl, N0, K0⟩)

def own_Q_rmChk6 (Z : State)  (h0 : Heap) (n0 : Nat) (v : Option Value) (h : Heap) (L : List Loc) : Prop := v = none ∧ Fr n0 L ∧ Keep h0 h []

theorem pn_rmChk6 : plainFor (⟨"java/util/Arrays", "checkLength", "(II)V"⟩ : MethodName) = true := by first | exact plainFor_of_name (by first | (simp [plainName, overriddenIn]; done) | decide +kernel) | exact Jvm.Free.JP.mathPlain rfl (by decide +kernel) | decide +kernel
theorem ef_rmChk6 (m : MethodId) (x0 : Int32) (x1 : Int32) : entryFrame m #[(.int x0), (.int x1)] 2 = mkF m 0 #[VI x0, VI x1] [] := by first | (simp [entryFrame, mkF, argsToLocals, Value.category]; done) | rfl
set_option maxRecDepth 65536 in
set_option maxHeartbeats 40000000 in
theorem rmChk6 (l : Launch) (Z : State) (a0 : Array Value) (hw : ∀ d ∈ tables_1, d.before a0 Z = true) (ws : List Jvm.Cond) (a_INPUT_BIT a_OUTPUT_BIT a_OUTPUT_WORD a_INPUT_WORD a_MEMORY_WORD p_INPUT_BIT v_INPUT_BIT p_OUTPUT_WORD v_OUTPUT_WORD p_OUTPUT_BIT v_OUTPUT_BIT p_MEMORY_WORD v_MEMORY_WORD p_INPUT_WORD v_INPUT_WORD a_DigitOnes : Nat) (k_INPUT_BIT : ClassId) (k_OUTPUT_WORD : ClassId) (k_OUTPUT_BIT : ClassId) (k_MEMORY_WORD : ClassId) (k_INPUT_WORD : ClassId) (ucs : Int32) (uff : Value)  (h0 : Heap) (n0 : Nat) (Z0 : n0 ≤ h0.size) (O0 : Old Z n0 h0) (HW : own_W Z Z.heap a_INPUT_BIT a_OUTPUT_BIT a_OUTPUT_WORD a_INPUT_WORD a_MEMORY_WORD p_INPUT_BIT v_INPUT_BIT p_OUTPUT_WORD v_OUTPUT_WORD p_OUTPUT_BIT v_OUTPUT_BIT p_MEMORY_WORD v_MEMORY_WORD p_INPUT_WORD v_INPUT_WORD a_DigitOnes k_INPUT_BIT k_OUTPUT_WORD k_OUTPUT_BIT k_MEMORY_WORD k_INPUT_WORD ucs uff)    :
    MetFree l (⟨"java/util/Arrays", "checkLength", "(II)V"⟩ : MethodName) (head1 (Jvm.Cond.code (⟨"java/util/Arrays", "checkLength", "(II)V"⟩ : MethodName) jdk_65_method_131_code 2 none :: ws) ({ frames := 0, cells := 0, slots := 0, locals := 0 } : Room)) (fun a U => a = #[(.int 0), (.int 6)] ∧ Z.Warmed39 U.vm ∧ U.heap = h0) (fun _ _ _ _ _ => True) (fun _ U o U' => ∃ v L, o = .returned v ∧ (own_Q_rmChk6 Z  h0 n0) v U'.heap L ∧ FrameEnd U o U' L 0 0) := by
  refine MetFree.of_bodySF pn_rmChk6 hisR ?_
  intro p e s m args below meth c s₁ Bd hml0 hP hK
  obtain ⟨rfl, hZ, hh⟩ := hP
  have hx := Bd.exec
  have hby := Bd.bytes
  have hml : c.maxLocals = 2 := hml0
  have hown : s.vm.findClass "java/util/Arrays" = some m.cls := findClass_of_methodNamed Bd.named
  have hnm := (name_of_methodNamed Bd.named Bd.method).1
  have hrt := Bd.returns
  have hlk := Bd.notSynchronized
  have X0 : Stand p l e ({ frames := 0, cells := 0, slots := 0, locals := 0 } : Room) s m #[(.int 0), (.int 6)] below meth c s₁ [] 0 0 := Stand.of_body Bd
  have e0 : s₁.heap = h0 := by rw [← hh, Bd.state]; rfl
  have N0 := Fr.nil n0
  have K0 := Keep.refl h0 []
  refine own_done (B := s₁.setTop (mkF m 0 #[VI 0, VI 6] [])) (fun t k => castTop (ef_rmChk6 m (0 : Int32) (6 : Int32)) k) ?_
  refine own_by (B := s₁.setTop (mkF m 1 #[VI 0, VI 6] [(.int 6)])) (fun _ k => XS.iloadN X0.here hx rfl (hb hby d30_0) rfl  k) ?_
  refine own_by (B := s₁.setTop (mkF m 2 #[VI 0, VI 6] [(.int 0), (.int 6)])) (fun _ k => XS.iloadN X0.here hx rfl (hb hby d30_1) rfl  k) ?_
  refine own_by (B := s₁.setTop (mkF m 37 #[VI 0, VI 6] [])) (fun _ k => XS.icmpYes X0.here hx rfl (pc0 := 2) (pc' := 37) rfl (hb hby d30_2) rfl (XT.ii_ge_t (by decide)) (by decide) (by decide) k) ?_
  exact own_retV X0 hx hrt hlk (hb hby d30_37) (by decide) (by decide) (by show own_Q_rmChk6 Z  h0 n0 _ s₁.heap _; rw [e0]; exact ⟨rfl, N0, K0⟩)

def own_Q_rmCrb6 (Z : State) (ub : Nat) (kb : ClassId) (ux0 : Int32) (ux1 : Int32) (ux2 : Int32) (ux3 : Int32) (ux4 : Int32) (ux5 : Int32) (h0 : Heap) (n0 : Nat) (v : Option Value) (h : Heap) (L : List Loc) : Prop := ∃ (r0_ : Nat) (kr0_ : ClassId), v = some (.ref r0_) ∧ Fr n0 L ∧ Keep h0 h [] ∧ h0.size ≤ r0_ ∧ Arv Z h r0_ kr0_ .byte (6 : Int32) [(.int ux0), (.int ux1), (.int ux2), (.int ux3), (.int ux4), (.int ux5)] (.int 0)

theorem pn_rmCrb6 : plainFor (⟨"java/util/Arrays", "copyOfRangeByte", "([BII)[B"⟩ : MethodName) = true := by first | exact plainFor_of_name (by first | (simp [plainName, overriddenIn]; done) | decide +kernel) | exact Jvm.Free.JP.mathPlain rfl (by decide +kernel) | decide +kernel
theorem ef_rmCrb6 (m : MethodId) (x0 : Nat) (x1 : Int32) (x2 : Int32) : entryFrame m #[(.ref x0), (.int x1), (.int x2)] 5 = mkF m 0 #[VR x0, VI x1, VI x2, UU, UU] [] := by first | (simp [entryFrame, mkF, argsToLocals, Value.category]; done) | rfl
set_option maxRecDepth 65536 in
set_option maxHeartbeats 40000000 in
theorem rmCrb6 (l : Launch) (Z : State) (a0 : Array Value) (hw : ∀ d ∈ tables_1, d.before a0 Z = true) (ws : List Jvm.Cond) (a_INPUT_BIT a_OUTPUT_BIT a_OUTPUT_WORD a_INPUT_WORD a_MEMORY_WORD p_INPUT_BIT v_INPUT_BIT p_OUTPUT_WORD v_OUTPUT_WORD p_OUTPUT_BIT v_OUTPUT_BIT p_MEMORY_WORD v_MEMORY_WORD p_INPUT_WORD v_INPUT_WORD a_DigitOnes : Nat) (k_INPUT_BIT : ClassId) (k_OUTPUT_WORD : ClassId) (k_OUTPUT_BIT : ClassId) (k_MEMORY_WORD : ClassId) (k_INPUT_WORD : ClassId) (ucs : Int32) (uff : Value) (ub : Nat) (kb : ClassId) (ux0 : Int32) (ux1 : Int32) (ux2 : Int32) (ux3 : Int32) (ux4 : Int32) (ux5 : Int32) (h0 : Heap) (n0 : Nat) (Z0 : n0 ≤ h0.size) (O0 : Old Z n0 h0) (HW : own_W Z Z.heap a_INPUT_BIT a_OUTPUT_BIT a_OUTPUT_WORD a_INPUT_WORD a_MEMORY_WORD p_INPUT_BIT v_INPUT_BIT p_OUTPUT_WORD v_OUTPUT_WORD p_OUTPUT_BIT v_OUTPUT_BIT p_MEMORY_WORD v_MEMORY_WORD p_INPUT_WORD v_INPUT_WORD a_DigitOnes k_INPUT_BIT k_OUTPUT_WORD k_OUTPUT_BIT k_MEMORY_WORD k_INPUT_WORD ucs uff) (V_ub : Arv Z h0 ub kb .byte (16 : Int32) [(.int ux0), (.int ux1), (.int ux2), (.int ux3), (.int ux4), (.int ux5), (.int 0), (.int 0), (.int 0), (.int 0), (.int 0), (.int 0), (.int 0), (.int 0), (.int 0), (.int 0)] (.int 0))   :
    MetFree l (⟨"java/util/Arrays", "copyOfRangeByte", "([BII)[B"⟩ : MethodName) (head1 (Jvm.Cond.code (⟨"java/util/Arrays", "copyOfRangeByte", "([BII)[B"⟩ : MethodName) jdk_65_method_133_code 5 (some (.array .byte)) :: ws) ({ frames := 1, cells := 1, slots := 6, locals := 51 } : Room)) (fun a U => a = #[(.ref ub), (.int 0), (.int 6)] ∧ Z.Warmed39 U.vm ∧ U.heap = h0) (fun _ _ _ _ _ => True) (fun _ U o U' => ∃ v L, o = .returned v ∧ (own_Q_rmCrb6 Z ub kb ux0 ux1 ux2 ux3 ux4 ux5 h0 n0) v U'.heap L ∧ FrameEnd U o U' L 1 6) := by
  refine MetFree.of_bodySF pn_rmCrb6 hisR ?_
  intro p e s m args below meth c s₁ Bd hml0 hP hK
  obtain ⟨rfl, hZ, hh⟩ := hP
  have hx := Bd.exec
  have hby := Bd.bytes
  have hml : c.maxLocals = 5 := hml0
  have hown : s.vm.findClass "java/util/Arrays" = some m.cls := findClass_of_methodNamed Bd.named
  have hnm := (name_of_methodNamed Bd.named Bd.method).1
  have hrt := Bd.returns
  have hlk := Bd.notSynchronized
  have X0 : Stand p l e ({ frames := 1, cells := 1, slots := 6, locals := 51 } : Room) s m #[(.ref ub), (.int 0), (.int 6)] below meth c s₁ [] 0 0 := Stand.of_body Bd
  have e0 : s₁.heap = h0 := by rw [← hh, Bd.state]; rfl
  have N0 := Fr.nil n0
  have K0 := Keep.refl h0 []
  have lt_V_ub := own_lt V_ub.lt
  refine own_done (B := s₁.setTop (mkF m 0 #[VR ub, VI 0, VI 6, UU, UU] [])) (fun t k => castTop (ef_rmCrb6 m ub (0 : Int32) (6 : Int32)) k) ?_
  refine own_by (B := s₁.setTop (mkF m 1 #[VR ub, VI 0, VI 6, UU, UU] [(.int 0)])) (fun _ k => XS.iloadN X0.here hx rfl (hb hby d29_0) rfl  k) ?_
  refine own_by (B := s₁.setTop (mkF m 2 #[VR ub, VI 0, VI 6, UU, UU] [(.int 6), (.int 0)])) (fun _ k => XS.iloadN X0.here hx rfl (hb hby d29_1) rfl  k) ?_
  obtain ⟨_, _, ⟨T1, L1, k1, n1⟩, -, X1, ⟨Lc1, hQ1, l1, y1, z1⟩, st1⟩ := Jvm.LawKit.callS X0 hx (y := (⟨"java/util/Arrays", "checkLength", "(II)V"⟩ : MethodName)) hown (mvT hZ (own_hw 172 hw rfl)) (mvT hZ (own_hw 173 hw rfl)) (mvT hZ (own_hw 167 hw rfl)) (mvT hZ (own_hw 174 hw rfl)) (by decide) (backOf (W := 0) (rmChk6 l Z a0 hw [] a_INPUT_BIT a_OUTPUT_BIT a_OUTPUT_WORD a_INPUT_WORD a_MEMORY_WORD p_INPUT_BIT v_INPUT_BIT p_OUTPUT_WORD v_OUTPUT_WORD p_OUTPUT_BIT v_OUTPUT_BIT p_MEMORY_WORD v_MEMORY_WORD p_INPUT_WORD v_INPUT_WORD a_DigitOnes k_INPUT_BIT k_OUTPUT_WORD k_OUTPUT_BIT k_MEMORY_WORD k_INPUT_WORD ucs uff  h0 n0 (own_old_le O0) O0 HW ) hZ (own_hw 174 hw rfl) (own_hw 167 hw rfl) (by decide) (by decide)) (g := (mkF m 2 #[VR ub, VI 0, VI 6, UU, UU] [(.int 6), (.int 0)])) rfl (by rw [hml]; rfl) (argsL := [(.int 0), (.int 6)]) (rest := []) (lenOf pd_29__II_V rfl) rfl (by show 2 * 0 + _ ≤ _; exact Nat.le_of_eq rfl) (hb hby d29_2) (fun _ _ => ⟨rfl, e0, (by decide : 0 + 0 ≤ _), (by decide : 0 + 0 ≤ _)⟩)
  dsimp only [Pt.U, Pt.locs, Pt.cells, Pt.slots] at X1 l1 y1 z1 st1 hQ1
  subst l1 y1 z1
  obtain ⟨rfl, NC1, KC1⟩ := hQ1
  refine own_by (B := T1.setTop (mkF m 5 #[VR ub, VI 0, VI 6, UU, UU] [])) st1 ?_
  obtain ⟨h1, e1⟩ : ∃ z, T1.heap = z := ⟨_, rfl⟩
  rw [e1] at KC1
  have sz1 := KC1.1
  have O1 := O0.keep KC1 all0
  have K1 := K0.trans KC1 all0
  have N1 := Fr.app N0 NC1
  refine own_by (B := T1.setTop (mkF m 6 #[VR ub, VI 0, VI 6, UU, UU] [(.int 6)])) (fun _ k => XS.iloadN X1.here hx rfl (hb hby d29_5) rfl  k) ?_
  refine own_by (B := T1.setTop (mkF m 7 #[VR ub, VI 0, VI 6, UU, UU] [(.int 0), (.int 6)])) (fun _ k => XS.iloadN X1.here hx rfl (hb hby d29_6) rfl  k) ?_
  refine own_by (B := T1.setTop (mkF m 8 #[VR ub, VI 0, VI 6, UU, UU] [(.int 6)])) (fun _ k => XS.isub X1.here hx rfl (hb hby d29_7) rfl k) ?_
  refine own_by (B := T1.setTop (mkF m 9 #[VR ub, VI 0, VI 6, VI 6, UU] [])) (fun _ k => XS.istoreN X1.here hx rfl (hb hby d29_8) rfl (l' := #[VR ub, VI 0, VI 6, VI 6, UU]) rfl k) ?_
  refine own_by (B := T1.setTop (mkF m 10 #[VR ub, VI 0, VI 6, VI 6, UU] [(.int 6)])) (fun _ k => XS.iloadN X1.here hx rfl (hb hby d29_9) rfl  k) ?_
  obtain ⟨T2, h2, ka2, X2, e2, E2, A2, st2⟩ := newP X1 hx hZ (own_hw 52 hw rfl) e1 (g := (mkF m 10 #[VR ub, VI 0, VI 6, VI 6, UU] [(.int 6)])) rfl (hb hby d29_10) rfl (by decide) (cap := 6) (by decide) (by decide) (by decide) (by decide)
  obtain ⟨b2, g2⟩ : ∃ z, z = h1.size := ⟨_, rfl⟩
  rw [← g2] at A2 st2
  have sz2 := E2.1
  have gn2 : n0 ≤ b2 := g2 ▸ own_old_le O1
  have fz2 : h0.size ≤ b2 := g2 ▸ K1.1
  have lt2 := own_lt A2.lt
  have O2 := O1.ext E2
  have K2 := K1.ext E2
  have V2 : Arv Z h2 b2 ka2 .byte (6 : Int32) [(.int 0), (.int 0), (.int 0), (.int 0), (.int 0), (.int 0)] (.int 0) := (Arv.new A2 (by decide)).pad (pad_rep [] (.int 0) 6)
  refine own_by (B := T2.setTop (mkF m 12 #[VR ub, VI 0, VI 6, VI 6, UU] [(.ref b2)])) st2 ?_
  refine own_by (B := T2.setTop (mkF m 14 #[VR ub, VI 0, VI 6, VI 6, VR b2] [])) (fun _ k => XS.astore X2.here hx rfl (hb hby d29_12) rfl rfl (l' := #[VR ub, VI 0, VI 6, VI 6, VR b2]) rfl k) ?_
  refine own_by (B := T2.setTop (mkF m 15 #[VR ub, VI 0, VI 6, VI 6, VR b2] [(.ref ub)])) (fun _ k => XS.aloadN X2.here hx rfl (hb hby d29_14) rfl rfl  k) ?_
  refine own_by (B := T2.setTop (mkF m 16 #[VR ub, VI 0, VI 6, VI 6, VR b2] [(.int 0), (.ref ub)])) (fun _ k => XS.iloadN X2.here hx rfl (hb hby d29_15) rfl  k) ?_
  refine own_by (B := T2.setTop (mkF m 18 #[VR ub, VI 0, VI 6, VI 6, VR b2] [(.ref b2), (.int 0), (.ref ub)])) (fun _ k => XS.aload X2.here hx rfl (hb hby d29_16) rfl rfl  k) ?_
  refine own_by (B := T2.setTop (mkF m 19 #[VR ub, VI 0, VI 6, VI 6, VR b2] [(.int 0), (.ref b2), (.int 0), (.ref ub)])) (fun _ k => XS.iconst X2.here hx rfl (hb hby d29_18) k) ?_
  refine own_by (B := T2.setTop (mkF m 20 #[VR ub, VI 0, VI 6, VI 6, VR b2] [(.ref ub), (.int 0), (.ref b2), (.int 0), (.ref ub)])) (fun _ k => XS.aloadN X2.here hx rfl (hb hby d29_19) rfl rfl  k) ?_
  have c3 := ((V_ub.keep KC1 nin0).ext E2)
  obtain ⟨cl4, Ar4, qq4, Sz4, Nn4, Hh4, Gg4⟩ := id (c3)
  refine own_by (B := T2.setTop (mkF m 21 #[VR ub, VI 0, VI 6, VI 6, VR b2] [(.int 16), (.int 0), (.ref b2), (.int 0), (.ref ub)])) (fun t k => X2.arraylength hx (by rw [e2]; exact Ar4.1) (State.isArrayOf_alike hZ.alike Ar4.2.1) (g := (mkF m 20 #[VR ub, VI 0, VI 6, VI 6, VR b2] [(.ref ub), (.int 0), (.ref b2), (.int 0), (.ref ub)])) rfl rfl (hb hby d29_20) t (by rw [len_of Sz4 Nn4]; exact k)) ?_
  refine own_by (B := T2.setTop (mkF m 22 #[VR ub, VI 0, VI 6, VI 6, VR b2] [(.int 0), (.int 16), (.int 0), (.ref b2), (.int 0), (.ref ub)])) (fun _ k => XS.iloadN X2.here hx rfl (hb hby d29_21) rfl  k) ?_
  refine own_by (B := T2.setTop (mkF m 23 #[VR ub, VI 0, VI 6, VI 6, VR b2] [(.int 16), (.int 0), (.ref b2), (.int 0), (.ref ub)])) (fun _ k => XS.isub X2.here hx rfl (hb hby d29_22) rfl k) ?_
  refine own_by (B := T2.setTop (mkF m 24 #[VR ub, VI 0, VI 6, VI 6, VR b2] [(.int 6), (.int 16), (.int 0), (.ref b2), (.int 0), (.ref ub)])) (fun _ k => XS.iloadN X2.here hx rfl (hb hby d29_23) rfl  k) ?_
  obtain ⟨_, _, ⟨T5, L5, k5, n5⟩, -, X5, ⟨Lc5, hQ5, l5, y5, z5⟩, st5⟩ := Jvm.LawKit.callS X2 hx (y := (⟨"java/lang/Math", "min", "(II)I"⟩ : MethodName)) hown (mvT hZ (own_hw 175 hw rfl)) (mvT hZ (own_hw 176 hw rfl)) (mvT hZ (own_hw 177 hw rfl)) (mvT hZ (own_hw 178 hw rfl)) (by decide) (backOf (W := 4) (rmMin6 l Z a0 hw [] a_INPUT_BIT a_OUTPUT_BIT a_OUTPUT_WORD a_INPUT_WORD a_MEMORY_WORD p_INPUT_BIT v_INPUT_BIT p_OUTPUT_WORD v_OUTPUT_WORD p_OUTPUT_BIT v_OUTPUT_BIT p_MEMORY_WORD v_MEMORY_WORD p_INPUT_WORD v_INPUT_WORD a_DigitOnes k_INPUT_BIT k_OUTPUT_WORD k_OUTPUT_BIT k_MEMORY_WORD k_INPUT_WORD ucs uff  h2 n0 (own_old_le O2) O2 HW ) hZ (own_hw 178 hw rfl) (own_hw 177 hw rfl) (by decide) (by decide)) (g := (mkF m 24 #[VR ub, VI 0, VI 6, VI 6, VR b2] [(.int 6), (.int 16), (.int 0), (.ref b2), (.int 0), (.ref ub)])) rfl (by rw [hml]; rfl) (argsL := [(.int 16), (.int 6)]) (rest := [(.int 0), (.ref b2), (.int 0), (.ref ub)]) (lenOf pd_29__II_I rfl) rfl (by show 2 * 0 + _ ≤ _; exact Nat.le_of_eq rfl) (hb hby d29_24) (fun _ _ => ⟨rfl, e2, (by decide : 1 + 0 ≤ _), (by decide : 6 + 0 ≤ _)⟩)
  dsimp only [Pt.U, Pt.locs, Pt.cells, Pt.slots] at X5 l5 y5 z5 st5 hQ5
  subst l5 y5 z5
  obtain ⟨rfl, NC5, KC5⟩ := hQ5
  refine own_by (B := T5.setTop (mkF m 27 #[VR ub, VI 0, VI 6, VI 6, VR b2] [(.int 6), (.int 0), (.ref b2), (.int 0), (.ref ub)])) st5 ?_
  obtain ⟨h5, e5⟩ : ∃ z, T5.heap = z := ⟨_, rfl⟩
  rw [e5] at KC5
  have sz5 := KC5.1
  have O5 := O2.keep KC5 all0
  have K5 := K2.trans KC5 all0
  have N5 := Fr.app N1 NC5
  have c7 := (c3.keep KC5 nin0)
  have c8 := (V2.keep KC5 nin0)
  obtain ⟨T6, h6, L6, X6, e6, NC6, KC6, VC6, st6⟩ := cpA X5 hx hZ hown (own_hw 179 hw rfl) (own_hw 110 hw rfl) (own_hw 108 hw rfl) (own_hw 109 hw rfl) e5 c7 c8 (us := [(.int ux0), (.int ux1), (.int ux2), (.int ux3), (.int ux4), (.int ux5)]) (Or.inl ⟨rfl, rfl⟩) (by decide) (by decide) (by decide) (by decide) (by decide) rfl (Nat.le_of_ble_eq_true rfl) N5 gn2 (g := (mkF m 27 #[VR ub, VI 0, VI 6, VI 6, VR b2] [(.int 6), (.int 0), (.ref b2), (.int 0), (.ref ub)])) rfl (by rw [hml]; rfl) (rest := []) rfl (hb hby d29_27) (by decide) (W := 0) (by show 2 * 0 + _ ≤ _; exact Nat.le_of_eq rfl) (by decide)
  have V6 : Arv Z h6 b2 ka2 .byte (6 : Int32) [(.int ux0), (.int ux1), (.int ux2), (.int ux3), (.int ux4), (.int ux5)] (.int 0) := VC6
  have sz6 := KC6.1
  have O6 := O5.keep KC6 (allS gn2 all0)
  have K6 := K5.trans KC6 (allS (Or.inr fz2) all0)
  refine own_by (B := T6.setTop (mkF m 30 #[VR ub, VI 0, VI 6, VI 6, VR b2] [])) st6 ?_
  refine own_by (B := T6.setTop (mkF m 32 #[VR ub, VI 0, VI 6, VI 6, VR b2] [(.ref b2)])) (fun _ k => XS.aload X6.here hx rfl (hb hby d29_30) rfl rfl  k) ?_
  exact own_retA X6 hx hrt rfl rfl hlk (hb hby d29_32) (by decide) (by decide) (by show own_Q_rmCrb6 Z ub kb ux0 ux1 ux2 ux3 ux4 ux5 h0 n0 _ T6.heap _; rw [e6]; exact ⟨b2, ka2, rfl, NC6, K6, fz2, V6⟩)

def own_Q_rmCr6 (Z : State) (ub : Nat) (kb : ClassId) (ux0 : Int32) (ux1 : Int32) (ux2 : Int32) (ux3 : Int32) (ux4 : Int32) (ux5 : Int32) (h0 : Heap) (n0 : Nat) (v : Option Value) (h : Heap) (L : List Loc) : Prop := ∃ (r0_ : Nat) (kr0_ : ClassId), v = some (.ref r0_) ∧ Fr n0 L ∧ Keep h0 h [] ∧ h0.size ≤ r0_ ∧ Arv Z h r0_ kr0_ .byte (6 : Int32) [(.int ux0), (.int ux1), (.int ux2), (.int ux3), (.int ux4), (.int ux5)] (.int 0)

theorem pn_rmCr6 : plainFor (⟨"java/util/Arrays", "copyOfRange", "([BII)[B"⟩ : MethodName) = true := by first | exact plainFor_of_name (by first | (simp [plainName, overriddenIn]; done) | decide +kernel) | exact Jvm.Free.JP.mathPlain rfl (by decide +kernel) | decide +kernel
theorem ef_rmCr6 (m : MethodId) (x0 : Nat) (x1 : Int32) (x2 : Int32) : entryFrame m #[(.ref x0), (.int x1), (.int x2)] 3 = mkF m 0 #[VR x0, VI x1, VI x2] [] := by first | (simp [entryFrame, mkF, argsToLocals, Value.category]; done) | rfl
set_option maxRecDepth 65536 in
set_option maxHeartbeats 40000000 in
theorem rmCr6 (l : Launch) (Z : State) (a0 : Array Value) (hw : ∀ d ∈ tables_1, d.before a0 Z = true) (ws : List Jvm.Cond) (a_INPUT_BIT a_OUTPUT_BIT a_OUTPUT_WORD a_INPUT_WORD a_MEMORY_WORD p_INPUT_BIT v_INPUT_BIT p_OUTPUT_WORD v_OUTPUT_WORD p_OUTPUT_BIT v_OUTPUT_BIT p_MEMORY_WORD v_MEMORY_WORD p_INPUT_WORD v_INPUT_WORD a_DigitOnes : Nat) (k_INPUT_BIT : ClassId) (k_OUTPUT_WORD : ClassId) (k_OUTPUT_BIT : ClassId) (k_MEMORY_WORD : ClassId) (k_INPUT_WORD : ClassId) (ucs : Int32) (uff : Value) (ub : Nat) (kb : ClassId) (ux0 : Int32) (ux1 : Int32) (ux2 : Int32) (ux3 : Int32) (ux4 : Int32) (ux5 : Int32) (h0 : Heap) (n0 : Nat) (Z0 : n0 ≤ h0.size) (O0 : Old Z n0 h0) (HW : own_W Z Z.heap a_INPUT_BIT a_OUTPUT_BIT a_OUTPUT_WORD a_INPUT_WORD a_MEMORY_WORD p_INPUT_BIT v_INPUT_BIT p_OUTPUT_WORD v_OUTPUT_WORD p_OUTPUT_BIT v_OUTPUT_BIT p_MEMORY_WORD v_MEMORY_WORD p_INPUT_WORD v_INPUT_WORD a_DigitOnes k_INPUT_BIT k_OUTPUT_WORD k_OUTPUT_BIT k_MEMORY_WORD k_INPUT_WORD ucs uff) (V_ub : Arv Z h0 ub kb .byte (16 : Int32) [(.int ux0), (.int ux1), (.int ux2), (.int ux3), (.int ux4), (.int ux5), (.int 0), (.int 0), (.int 0), (.int 0), (.int 0), (.int 0), (.int 0), (.int 0), (.int 0), (.int 0)] (.int 0))   :
    MetFree l (⟨"java/util/Arrays", "copyOfRange", "([BII)[B"⟩ : MethodName) (head1 (Jvm.Cond.code (⟨"java/util/Arrays", "copyOfRange", "([BII)[B"⟩ : MethodName) jdk_65_method_132_code 3 (some (.array .byte)) :: ws) ({ frames := 2, cells := 1, slots := 6, locals := 67 } : Room)) (fun a U => a = #[(.ref ub), (.int 0), (.int 6)] ∧ Z.Warmed39 U.vm ∧ U.heap = h0) (fun _ _ _ _ _ => True) (fun _ U o U' => ∃ v L, o = .returned v ∧ (own_Q_rmCr6 Z ub kb ux0 ux1 ux2 ux3 ux4 ux5 h0 n0) v U'.heap L ∧ FrameEnd U o U' L 1 6) := by
  refine MetFree.of_bodySF pn_rmCr6 hisR ?_
  intro p e s m args below meth c s₁ Bd hml0 hP hK
  obtain ⟨rfl, hZ, hh⟩ := hP
  have hx := Bd.exec
  have hby := Bd.bytes
  have hml : c.maxLocals = 3 := hml0
  have hown : s.vm.findClass "java/util/Arrays" = some m.cls := findClass_of_methodNamed Bd.named
  have hnm := (name_of_methodNamed Bd.named Bd.method).1
  have hrt := Bd.returns
  have hlk := Bd.notSynchronized
  have X0 : Stand p l e ({ frames := 2, cells := 1, slots := 6, locals := 67 } : Room) s m #[(.ref ub), (.int 0), (.int 6)] below meth c s₁ [] 0 0 := Stand.of_body Bd
  have e0 : s₁.heap = h0 := by rw [← hh, Bd.state]; rfl
  have N0 := Fr.nil n0
  have K0 := Keep.refl h0 []
  have lt_V_ub := own_lt V_ub.lt
  refine own_done (B := s₁.setTop (mkF m 0 #[VR ub, VI 0, VI 6] [])) (fun t k => castTop (ef_rmCr6 m ub (0 : Int32) (6 : Int32)) k) ?_
  refine own_by (B := s₁.setTop (mkF m 1 #[VR ub, VI 0, VI 6] [(.int 0)])) (fun _ k => XS.iloadN X0.here hx rfl (hb hby d28_0) rfl  k) ?_
  refine own_by (B := s₁.setTop (mkF m 4 #[VR ub, VI 0, VI 6] [])) (fun _ k => XS.ifNo X0.here hx rfl (hb hby d28_1) rfl (XT.i0_ne_f (by decide)) k) ?_
  refine own_by (B := s₁.setTop (mkF m 5 #[VR ub, VI 0, VI 6] [(.int 6)])) (fun _ k => XS.iloadN X0.here hx rfl (hb hby d28_4) rfl  k) ?_
  refine own_by (B := s₁.setTop (mkF m 6 #[VR ub, VI 0, VI 6] [(.ref ub), (.int 6)])) (fun _ k => XS.aloadN X0.here hx rfl (hb hby d28_5) rfl rfl  k) ?_
  obtain ⟨cl1, Ar1, qq1, Sz1, Nn1, Hh1, Gg1⟩ := id (V_ub)
  refine own_by (B := s₁.setTop (mkF m 7 #[VR ub, VI 0, VI 6] [(.int 16), (.int 6)])) (fun t k => X0.arraylength hx (by rw [e0]; exact Ar1.1) (State.isArrayOf_alike hZ.alike Ar1.2.1) (g := (mkF m 6 #[VR ub, VI 0, VI 6] [(.ref ub), (.int 6)])) rfl rfl (hb hby d28_6) t (by rw [len_of Sz1 Nn1]; exact k)) ?_
  refine own_by (B := s₁.setTop (mkF m 10 #[VR ub, VI 0, VI 6] [])) (fun _ k => XS.icmpNo X0.here hx rfl (hb hby d28_7) rfl (XT.ii_eq_f (by decide)) k) ?_
  refine own_by (B := s₁.setTop (mkF m 11 #[VR ub, VI 0, VI 6] [(.ref ub)])) (fun _ k => XS.aloadN X0.here hx rfl (hb hby d28_10) rfl rfl  k) ?_
  refine own_by (B := s₁.setTop (mkF m 12 #[VR ub, VI 0, VI 6] [(.int 0), (.ref ub)])) (fun _ k => XS.iloadN X0.here hx rfl (hb hby d28_11) rfl  k) ?_
  refine own_by (B := s₁.setTop (mkF m 13 #[VR ub, VI 0, VI 6] [(.int 6), (.int 0), (.ref ub)])) (fun _ k => XS.iloadN X0.here hx rfl (hb hby d28_12) rfl  k) ?_
  obtain ⟨_, _, ⟨T2, L2, k2, n2⟩, -, X2, ⟨Lc2, hQ2, l2, y2, z2⟩, st2⟩ := Jvm.LawKit.callS X0 hx (y := (⟨"java/util/Arrays", "copyOfRangeByte", "([BII)[B"⟩ : MethodName)) hown (mvT hZ (own_hw 169 hw rfl)) (mvT hZ (own_hw 170 hw rfl)) (mvT hZ (own_hw 167 hw rfl)) (mvT hZ (own_hw 171 hw rfl)) (by decide) (backOf (W := 0) (rmCrb6 l Z a0 hw [] a_INPUT_BIT a_OUTPUT_BIT a_OUTPUT_WORD a_INPUT_WORD a_MEMORY_WORD p_INPUT_BIT v_INPUT_BIT p_OUTPUT_WORD v_OUTPUT_WORD p_OUTPUT_BIT v_OUTPUT_BIT p_MEMORY_WORD v_MEMORY_WORD p_INPUT_WORD v_INPUT_WORD a_DigitOnes k_INPUT_BIT k_OUTPUT_WORD k_OUTPUT_BIT k_MEMORY_WORD k_INPUT_WORD ucs uff ub kb ux0 ux1 ux2 ux3 ux4 ux5 h0 n0 (own_old_le O0) O0 HW V_ub) hZ (own_hw 171 hw rfl) (own_hw 167 hw rfl) (by decide) (by decide)) (g := (mkF m 13 #[VR ub, VI 0, VI 6] [(.int 6), (.int 0), (.ref ub)])) rfl (by rw [hml]; rfl) (argsL := [(.ref ub), (.int 0), (.int 6)]) (rest := []) (lenOf pd_28___BII__B rfl) rfl (by show 2 * 0 + _ ≤ _; exact Nat.le_of_eq rfl) (hb hby d28_13) (fun _ _ => ⟨rfl, e0, (by decide : 0 + 1 ≤ _), (by decide : 0 + 6 ≤ _)⟩)
  dsimp only [Pt.U, Pt.locs, Pt.cells, Pt.slots] at X2 l2 y2 z2 st2 hQ2
  subst l2 y2 z2
  obtain ⟨r0_N2, kr0_N2, rfl, NC2, KC2, hb0_N2, Q0_N2⟩ := hQ2
  refine own_by (B := T2.setTop (mkF m 16 #[VR ub, VI 0, VI 6] [(.ref r0_N2)])) st2 ?_
  have gnr0_N2 : n0 ≤ r0_N2 := Nat.le_trans (own_old_le O0) hb0_N2
  have fzr0_N2 : h0.size ≤ r0_N2 := Nat.le_trans K0.1 hb0_N2
  obtain ⟨h2, e2⟩ : ∃ z, T2.heap = z := ⟨_, rfl⟩
  rw [e2] at KC2 Q0_N2
  have sz2 := KC2.1
  have O2 := O0.keep KC2 all0
  have K2 := K0.trans KC2 all0
  have N2 := Fr.app N0 NC2
  have ltq0_2 := own_lt Q0_N2.lt
  exact own_retA X2 hx hrt rfl rfl hlk (hb hby d28_16) (by decide) (by decide) (by show own_Q_rmCr6 Z ub kb ux0 ux1 ux2 ux3 ux4 ux5 h0 n0 _ T2.heap _; rw [e2]; exact ⟨r0_N2, kr0_N2, rfl, N2, K2, fzr0_N2, Q0_N2⟩)

def own_Q_rmSi26 (Z : State) (ua : Nat) (uc : Nat) (ub : Nat) (kb : ClassId) (ux0 : Int32) (ux1 : Int32) (ux2 : Int32) (ux3 : Int32) (ux4 : Int32) (ux5 : Int32) (h0 : Heap) (n0 : Nat) (v : Option Value) (h : Heap) (L : List Loc) : Prop := ∃ (r0_ : Nat) (kr0_ : ClassId), v = none ∧ Fr n0 L ∧ Keep h0 h [ua] ∧ h0.size ≤ r0_ ∧ Exa Z h ua "java/lang/String" ∧ Fld Z h ua "java/lang/String" "value" "[B" (.ref r0_) ∧ Fld Z h ua "java/lang/String" "coder" "B" (.int 0) ∧ Arv Z h r0_ kr0_ .byte (6 : Int32) [(.int ux0), (.int ux1), (.int ux2), (.int ux3), (.int ux4), (.int ux5)] (.int 0)

theorem pn_rmSi26 : plainFor (⟨"java/lang/String", "<init>", "(Ljava/lang/AbstractStringBuilder;Ljava/lang/Void;)V"⟩ : MethodName) = true := by first | exact plainFor_of_name (by first | (simp [plainName, overriddenIn]; done) | decide +kernel) | exact Jvm.Free.JP.mathPlain rfl (by decide +kernel) | decide +kernel
theorem ef_rmSi26 (m : MethodId) (x0 : Nat) (x1 : Nat) : entryFrame m #[(.ref x0), (.ref x1), .null] 5 = mkF m 0 #[VR x0, VR x1, .val .null, UU, UU] [] := by first | (simp [entryFrame, mkF, argsToLocals, Value.category]; done) | rfl
set_option maxRecDepth 65536 in
set_option maxHeartbeats 40000000 in
theorem rmSi26 (l : Launch) (Z : State) (a0 : Array Value) (hw : ∀ d ∈ tables_1, d.before a0 Z = true) (ws : List Jvm.Cond) (a_INPUT_BIT a_OUTPUT_BIT a_OUTPUT_WORD a_INPUT_WORD a_MEMORY_WORD p_INPUT_BIT v_INPUT_BIT p_OUTPUT_WORD v_OUTPUT_WORD p_OUTPUT_BIT v_OUTPUT_BIT p_MEMORY_WORD v_MEMORY_WORD p_INPUT_WORD v_INPUT_WORD a_DigitOnes : Nat) (k_INPUT_BIT : ClassId) (k_OUTPUT_WORD : ClassId) (k_OUTPUT_BIT : ClassId) (k_MEMORY_WORD : ClassId) (k_INPUT_WORD : ClassId) (ucs : Int32) (uff : Value) (ua : Nat) (uc : Nat) (ub : Nat) (kb : ClassId) (ux0 : Int32) (ux1 : Int32) (ux2 : Int32) (ux3 : Int32) (ux4 : Int32) (ux5 : Int32) (h0 : Heap) (n0 : Nat) (Z0 : n0 ≤ h0.size) (O0 : Old Z n0 h0) (HW : own_W Z Z.heap a_INPUT_BIT a_OUTPUT_BIT a_OUTPUT_WORD a_INPUT_WORD a_MEMORY_WORD p_INPUT_BIT v_INPUT_BIT p_OUTPUT_WORD v_OUTPUT_WORD p_OUTPUT_BIT v_OUTPUT_BIT p_MEMORY_WORD v_MEMORY_WORD p_INPUT_WORD v_INPUT_WORD a_DigitOnes k_INPUT_BIT k_OUTPUT_WORD k_OUTPUT_BIT k_MEMORY_WORD k_INPUT_WORD ucs uff) (E_ua : Exa Z h0 ua "java/lang/String") (F_ua_value : Fld Z h0 ua "java/lang/String" "value" "[B" .null) (F_ua_coder : Fld Z h0 ua "java/lang/String" "coder" "B" (.int 0)) (E_uc : Exa Z h0 uc "java/lang/StringBuilder") (F_uc_value : Fld Z h0 uc "java/lang/AbstractStringBuilder" "value" "[B" (.ref ub)) (F_uc_coder : Fld Z h0 uc "java/lang/AbstractStringBuilder" "coder" "B" (.int 0)) (F_uc_count : Fld Z h0 uc "java/lang/AbstractStringBuilder" "count" "I" (.int 6)) (V_ub : Arv Z h0 ub kb .byte (16 : Int32) [(.int ux0), (.int ux1), (.int ux2), (.int ux3), (.int ux4), (.int ux5), (.int 0), (.int 0), (.int 0), (.int 0), (.int 0), (.int 0), (.int 0), (.int 0), (.int 0), (.int 0)] (.int 0)) (gn_ua : n0 ≤ ua)  :
    MetFree l (⟨"java/lang/String", "<init>", "(Ljava/lang/AbstractStringBuilder;Ljava/lang/Void;)V"⟩ : MethodName) (head1 (Jvm.Cond.code (⟨"java/lang/String", "<init>", "(Ljava/lang/AbstractStringBuilder;Ljava/lang/Void;)V"⟩ : MethodName) jdk_42_method_150_code 5 none :: ws) ({ frames := 3, cells := 1, slots := 6, locals := 82 } : Room)) (fun a U => a = #[(.ref ua), (.ref uc), .null] ∧ Z.Warmed39 U.vm ∧ U.heap = h0) (fun _ _ _ _ _ => True) (fun _ U o U' => ∃ v L, o = .returned v ∧ (own_Q_rmSi26 Z ua uc ub kb ux0 ux1 ux2 ux3 ux4 ux5 h0 n0) v U'.heap L ∧ FrameEnd U o U' L 1 6) := by
  refine MetFree.of_bodySF pn_rmSi26 hisR ?_
  intro p e s m args below meth c s₁ Bd hml0 hP hK
  obtain ⟨rfl, hZ, hh⟩ := hP
  have hx := Bd.exec
  have hby := Bd.bytes
  have hml : c.maxLocals = 5 := hml0
  have hown : s.vm.findClass "java/lang/String" = some m.cls := findClass_of_methodNamed Bd.named
  have hnm := (name_of_methodNamed Bd.named Bd.method).1
  have hrt := Bd.returns
  have hlk := Bd.notSynchronized
  have X0 : Stand p l e ({ frames := 3, cells := 1, slots := 6, locals := 82 } : Room) s m #[(.ref ua), (.ref uc), .null] below meth c s₁ [] 0 0 := Stand.of_body Bd
  have e0 : s₁.heap = h0 := by rw [← hh, Bd.state]; rfl
  have N0 := Fr.nil n0
  have K0 := Keep.refl h0 [ua]
  have lt_E_ua := own_lt E_ua.lt
  have lt_E_uc := own_lt E_uc.lt
  have lt_V_ub := own_lt V_ub.lt
  have nl_ua_ub := own_lg (Exa.neArv E_ua V_ub (own_hw 134 hw rfl))
  have nl_uc_ub := own_lg (Exa.neArv E_uc V_ub (own_hw 38 hw rfl))
  refine own_done (B := s₁.setTop (mkF m 0 #[VR ua, VR uc, .val .null, UU, UU] [])) (fun t k => castTop (ef_rmSi26 m ua uc) k) ?_
  refine own_by (B := s₁.setTop (mkF m 1 #[VR ua, VR uc, .val .null, UU, UU] [(.ref ua)])) (fun _ k => XS.aloadN X0.here hx rfl (hb hby d24_0) rfl rfl  k) ?_
  obtain ⟨T1, X1, e1, st1⟩ := initO X0 hx hZ hown (own_hw 150 hw rfl) (own_hw 20 hw rfl) (own_hw 21 hw rfl) e0 (g := (mkF m 1 #[VR ua, VR uc, .val .null, UU, UU] [(.ref ua)])) rfl (by rw [hml]; rfl) rfl (hb hby d24_1) (by decide) (W := 0) (by show 2 * 0 + _ ≤ _; exact Nat.le_of_eq rfl) (by decide)
  refine own_by (B := T1.setTop (mkF m 4 #[VR ua, VR uc, .val .null, UU, UU] [])) st1 ?_
  refine own_by (B := T1.setTop (mkF m 5 #[VR ua, VR uc, .val .null, UU, UU] [(.ref uc)])) (fun _ k => XS.aloadN X1.here hx rfl (hb hby d24_4) rfl rfl  k) ?_
  obtain ⟨cq2, kq2, qa2, qb2, qc2⟩ := isOf hZ e1 E_uc
  obtain ⟨_, _, ⟨T2, L2, k2, n2⟩, -, X2, ⟨Lc2, hQ2, l2, y2, z2⟩, st2⟩ := X1.virtualBack hx (y := (⟨"java/lang/AbstractStringBuilder", "getValue", "()[B"⟩ : MethodName)) (z := (⟨"java/lang/AbstractStringBuilder", "getValue", "()[B"⟩ : MethodName)) hown (mvT hZ (own_hw 151 hw rfl)) (mvT hZ (own_hw 152 hw rfl)) (notFace_of_selects (args := #[]) (mvT hZ (own_hw 154 hw rfl))) (mvT hZ (own_hw 154 hw rfl)) (mvT hZ (own_hw 153 hw rfl)) (by decide) (backOf (W := 0) (rmgv6 l Z a0 hw [] a_INPUT_BIT a_OUTPUT_BIT a_OUTPUT_WORD a_INPUT_WORD a_MEMORY_WORD p_INPUT_BIT v_INPUT_BIT p_OUTPUT_WORD v_OUTPUT_WORD p_OUTPUT_BIT v_OUTPUT_BIT p_MEMORY_WORD v_MEMORY_WORD p_INPUT_WORD v_INPUT_WORD a_DigitOnes k_INPUT_BIT k_OUTPUT_WORD k_OUTPUT_BIT k_MEMORY_WORD k_INPUT_WORD ucs uff uc ub kb ux0 ux1 ux2 ux3 ux4 ux5 h0 n0 (own_old_le O0) O0 HW E_uc F_uc_value F_uc_coder F_uc_count V_ub) hZ (own_hw 155 hw rfl) (own_hw 47 hw rfl) (by decide) (by decide)) qa2 qc2 (g := (mkF m 5 #[VR ua, VR uc, .val .null, UU, UU] [(.ref uc)])) rfl (by rw [hml]; rfl) (Steps.refl _) (argsL := []) (rest := []) (lenOf pd_24____B rfl) rfl (by show 2 * 0 + _ ≤ _; exact Nat.le_of_eq rfl) (hb hby d24_5) (fun _ _ => ⟨rfl, e1, (by decide : 0 + 0 ≤ _), (by decide : 0 + 0 ≤ _)⟩)
  dsimp only [Pt.U, Pt.locs, Pt.cells, Pt.slots] at X2 l2 y2 z2 st2 hQ2
  subst l2 y2 z2
  obtain ⟨rfl, NC2, KC2⟩ := hQ2
  refine own_by (B := T2.setTop (mkF m 8 #[VR ua, VR uc, .val .null, UU, UU] [(.ref ub)])) (fun _ k => st2.trans k) ?_
  obtain ⟨h2, e2⟩ : ∃ z, T2.heap = z := ⟨_, rfl⟩
  rw [e2] at KC2
  have sz2 := KC2.1
  have O2 := O0.keep KC2 all0
  have K2 := K0.trans KC2 all0
  have N2 := Fr.app N0 NC2
  refine own_by (B := T2.setTop (mkF m 9 #[VR ua, VR uc, .val .null, VR ub, UU] [])) (fun _ k => XS.astoreN X2.here hx rfl (hb hby d24_8) rfl rfl (l' := #[VR ua, VR uc, .val .null, VR ub, UU]) rfl k) ?_
  refine own_by (B := T2.setTop (mkF m 10 #[VR ua, VR uc, .val .null, VR ub, UU] [(.ref uc)])) (fun _ k => XS.aloadN X2.here hx rfl (hb hby d24_9) rfl rfl  k) ?_
  have c3 := (E_uc.keep KC2)
  have c4 := (F_uc_value.keep KC2 nin0)
  have c5 := (F_uc_coder.keep KC2 nin0)
  have c6 := (F_uc_count.keep KC2 nin0)
  have c7 := (V_ub.keep KC2 nin0)
  obtain ⟨cq8, kq8, qa8, qb8, qc8⟩ := isOf hZ e2 c3
  obtain ⟨_, _, ⟨T8, L8, k8, n8⟩, -, X8, ⟨Lc8, hQ8, l8, y8, z8⟩, st8⟩ := X2.virtualBack hx (y := (⟨"java/lang/AbstractStringBuilder", "length", "()I"⟩ : MethodName)) (z := (⟨"java/lang/StringBuilder", "length", "()I"⟩ : MethodName)) hown (mvT hZ (own_hw 156 hw rfl)) (mvT hZ (own_hw 157 hw rfl)) (own_nf (a0 := #[]) (w := (⟨"java/lang/AbstractStringBuilder", "isLatin1", "()Z"⟩ : MethodName)) (mvT hZ (own_hw 127 hw rfl)) rfl) (mvT hZ (own_hw 159 hw rfl)) (mvT hZ (own_hw 160 hw rfl)) (by decide) (backOf (W := 0) (rmsl6 l Z a0 hw [] a_INPUT_BIT a_OUTPUT_BIT a_OUTPUT_WORD a_INPUT_WORD a_MEMORY_WORD p_INPUT_BIT v_INPUT_BIT p_OUTPUT_WORD v_OUTPUT_WORD p_OUTPUT_BIT v_OUTPUT_BIT p_MEMORY_WORD v_MEMORY_WORD p_INPUT_WORD v_INPUT_WORD a_DigitOnes k_INPUT_BIT k_OUTPUT_WORD k_OUTPUT_BIT k_MEMORY_WORD k_INPUT_WORD ucs uff uc ub kb ux0 ux1 ux2 ux3 ux4 ux5 h2 n0 (own_old_le O2) O2 HW c3 c4 c5 c6 c7) hZ (own_hw 161 hw rfl) (own_hw 39 hw rfl) (by decide) (by decide)) qa8 qc8 (g := (mkF m 10 #[VR ua, VR uc, .val .null, VR ub, UU] [(.ref uc)])) rfl (by rw [hml]; rfl) (Steps.refl _) (argsL := []) (rest := []) (lenOf pd_24___I rfl) rfl (by show 2 * 0 + _ ≤ _; exact Nat.le_of_eq rfl) (hb hby d24_10) (fun _ _ => ⟨rfl, e2, (by decide : 0 + 0 ≤ _), (by decide : 0 + 0 ≤ _)⟩)
  dsimp only [Pt.U, Pt.locs, Pt.cells, Pt.slots] at X8 l8 y8 z8 st8 hQ8
  subst l8 y8 z8
  obtain ⟨rfl, NC8, KC8⟩ := hQ8
  refine own_by (B := T8.setTop (mkF m 13 #[VR ua, VR uc, .val .null, VR ub, UU] [(.int 6)])) (fun _ k => st8.trans k) ?_
  obtain ⟨h8, e8⟩ : ∃ z, T8.heap = z := ⟨_, rfl⟩
  rw [e8] at KC8
  have sz8 := KC8.1
  have O8 := O2.keep KC8 all0
  have K8 := K2.trans KC8 all0
  have N8 := Fr.app N2 NC8
  refine own_by (B := T8.setTop (mkF m 15 #[VR ua, VR uc, .val .null, VR ub, VI 6] [])) (fun _ k => XS.istore X8.here hx rfl (hb hby d24_13) rfl (l' := #[VR ua, VR uc, .val .null, VR ub, VI 6]) rfl k) ?_
  refine own_by (B := T8.setTop (mkF m 16 #[VR ua, VR uc, .val .null, VR ub, VI 6] [(.ref uc)])) (fun _ k => XS.aloadN X8.here hx rfl (hb hby d24_15) rfl rfl  k) ?_
  have c9 := (c3.keep KC8)
  have c10 := (c4.keep KC8 nin0)
  have c11 := (c5.keep KC8 nin0)
  have c12 := (c6.keep KC8 nin0)
  have c13 := (c7.keep KC8 nin0)
  obtain ⟨cq14, kq14, qa14, qb14, qc14⟩ := isOf hZ e8 c9
  obtain ⟨_, _, ⟨T14, L14, k14, n14⟩, -, X14, ⟨Lc14, hQ14, l14, y14, z14⟩, st14⟩ := X8.virtualBack hx (y := (⟨"java/lang/AbstractStringBuilder", "isLatin1", "()Z"⟩ : MethodName)) (z := (⟨"java/lang/AbstractStringBuilder", "isLatin1", "()Z"⟩ : MethodName)) hown (mvT hZ (own_hw 164 hw rfl)) (mvT hZ (own_hw 125 hw rfl)) (notFace_of_selects (args := #[]) (mvT hZ (own_hw 127 hw rfl))) (mvT hZ (own_hw 127 hw rfl)) (mvT hZ (own_hw 126 hw rfl)) (by decide) (backOf (W := 0) (rmlat6 l Z a0 hw [] a_INPUT_BIT a_OUTPUT_BIT a_OUTPUT_WORD a_INPUT_WORD a_MEMORY_WORD p_INPUT_BIT v_INPUT_BIT p_OUTPUT_WORD v_OUTPUT_WORD p_OUTPUT_BIT v_OUTPUT_BIT p_MEMORY_WORD v_MEMORY_WORD p_INPUT_WORD v_INPUT_WORD a_DigitOnes k_INPUT_BIT k_OUTPUT_WORD k_OUTPUT_BIT k_MEMORY_WORD k_INPUT_WORD ucs uff uc ub kb ux0 ux1 ux2 ux3 ux4 ux5 h8 n0 (own_old_le O8) O8 HW c9 c10 c11 c12 c13) hZ (own_hw 128 hw rfl) (own_hw 47 hw rfl) (by decide) (by decide)) qa14 qc14 (g := (mkF m 16 #[VR ua, VR uc, .val .null, VR ub, VI 6] [(.ref uc)])) rfl (by rw [hml]; rfl) (Steps.refl _) (argsL := []) (rest := []) (lenOf pd_24___Z rfl) rfl (by show 2 * 0 + _ ≤ _; exact Nat.le_of_eq rfl) (hb hby d24_16) (fun _ _ => ⟨rfl, e8, (by decide : 0 + 0 ≤ _), (by decide : 0 + 0 ≤ _)⟩)
  dsimp only [Pt.U, Pt.locs, Pt.cells, Pt.slots] at X14 l14 y14 z14 st14 hQ14
  subst l14 y14 z14
  obtain ⟨rfl, NC14, KC14⟩ := hQ14
  refine own_by (B := T14.setTop (mkF m 19 #[VR ua, VR uc, .val .null, VR ub, VI 6] [(.int 1)])) (fun _ k => st14.trans k) ?_
  obtain ⟨h14, e14⟩ : ∃ z, T14.heap = z := ⟨_, rfl⟩
  rw [e14] at KC14
  have sz14 := KC14.1
  have O14 := O8.keep KC14 all0
  have K14 := K8.trans KC14 all0
  have N14 := Fr.app N8 NC14
  refine own_by (B := T14.setTop (mkF m 22 #[VR ua, VR uc, .val .null, VR ub, VI 6] [])) (fun _ k => XS.ifNo X14.here hx rfl (hb hby d24_19) rfl (XT.i0_eq_f (by decide)) k) ?_
  refine own_by (B := T14.setTop (mkF m 23 #[VR ua, VR uc, .val .null, VR ub, VI 6] [(.ref ua)])) (fun _ k => XS.aloadN X14.here hx rfl (hb hby d24_22) rfl rfl  k) ?_
  refine own_by (B := T14.setTop (mkF m 24 #[VR ua, VR uc, .val .null, VR ub, VI 6] [(.int 0), (.ref ua)])) (fun _ k => XS.iconst X14.here hx rfl (hb hby d24_23) k) ?_
  have c16 := (((E_ua.keep KC2).keep KC8).keep KC14)
  have c17 := (((F_ua_coder.keep KC2 nin0).keep KC8 nin0).keep KC14 nin0)
  obtain ⟨T15, h15, X15, e15, W15, st15⟩ := putF X14 hx hZ hown (host := "") (Or.inl (own_hw 82 hw rfl)) Via.refl e14 c17 c16 (Or.inr ⟨(own_hw 83 hw rfl), rfl, hnm⟩) (own_hw 134 hw rfl) (ty := .byte) (by decide) rfl rfl (g := (mkF m 24 #[VR ua, VR uc, .val .null, VR ub, VI 6] [(.int 0), (.ref ua)])) rfl rfl (hb hby d24_24)
  have sz15 := W15.size
  have O15 := O14.wr W15 gn_ua
  have K15 := K14.wr W15 (Or.inl (List.mem_of_getElem? (i := 0) rfl))
  have N15 := Fr.snoc X15 N14 gn_ua
  have F15 := c17.same W15
  refine own_by (B := T15.setTop (mkF m 27 #[VR ua, VR uc, .val .null, VR ub, VI 6] [])) st15 ?_
  refine own_by (B := T15.setTop (mkF m 28 #[VR ua, VR uc, .val .null, VR ub, VI 6] [(.ref ua)])) (fun _ k => XS.aloadN X15.here hx rfl (hb hby d24_27) rfl rfl  k) ?_
  refine own_by (B := T15.setTop (mkF m 29 #[VR ua, VR uc, .val .null, VR ub, VI 6] [(.ref ub), (.ref ua)])) (fun _ k => XS.aloadN X15.here hx rfl (hb hby d24_28) rfl rfl  k) ?_
  refine own_by (B := T15.setTop (mkF m 30 #[VR ua, VR uc, .val .null, VR ub, VI 6] [(.int 0), (.ref ub), (.ref ua)])) (fun _ k => XS.iconst X15.here hx rfl (hb hby d24_29) k) ?_
  refine own_by (B := T15.setTop (mkF m 32 #[VR ua, VR uc, .val .null, VR ub, VI 6] [(.int 6), (.int 0), (.ref ub), (.ref ua)])) (fun _ k => XS.iload X15.here hx rfl (hb hby d24_30) rfl  k) ?_
  have c18 := ((c13.keep KC14 nin0).other W15 (own_ne (by omega)))
  obtain ⟨_, _, ⟨T19, L19, k19, n19⟩, -, X19, ⟨Lc19, hQ19, l19, y19, z19⟩, st19⟩ := Jvm.LawKit.callS X15 hx (y := (⟨"java/util/Arrays", "copyOfRange", "([BII)[B"⟩ : MethodName)) hown (mvT hZ (own_hw 165 hw rfl)) (mvT hZ (own_hw 166 hw rfl)) (mvT hZ (own_hw 167 hw rfl)) (mvT hZ (own_hw 168 hw rfl)) (by decide) (backOf (W := 1) (rmCr6 l Z a0 hw [] a_INPUT_BIT a_OUTPUT_BIT a_OUTPUT_WORD a_INPUT_WORD a_MEMORY_WORD p_INPUT_BIT v_INPUT_BIT p_OUTPUT_WORD v_OUTPUT_WORD p_OUTPUT_BIT v_OUTPUT_BIT p_MEMORY_WORD v_MEMORY_WORD p_INPUT_WORD v_INPUT_WORD a_DigitOnes k_INPUT_BIT k_OUTPUT_WORD k_OUTPUT_BIT k_MEMORY_WORD k_INPUT_WORD ucs uff ub kb ux0 ux1 ux2 ux3 ux4 ux5 h15 n0 (own_old_le O15) O15 HW c18) hZ (own_hw 168 hw rfl) (own_hw 167 hw rfl) (by decide) (by decide)) (g := (mkF m 32 #[VR ua, VR uc, .val .null, VR ub, VI 6] [(.int 6), (.int 0), (.ref ub), (.ref ua)])) rfl (by rw [hml]; rfl) (argsL := [(.ref ub), (.int 0), (.int 6)]) (rest := [(.ref ua)]) (lenOf pd_24___BII__B rfl) rfl (by show 2 * 0 + _ ≤ _; exact Nat.le_of_eq rfl) (hb hby d24_32) (fun _ _ => ⟨rfl, e15, (by decide : 0 + 1 ≤ _), (by decide : 0 + 6 ≤ _)⟩)
  dsimp only [Pt.U, Pt.locs, Pt.cells, Pt.slots] at X19 l19 y19 z19 st19 hQ19
  subst l19 y19 z19
  obtain ⟨r0_N19, kr0_N19, rfl, NC19, KC19, hb0_N19, Q0_N19⟩ := hQ19
  refine own_by (B := T19.setTop (mkF m 35 #[VR ua, VR uc, .val .null, VR ub, VI 6] [(.ref r0_N19), (.ref ua)])) st19 ?_
  have gnr0_N19 : n0 ≤ r0_N19 := Nat.le_trans (own_old_le O15) hb0_N19
  have fzr0_N19 : h0.size ≤ r0_N19 := Nat.le_trans K15.1 hb0_N19
  obtain ⟨h19, e19⟩ : ∃ z, T19.heap = z := ⟨_, rfl⟩
  rw [e19] at KC19 Q0_N19
  have sz19 := KC19.1
  have O19 := O15.keep KC19 all0
  have K19 := K15.trans KC19 all0
  have N19 := Fr.app N15 NC19
  have ltq0_19 := own_lt Q0_N19.lt
  have c21 := ((c16.wr W15).keep KC19)
  have c22 := (((((F_ua_value.keep KC2 nin0).keep KC8 nin0).keep KC14 nin0).other W15 (Or.inr (slot_ne (Or.inr (own_hw 75 hw rfl)) (Or.inr (own_hw 83 hw rfl)) (by decide) (t := (.array .byte)) (t' := .byte) (by decide) (by decide)))).keep KC19 nin0)
  obtain ⟨T20, h20, X20, e20, W20, st20⟩ := putF X19 hx hZ hown (host := "") (Or.inl (own_hw 74 hw rfl)) Via.refl e19 c22 c21 (Or.inr ⟨(own_hw 75 hw rfl), rfl, hnm⟩) (own_hw 134 hw rfl) (ty := (.array .byte)) (by decide) rfl rfl (g := (mkF m 35 #[VR ua, VR uc, .val .null, VR ub, VI 6] [(.ref r0_N19), (.ref ua)])) rfl rfl (hb hby d24_35)
  have sz20 := W20.size
  have O20 := O19.wr W20 gn_ua
  have K20 := K19.wr W20 (Or.inl (List.mem_of_getElem? (i := 0) rfl))
  have N20 := Fr.snoc X20 N19 gn_ua
  have F20 := c22.same W20
  refine own_by (B := T20.setTop (mkF m 38 #[VR ua, VR uc, .val .null, VR ub, VI 6] [])) st20 ?_
  refine own_by (B := T20.setTop (mkF m 97 #[VR ua, VR uc, .val .null, VR ub, VI 6] [])) (fun _ k => XS.goto X20.here hx rfl (pc0 := 38) (pc' := 97) rfl (hb hby d24_38) (by decide) (by decide) k) ?_
  have c23 := (c21.wr W20)
  have c24 := ((F15.keep KC19 nin0).other W20 (Or.inr (slot_ne (Or.inr (own_hw 83 hw rfl)) (Or.inr (own_hw 75 hw rfl)) (by decide) (t := .byte) (t' := (.array .byte)) (by decide) (by decide))))
  have c25 := (Q0_N19.other W20 (own_ne (by omega)))
  exact own_retV X20 hx hrt hlk (hb hby d24_97) (by decide) (by decide) (by show own_Q_rmSi26 Z ua uc ub kb ux0 ux1 ux2 ux3 ux4 ux5 h0 n0 _ T20.heap _; rw [e20]; exact ⟨r0_N19, kr0_N19, rfl, N20, K20, fzr0_N19, c23, F20, c24, c25⟩)

def own_Q_rmSi16 (Z : State) (ua : Nat) (uc : Nat) (ub : Nat) (kb : ClassId) (ux0 : Int32) (ux1 : Int32) (ux2 : Int32) (ux3 : Int32) (ux4 : Int32) (ux5 : Int32) (h0 : Heap) (n0 : Nat) (v : Option Value) (h : Heap) (L : List Loc) : Prop := ∃ (r0_ : Nat) (kr0_ : ClassId), v = none ∧ Fr n0 L ∧ Keep h0 h [ua] ∧ h0.size ≤ r0_ ∧ Exa Z h ua "java/lang/String" ∧ Fld Z h ua "java/lang/String" "value" "[B" (.ref r0_) ∧ Fld Z h ua "java/lang/String" "coder" "B" (.int 0) ∧ Arv Z h r0_ kr0_ .byte (6 : Int32) [(.int ux0), (.int ux1), (.int ux2), (.int ux3), (.int ux4), (.int ux5)] (.int 0)

theorem pn_rmSi16 : plainFor (⟨"java/lang/String", "<init>", "(Ljava/lang/StringBuilder;)V"⟩ : MethodName) = true := by first | exact plainFor_of_name (by first | (simp [plainName, overriddenIn]; done) | decide +kernel) | exact Jvm.Free.JP.mathPlain rfl (by decide +kernel) | decide +kernel
theorem ef_rmSi16 (m : MethodId) (x0 : Nat) (x1 : Nat) : entryFrame m #[(.ref x0), (.ref x1)] 2 = mkF m 0 #[VR x0, VR x1] [] := by first | (simp [entryFrame, mkF, argsToLocals, Value.category]; done) | rfl
set_option maxRecDepth 65536 in
set_option maxHeartbeats 40000000 in
theorem rmSi16 (l : Launch) (Z : State) (a0 : Array Value) (hw : ∀ d ∈ tables_1, d.before a0 Z = true) (ws : List Jvm.Cond) (a_INPUT_BIT a_OUTPUT_BIT a_OUTPUT_WORD a_INPUT_WORD a_MEMORY_WORD p_INPUT_BIT v_INPUT_BIT p_OUTPUT_WORD v_OUTPUT_WORD p_OUTPUT_BIT v_OUTPUT_BIT p_MEMORY_WORD v_MEMORY_WORD p_INPUT_WORD v_INPUT_WORD a_DigitOnes : Nat) (k_INPUT_BIT : ClassId) (k_OUTPUT_WORD : ClassId) (k_OUTPUT_BIT : ClassId) (k_MEMORY_WORD : ClassId) (k_INPUT_WORD : ClassId) (ucs : Int32) (uff : Value) (ua : Nat) (uc : Nat) (ub : Nat) (kb : ClassId) (ux0 : Int32) (ux1 : Int32) (ux2 : Int32) (ux3 : Int32) (ux4 : Int32) (ux5 : Int32) (h0 : Heap) (n0 : Nat) (Z0 : n0 ≤ h0.size) (O0 : Old Z n0 h0) (HW : own_W Z Z.heap a_INPUT_BIT a_OUTPUT_BIT a_OUTPUT_WORD a_INPUT_WORD a_MEMORY_WORD p_INPUT_BIT v_INPUT_BIT p_OUTPUT_WORD v_OUTPUT_WORD p_OUTPUT_BIT v_OUTPUT_BIT p_MEMORY_WORD v_MEMORY_WORD p_INPUT_WORD v_INPUT_WORD a_DigitOnes k_INPUT_BIT k_OUTPUT_WORD k_OUTPUT_BIT k_MEMORY_WORD k_INPUT_WORD ucs uff) (E_ua : Exa Z h0 ua "java/lang/String") (F_ua_value : Fld Z h0 ua "java/lang/String" "value" "[B" .null) (F_ua_coder : Fld Z h0 ua "java/lang/String" "coder" "B" (.int 0)) (E_uc : Exa Z h0 uc "java/lang/StringBuilder") (F_uc_value : Fld Z h0 uc "java/lang/AbstractStringBuilder" "value" "[B" (.ref ub)) (F_uc_coder : Fld Z h0 uc "java/lang/AbstractStringBuilder" "coder" "B" (.int 0)) (F_uc_count : Fld Z h0 uc "java/lang/AbstractStringBuilder" "count" "I" (.int 6)) (V_ub : Arv Z h0 ub kb .byte (16 : Int32) [(.int ux0), (.int ux1), (.int ux2), (.int ux3), (.int ux4), (.int ux5), (.int 0), (.int 0), (.int 0), (.int 0), (.int 0), (.int 0), (.int 0), (.int 0), (.int 0), (.int 0)] (.int 0)) (gn_ua : n0 ≤ ua)  :
    MetFree l (⟨"java/lang/String", "<init>", "(Ljava/lang/StringBuilder;)V"⟩ : MethodName) (head1 (Jvm.Cond.code (⟨"java/lang/String", "<init>", "(Ljava/lang/StringBuilder;)V"⟩ : MethodName) jdk_42_method_53_code 2 none :: ws) ({ frames := 4, cells := 1, slots := 6, locals := 98 } : Room)) (fun a U => a = #[(.ref ua), (.ref uc)] ∧ Z.Warmed39 U.vm ∧ U.heap = h0) (fun _ _ _ _ _ => True) (fun _ U o U' => ∃ v L, o = .returned v ∧ (own_Q_rmSi16 Z ua uc ub kb ux0 ux1 ux2 ux3 ux4 ux5 h0 n0) v U'.heap L ∧ FrameEnd U o U' L 1 6) := by
  refine MetFree.of_bodySF pn_rmSi16 hisR ?_
  intro p e s m args below meth c s₁ Bd hml0 hP hK
  obtain ⟨rfl, hZ, hh⟩ := hP
  have hx := Bd.exec
  have hby := Bd.bytes
  have hml : c.maxLocals = 2 := hml0
  have hown : s.vm.findClass "java/lang/String" = some m.cls := findClass_of_methodNamed Bd.named
  have hnm := (name_of_methodNamed Bd.named Bd.method).1
  have hrt := Bd.returns
  have hlk := Bd.notSynchronized
  have X0 : Stand p l e ({ frames := 4, cells := 1, slots := 6, locals := 98 } : Room) s m #[(.ref ua), (.ref uc)] below meth c s₁ [] 0 0 := Stand.of_body Bd
  have e0 : s₁.heap = h0 := by rw [← hh, Bd.state]; rfl
  have N0 := Fr.nil n0
  have K0 := Keep.refl h0 [ua]
  have lt_E_ua := own_lt E_ua.lt
  have lt_E_uc := own_lt E_uc.lt
  have lt_V_ub := own_lt V_ub.lt
  have nl_ua_ub := own_lg (Exa.neArv E_ua V_ub (own_hw 134 hw rfl))
  have nl_uc_ub := own_lg (Exa.neArv E_uc V_ub (own_hw 38 hw rfl))
  refine own_done (B := s₁.setTop (mkF m 0 #[VR ua, VR uc] [])) (fun t k => castTop (ef_rmSi16 m ua uc) k) ?_
  refine own_by (B := s₁.setTop (mkF m 1 #[VR ua, VR uc] [(.ref ua)])) (fun _ k => XS.aloadN X0.here hx rfl (hb hby d23_0) rfl rfl  k) ?_
  refine own_by (B := s₁.setTop (mkF m 2 #[VR ua, VR uc] [(.ref uc), (.ref ua)])) (fun _ k => XS.aloadN X0.here hx rfl (hb hby d23_1) rfl rfl  k) ?_
  refine own_by (B := s₁.setTop (mkF m 3 #[VR ua, VR uc] [.null, (.ref uc), (.ref ua)])) (fun _ k => XS.aconstNull X0.here hx rfl (hb hby d23_2) k) ?_
  obtain ⟨_, _, ⟨T1, L1, k1, n1⟩, -, X1, ⟨Lc1, hQ1, l1, y1, z1⟩, st1⟩ := X0.specialBack hx (y := (⟨"java/lang/String", "<init>", "(Ljava/lang/AbstractStringBuilder;Ljava/lang/Void;)V"⟩ : MethodName)) rfl hown (mvT hZ (own_hw 147 hw rfl)) (mvT hZ (own_hw 148 hw rfl)) (mvT hZ (own_hw 149 hw rfl)) (by decide) (backOf (W := 0) (rmSi26 l Z a0 hw [] a_INPUT_BIT a_OUTPUT_BIT a_OUTPUT_WORD a_INPUT_WORD a_MEMORY_WORD p_INPUT_BIT v_INPUT_BIT p_OUTPUT_WORD v_OUTPUT_WORD p_OUTPUT_BIT v_OUTPUT_BIT p_MEMORY_WORD v_MEMORY_WORD p_INPUT_WORD v_INPUT_WORD a_DigitOnes k_INPUT_BIT k_OUTPUT_WORD k_OUTPUT_BIT k_MEMORY_WORD k_INPUT_WORD ucs uff ua uc ub kb ux0 ux1 ux2 ux3 ux4 ux5 h0 n0 (own_old_le O0) O0 HW E_ua F_ua_value F_ua_coder E_uc F_uc_value F_uc_coder F_uc_count V_ub gn_ua) hZ (own_hw 149 hw rfl) (own_hw 51 hw rfl) (by decide) (by decide)) (g := (mkF m 3 #[VR ua, VR uc] [.null, (.ref uc), (.ref ua)])) rfl (by rw [hml]; rfl) (Steps.refl _) (a := ua) (argsL := [(.ref uc), .null]) (rest := []) (lenOf pd_23__Ljava_lang_AbstractStringBuilder_Ljava_lang_Void__V rfl) rfl (by show 2 * 0 + _ ≤ _; exact Nat.le_of_eq rfl) (hb hby d23_3) (fun _ _ => ⟨rfl, e0, (by decide : 0 + 1 ≤ _), (by decide : 0 + 6 ≤ _)⟩)
  dsimp only [Pt.U, Pt.locs, Pt.cells, Pt.slots] at X1 l1 y1 z1 st1 hQ1
  subst l1 y1 z1
  obtain ⟨r0_N1, kr0_N1, rfl, NC1, KC1, hb0_N1, Q0_N1, Q1_N1, Q2_N1, Q3_N1⟩ := hQ1
  refine own_by (B := T1.setTop (mkF m 6 #[VR ua, VR uc] [])) (fun _ k => st1.trans k) ?_
  have gnr0_N1 : n0 ≤ r0_N1 := Nat.le_trans (own_old_le O0) hb0_N1
  have fzr0_N1 : h0.size ≤ r0_N1 := Nat.le_trans K0.1 hb0_N1
  obtain ⟨h1, e1⟩ : ∃ z, T1.heap = z := ⟨_, rfl⟩
  rw [e1] at KC1 Q0_N1 Q1_N1 Q2_N1 Q3_N1
  have sz1 := KC1.1
  have O1 := O0.keep KC1 (allS gn_ua all0)
  have K1 := K0.trans KC1 (allS (Or.inl (List.mem_of_getElem? (i := 0) rfl)) all0)
  have N1 := Fr.app N0 NC1
  have ltq3_1 := own_lt Q3_N1.lt
  exact own_retV X1 hx hrt hlk (hb hby d23_6) (by decide) (by decide) (by show own_Q_rmSi16 Z ua uc ub kb ux0 ux1 ux2 ux3 ux4 ux5 h0 n0 _ T1.heap _; rw [e1]; exact ⟨r0_N1, kr0_N1, rfl, N1, K1, fzr0_N1, Q0_N1, Q1_N1, Q2_N1, Q3_N1⟩)

def own_Q_rmTs6 (Z : State) (uc : Nat) (ub : Nat) (kb : ClassId) (ux0 : Int32) (ux1 : Int32) (ux2 : Int32) (ux3 : Int32) (ux4 : Int32) (ux5 : Int32) (h0 : Heap) (n0 : Nat) (v : Option Value) (h : Heap) (L : List Loc) : Prop := ∃ (r0_ r1_ : Nat) (kr0_ : ClassId), v = some (.ref r0_) ∧ Fr n0 L ∧ Keep h0 h [] ∧ h0.size ≤ r0_ ∧ h0.size ≤ r1_ ∧ Exa Z h r0_ "java/lang/String" ∧ Fld Z h r0_ "java/lang/String" "value" "[B" (.ref r1_) ∧ Fld Z h r0_ "java/lang/String" "coder" "B" (.int 0) ∧ Arv Z h r1_ kr0_ .byte (6 : Int32) [(.int ux0), (.int ux1), (.int ux2), (.int ux3), (.int ux4), (.int ux5)] (.int 0)

theorem pn_rmTs6 : plainFor (⟨"java/lang/StringBuilder", "toString", "()Ljava/lang/String;"⟩ : MethodName) = true := by first | exact plainFor_of_name (by first | (simp [plainName, overriddenIn]; done) | decide +kernel) | exact Jvm.Free.JP.mathPlain rfl (by decide +kernel) | decide +kernel
theorem ef_rmTs6 (m : MethodId) (x0 : Nat) : entryFrame m #[(.ref x0)] 1 = mkF m 0 #[VR x0] [] := by first | (simp [entryFrame, mkF, argsToLocals, Value.category]; done) | rfl
set_option maxRecDepth 65536 in
set_option maxHeartbeats 40000000 in
theorem rmTs6 (l : Launch) (Z : State) (a0 : Array Value) (hw : ∀ d ∈ tables_1, d.before a0 Z = true) (ws : List Jvm.Cond) (a_INPUT_BIT a_OUTPUT_BIT a_OUTPUT_WORD a_INPUT_WORD a_MEMORY_WORD p_INPUT_BIT v_INPUT_BIT p_OUTPUT_WORD v_OUTPUT_WORD p_OUTPUT_BIT v_OUTPUT_BIT p_MEMORY_WORD v_MEMORY_WORD p_INPUT_WORD v_INPUT_WORD a_DigitOnes : Nat) (k_INPUT_BIT : ClassId) (k_OUTPUT_WORD : ClassId) (k_OUTPUT_BIT : ClassId) (k_MEMORY_WORD : ClassId) (k_INPUT_WORD : ClassId) (ucs : Int32) (uff : Value) (uc : Nat) (ub : Nat) (kb : ClassId) (ux0 : Int32) (ux1 : Int32) (ux2 : Int32) (ux3 : Int32) (ux4 : Int32) (ux5 : Int32) (h0 : Heap) (n0 : Nat) (Z0 : n0 ≤ h0.size) (O0 : Old Z n0 h0) (HW : own_W Z Z.heap a_INPUT_BIT a_OUTPUT_BIT a_OUTPUT_WORD a_INPUT_WORD a_MEMORY_WORD p_INPUT_BIT v_INPUT_BIT p_OUTPUT_WORD v_OUTPUT_WORD p_OUTPUT_BIT v_OUTPUT_BIT p_MEMORY_WORD v_MEMORY_WORD p_INPUT_WORD v_INPUT_WORD a_DigitOnes k_INPUT_BIT k_OUTPUT_WORD k_OUTPUT_BIT k_MEMORY_WORD k_INPUT_WORD ucs uff) (E_uc : Exa Z h0 uc "java/lang/StringBuilder") (F_uc_value : Fld Z h0 uc "java/lang/AbstractStringBuilder" "value" "[B" (.ref ub)) (F_uc_coder : Fld Z h0 uc "java/lang/AbstractStringBuilder" "coder" "B" (.int 0)) (F_uc_count : Fld Z h0 uc "java/lang/AbstractStringBuilder" "count" "I" (.int 6)) (V_ub : Arv Z h0 ub kb .byte (16 : Int32) [(.int ux0), (.int ux1), (.int ux2), (.int ux3), (.int ux4), (.int ux5), (.int 0), (.int 0), (.int 0), (.int 0), (.int 0), (.int 0), (.int 0), (.int 0), (.int 0), (.int 0)] (.int 0))   :
    MetFree l (⟨"java/lang/StringBuilder", "toString", "()Ljava/lang/String;"⟩ : MethodName) (head1 (Jvm.Cond.code (⟨"java/lang/StringBuilder", "toString", "()Ljava/lang/String;"⟩ : MethodName) jdk_67_method_42_code 1 (some (.object "java/lang/String")) :: ws) ({ frames := 5, cells := 2, slots := 10, locals := 112 } : Room)) (fun a U => a = #[(.ref uc)] ∧ Z.Warmed39 U.vm ∧ U.heap = h0) (fun _ _ _ _ _ => True) (fun _ U o U' => ∃ v L, o = .returned v ∧ (own_Q_rmTs6 Z uc ub kb ux0 ux1 ux2 ux3 ux4 ux5 h0 n0) v U'.heap L ∧ FrameEnd U o U' L 2 10) := by
  refine MetFree.of_bodySF pn_rmTs6 hisR ?_
  intro p e s m args below meth c s₁ Bd hml0 hP hK
  obtain ⟨rfl, hZ, hh⟩ := hP
  have hx := Bd.exec
  have hby := Bd.bytes
  have hml : c.maxLocals = 1 := hml0
  have hown : s.vm.findClass "java/lang/StringBuilder" = some m.cls := findClass_of_methodNamed Bd.named
  have hnm := (name_of_methodNamed Bd.named Bd.method).1
  have hrt := Bd.returns
  have hlk := Bd.notSynchronized
  have X0 : Stand p l e ({ frames := 5, cells := 2, slots := 10, locals := 112 } : Room) s m #[(.ref uc)] below meth c s₁ [] 0 0 := Stand.of_body Bd
  have e0 : s₁.heap = h0 := by rw [← hh, Bd.state]; rfl
  have N0 := Fr.nil n0
  have K0 := Keep.refl h0 []
  have lt_E_uc := own_lt E_uc.lt
  have lt_V_ub := own_lt V_ub.lt
  have nl_uc_ub := own_lg (Exa.neArv E_uc V_ub (own_hw 38 hw rfl))
  refine own_done (B := s₁.setTop (mkF m 0 #[VR uc] [])) (fun t k => castTop (ef_rmTs6 m uc) k) ?_
  obtain ⟨T1, h1, X1, e1, E1, A1, D1, -, st1⟩ := newO X0 hx hZ hown (own_hw 142 hw rfl) (own_hw 134 hw rfl) (own_hw 51 hw rfl) e0 (g := (mkF m 0 #[VR uc] [])) rfl (hb hby d22_0) (by decide) (by decide)
  obtain ⟨b1, g1⟩ : ∃ z, z = h0.size := ⟨_, rfl⟩
  rw [← g1] at A1 D1 st1
  have sz1 := E1.1
  have gn1 : n0 ≤ b1 := g1 ▸ own_old_le O0
  have fz1 : h0.size ≤ b1 := g1 ▸ K0.1
  have lt1 := own_lt A1.lt
  have O1 := O0.ext E1
  have K1 := K0.ext E1
  have F1_value : Fld Z h1 b1 "java/lang/String" "value" "[B" .null := D1 (Or.inr (own_hw 75 hw rfl)) (ty := (.array .byte)) (by decide)
  have F1_coder : Fld Z h1 b1 "java/lang/String" "coder" "B" (.int 0) := D1 (Or.inr (own_hw 83 hw rfl)) (ty := .byte) (by decide)
  refine own_by (B := T1.setTop (mkF m 3 #[VR uc] [(.ref b1)])) st1 ?_
  refine own_by (B := T1.setTop (mkF m 4 #[VR uc] [(.ref b1), (.ref b1)])) (fun _ k => XS.dup X1.here hx rfl (hb hby d22_3) rfl rfl k) ?_
  refine own_by (B := T1.setTop (mkF m 5 #[VR uc] [(.ref uc), (.ref b1), (.ref b1)])) (fun _ k => XS.aloadN X1.here hx rfl (hb hby d22_4) rfl rfl  k) ?_
  have c2 := (E_uc.ext E1)
  have c3 := (F_uc_value.ext E1)
  have c4 := (F_uc_coder.ext E1)
  have c5 := (F_uc_count.ext E1)
  have c6 := (V_ub.ext E1)
  obtain ⟨_, _, ⟨T7, L7, k7, n7⟩, -, X7, ⟨Lc7, hQ7, l7, y7, z7⟩, st7⟩ := X1.specialBack hx (y := (⟨"java/lang/String", "<init>", "(Ljava/lang/StringBuilder;)V"⟩ : MethodName)) rfl hown (mvT hZ (own_hw 143 hw rfl)) (mvT hZ (own_hw 144 hw rfl)) (mvT hZ (own_hw 146 hw rfl)) (by decide) (backOf (W := 1) (rmSi16 l Z a0 hw [] a_INPUT_BIT a_OUTPUT_BIT a_OUTPUT_WORD a_INPUT_WORD a_MEMORY_WORD p_INPUT_BIT v_INPUT_BIT p_OUTPUT_WORD v_OUTPUT_WORD p_OUTPUT_BIT v_OUTPUT_BIT p_MEMORY_WORD v_MEMORY_WORD p_INPUT_WORD v_INPUT_WORD a_DigitOnes k_INPUT_BIT k_OUTPUT_WORD k_OUTPUT_BIT k_MEMORY_WORD k_INPUT_WORD ucs uff b1 uc ub kb ux0 ux1 ux2 ux3 ux4 ux5 h1 n0 (own_old_le O1) O1 HW A1 F1_value F1_coder c2 c3 c4 c5 c6 gn1) hZ (own_hw 146 hw rfl) (own_hw 51 hw rfl) (by decide) (by decide)) (g := (mkF m 5 #[VR uc] [(.ref uc), (.ref b1), (.ref b1)])) rfl (by rw [hml]; rfl) (Steps.refl _) (a := b1) (argsL := [(.ref uc)]) (rest := [(.ref b1)]) (lenOf pd_22__Ljava_lang_StringBuilder__V rfl) rfl (by show 2 * 0 + _ ≤ _; exact Nat.le_of_eq rfl) (hb hby d22_5) (fun _ _ => ⟨rfl, e1, (by decide : 1 + 1 ≤ _), (by decide : 4 + 6 ≤ _)⟩)
  dsimp only [Pt.U, Pt.locs, Pt.cells, Pt.slots] at X7 l7 y7 z7 st7 hQ7
  subst l7 y7 z7
  obtain ⟨r0_N7, kr0_N7, rfl, NC7, KC7, hb0_N7, Q0_N7, Q1_N7, Q2_N7, Q3_N7⟩ := hQ7
  refine own_by (B := T7.setTop (mkF m 8 #[VR uc] [(.ref b1)])) (fun _ k => st7.trans k) ?_
  have gnr0_N7 : n0 ≤ r0_N7 := Nat.le_trans (own_old_le O1) hb0_N7
  have fzr0_N7 : h0.size ≤ r0_N7 := Nat.le_trans K1.1 hb0_N7
  obtain ⟨h7, e7⟩ : ∃ z, T7.heap = z := ⟨_, rfl⟩
  rw [e7] at KC7 Q0_N7 Q1_N7 Q2_N7 Q3_N7
  have sz7 := KC7.1
  have O7 := O1.keep KC7 (allS gn1 all0)
  have K7 := K1.trans KC7 (allS (Or.inr fz1) all0)
  have N7 := Fr.app N0 NC7
  have ltq3_7 := own_lt Q3_N7.lt
  exact own_retA X7 hx hrt rfl rfl hlk (hb hby d22_8) (by decide) (by decide) (by show own_Q_rmTs6 Z uc ub kb ux0 ux1 ux2 ux3 ux4 ux5 h0 n0 _ T7.heap _; rw [e7]; exact ⟨b1, r0_N7, kr0_N7, rfl, N7, K7, fz1, fzr0_N7, Q0_N7, Q1_N7, Q2_N7, Q3_N7⟩)

def own_Q_rmPci6 (Z : State) (uf : Value) (h0 : Heap) (n0 : Nat) (v : Option Value) (h : Heap) (L : List Loc) : Prop := v = some (.int 1) ∧ Fr n0 L ∧ Keep h0 h []

theorem d36_0 : decode jdk_41_method_11_code 0 = .ok (.iload_n 0, 1) := by decide +kernel
theorem d36_1 : decode jdk_41_method_11_code 1 = .ok (.ifCond .lt 8, 3) := by decide +kernel
theorem d36_4 : decode jdk_41_method_11_code 4 = .ok (.iload_n 0, 1) := by decide +kernel
theorem d36_5 : decode jdk_41_method_11_code 5 = .ok (.iload_n 1, 1) := by decide +kernel
theorem d36_6 : decode jdk_41_method_11_code 6 = .ok (.if_icmp .lt 10, 3) := by decide +kernel
theorem d36_16 : decode jdk_41_method_11_code 16 = .ok (.iload_n 0, 1) := by decide +kernel
theorem d36_17 : decode jdk_41_method_11_code 17 = .ok (.ireturn, 1) := by decide +kernel
theorem pn_rmPci6 : plainFor (⟨"jdk/internal/util/Preconditions", "checkIndex", "(IILjava/util/function/BiFunction;)I"⟩ : MethodName) = true := by first | exact plainFor_of_name (by first | (simp [plainName, overriddenIn]; done) | decide +kernel) | exact Jvm.Free.JP.mathPlain rfl (by decide +kernel) | decide +kernel
set_option maxRecDepth 65536 in
set_option maxHeartbeats 40000000 in
theorem rmPci6 (l : Launch) (Z : State) (a0 : Array Value) (hw : ∀ d ∈ tables_1, d.before a0 Z = true) (ws : List Jvm.Cond) (a_INPUT_BIT a_OUTPUT_BIT a_OUTPUT_WORD a_INPUT_WORD a_MEMORY_WORD p_INPUT_BIT v_INPUT_BIT p_OUTPUT_WORD v_OUTPUT_WORD p_OUTPUT_BIT v_OUTPUT_BIT p_MEMORY_WORD v_MEMORY_WORD p_INPUT_WORD v_INPUT_WORD a_DigitOnes : Nat) (k_INPUT_BIT : ClassId) (k_OUTPUT_WORD : ClassId) (k_OUTPUT_BIT : ClassId) (k_MEMORY_WORD : ClassId) (k_INPUT_WORD : ClassId) (ucs : Int32) (uff : Value) (uf : Value) (h0 : Heap) (n0 : Nat) (Z0 : n0 ≤ h0.size) (O0 : Old Z n0 h0) (HW : own_W Z Z.heap a_INPUT_BIT a_OUTPUT_BIT a_OUTPUT_WORD a_INPUT_WORD a_MEMORY_WORD p_INPUT_BIT v_INPUT_BIT p_OUTPUT_WORD v_OUTPUT_WORD p_OUTPUT_BIT v_OUTPUT_BIT p_MEMORY_WORD v_MEMORY_WORD p_INPUT_WORD v_INPUT_WORD a_DigitOnes k_INPUT_BIT k_OUTPUT_WORD k_OUTPUT_BIT k_MEMORY_WORD k_INPUT_WORD ucs uff)   (hf : uf.isRef = true) :
    MetFree l (⟨"jdk/internal/util/Preconditions", "checkIndex", "(IILjava/util/function/BiFunction;)I"⟩ : MethodName) (head1 (Jvm.Cond.code (⟨"jdk/internal/util/Preconditions", "checkIndex", "(IILjava/util/function/BiFunction;)I"⟩ : MethodName) jdk_41_method_11_code 3 (some .int) :: ws) ({ frames := 0, cells := 0, slots := 0, locals := 0 } : Room)) (fun a U => a = #[(.int 1), (.int 6), uf] ∧ Z.Warmed39 U.vm ∧ U.heap = h0) (fun _ _ _ _ _ => True) (fun _ U o U' => ∃ v L, o = .returned v ∧ (own_Q_rmPci6 Z uf h0 n0) v U'.heap L ∧ FrameEnd U o U' L 0 0) := by
  refine MetFree.of_bodySF pn_rmPci6 hisR ?_
  intro p e s m args below meth c s₁ Bd hml0 hP hK
  obtain ⟨rfl, hZ, hh⟩ := hP
  have hx := Bd.exec
  have hby := Bd.bytes
  have hml : c.maxLocals = 3 := hml0
  have hown : s.vm.findClass "jdk/internal/util/Preconditions" = some m.cls := findClass_of_methodNamed Bd.named
  have hnm := (name_of_methodNamed Bd.named Bd.method).1
  have hrt := Bd.returns
  have hlk := Bd.notSynchronized
  have X0 : Stand p l e ({ frames := 0, cells := 0, slots := 0, locals := 0 } : Room) s m #[(.int 1), (.int 6), uf] below meth c s₁ [] 0 0 := Stand.of_body Bd
  have e0 : s₁.heap = h0 := by rw [← hh, Bd.state]; rfl
  have N0 := Fr.nil n0
  have K0 := Keep.refl h0 []
  refine own_done (B := s₁.setTop (mkF m 0 #[VI 1, VI 6, .val uf] [])) (fun t k => castTop (own_efV m (1 : Int32) (6 : Int32) uf hf) k) ?_
  refine own_by (B := s₁.setTop (mkF m 1 #[VI 1, VI 6, .val uf] [(.int 1)])) (fun _ k => XS.iloadN X0.here hx rfl (hb hby d36_0) rfl  k) ?_
  refine own_by (B := s₁.setTop (mkF m 4 #[VI 1, VI 6, .val uf] [])) (fun _ k => XS.ifNo X0.here hx rfl (hb hby d36_1) rfl (XT.i0_lt_f (by decide)) k) ?_
  refine own_by (B := s₁.setTop (mkF m 5 #[VI 1, VI 6, .val uf] [(.int 1)])) (fun _ k => XS.iloadN X0.here hx rfl (hb hby d36_4) rfl  k) ?_
  refine own_by (B := s₁.setTop (mkF m 6 #[VI 1, VI 6, .val uf] [(.int 6), (.int 1)])) (fun _ k => XS.iloadN X0.here hx rfl (hb hby d36_5) rfl  k) ?_
  refine own_by (B := s₁.setTop (mkF m 16 #[VI 1, VI 6, .val uf] [])) (fun _ k => XS.icmpYes X0.here hx rfl (pc0 := 6) (pc' := 16) rfl (hb hby d36_6) rfl (XT.ii_lt_t (by decide)) (by decide) (by decide) k) ?_
  refine own_by (B := s₁.setTop (mkF m 17 #[VI 1, VI 6, .val uf] [(.int 1)])) (fun _ k => XS.iloadN X0.here hx rfl (hb hby d36_16) rfl  k) ?_
  exact own_retI X0 hx hrt hlk (hb hby d36_17) (by decide) (by decide) (by show own_Q_rmPci6 Z uf h0 n0 _ s₁.heap _; rw [e0]; exact ⟨rfl, N0, K0⟩)

def own_Q_rmCi6 (Z : State)  (h0 : Heap) (n0 : Nat) (v : Option Value) (h : Heap) (L : List Loc) : Prop := v = none ∧ Fr n0 L ∧ Keep h0 h []

theorem d35_0 : decode jdk_42_method_155_code 0 = .ok (.iload_n 0, 1) := by decide +kernel
theorem d35_1 : decode jdk_42_method_155_code 1 = .ok (.iload_n 1, 1) := by decide +kernel
theorem d35_2 : decode jdk_42_method_155_code 2 = .ok (.getstatic 1053, 3) := by decide +kernel
theorem d35_5 : decode jdk_42_method_155_code 5 = .ok (.invokestatic 1059, 3) := by decide +kernel
theorem d35_8 : decode jdk_42_method_155_code 8 = .ok (.pop, 1) := by decide +kernel
theorem d35_9 : decode jdk_42_method_155_code 9 = .ok (.return_, 1) := by decide +kernel
theorem pd_35__IILjava_util_function_BiFunction__I : parseMethodDescriptor "(IILjava/util/function/BiFunction;)I" = some ⟨[.int, .int, (.object "java/util/function/BiFunction")], some .int⟩ := by decide +kernel
theorem pn_rmCi6 : plainFor (⟨"java/lang/String", "checkIndex", "(II)V"⟩ : MethodName) = true := by first | exact plainFor_of_name (by first | (simp [plainName, overriddenIn]; done) | decide +kernel) | exact Jvm.Free.JP.mathPlain rfl (by decide +kernel) | decide +kernel
theorem ef_rmCi6 (m : MethodId) (x0 : Int32) (x1 : Int32) : entryFrame m #[(.int x0), (.int x1)] 2 = mkF m 0 #[VI x0, VI x1] [] := by first | (simp [entryFrame, mkF, argsToLocals, Value.category]; done) | rfl
set_option maxRecDepth 65536 in
set_option maxHeartbeats 40000000 in
theorem rmCi6 (l : Launch) (Z : State) (a0 : Array Value) (hw : ∀ d ∈ tables_1, d.before a0 Z = true) (ws : List Jvm.Cond) (a_INPUT_BIT a_OUTPUT_BIT a_OUTPUT_WORD a_INPUT_WORD a_MEMORY_WORD p_INPUT_BIT v_INPUT_BIT p_OUTPUT_WORD v_OUTPUT_WORD p_OUTPUT_BIT v_OUTPUT_BIT p_MEMORY_WORD v_MEMORY_WORD p_INPUT_WORD v_INPUT_WORD a_DigitOnes : Nat) (k_INPUT_BIT : ClassId) (k_OUTPUT_WORD : ClassId) (k_OUTPUT_BIT : ClassId) (k_MEMORY_WORD : ClassId) (k_INPUT_WORD : ClassId) (ucs : Int32) (uff : Value)  (h0 : Heap) (n0 : Nat) (Z0 : n0 ≤ h0.size) (O0 : Old Z n0 h0) (HW : own_W Z Z.heap a_INPUT_BIT a_OUTPUT_BIT a_OUTPUT_WORD a_INPUT_WORD a_MEMORY_WORD p_INPUT_BIT v_INPUT_BIT p_OUTPUT_WORD v_OUTPUT_WORD p_OUTPUT_BIT v_OUTPUT_BIT p_MEMORY_WORD v_MEMORY_WORD p_INPUT_WORD v_INPUT_WORD a_DigitOnes k_INPUT_BIT k_OUTPUT_WORD k_OUTPUT_BIT k_MEMORY_WORD k_INPUT_WORD ucs uff)    :
    MetFree l (⟨"java/lang/String", "checkIndex", "(II)V"⟩ : MethodName) (head1 (Jvm.Cond.code (⟨"java/lang/String", "checkIndex", "(II)V"⟩ : MethodName) jdk_42_method_155_code 2 none :: ws) ({ frames := 1, cells := 0, slots := 0, locals := 14 } : Room)) (fun a U => a = #[(.int 1), (.int 6)] ∧ Z.Warmed39 U.vm ∧ U.heap = h0) (fun _ _ _ _ _ => True) (fun _ U o U' => ∃ v L, o = .returned v ∧ (own_Q_rmCi6 Z  h0 n0) v U'.heap L ∧ FrameEnd U o U' L 0 0) := by
  refine MetFree.of_bodySF pn_rmCi6 hisR ?_
  intro p e s m args below meth c s₁ Bd hml0 hP hK
  obtain ⟨rfl, hZ, hh⟩ := hP
  have hx := Bd.exec
  have hby := Bd.bytes
  have hml : c.maxLocals = 2 := hml0
  have hown : s.vm.findClass "java/lang/String" = some m.cls := findClass_of_methodNamed Bd.named
  have hnm := (name_of_methodNamed Bd.named Bd.method).1
  have hrt := Bd.returns
  have hlk := Bd.notSynchronized
  have X0 : Stand p l e ({ frames := 1, cells := 0, slots := 0, locals := 14 } : Room) s m #[(.int 1), (.int 6)] below meth c s₁ [] 0 0 := Stand.of_body Bd
  have e0 : s₁.heap = h0 := by rw [← hh, Bd.state]; rfl
  have N0 := Fr.nil n0
  have K0 := Keep.refl h0 []
  have HW' := HW
  obtain ⟨-, -, -, -, -, -, -, -, -, -, -, -, -, -, -, -, -, -, -, -, -, -, -, -, -, -, -, -, -, -, -, -, -, -, -, -, -, -, -, -, -, -, S_FF, H_FF, -, -⟩ := HW'
  refine own_done (B := s₁.setTop (mkF m 0 #[VI 1, VI 6] [])) (fun t k => castTop (ef_rmCi6 m (1 : Int32) (6 : Int32)) k) ?_
  refine own_by (B := s₁.setTop (mkF m 1 #[VI 1, VI 6] [(.int 1)])) (fun _ k => XS.iloadN X0.here hx rfl (hb hby d35_0) rfl  k) ?_
  refine own_by (B := s₁.setTop (mkF m 2 #[VI 1, VI 6] [(.int 6), (.int 1)])) (fun _ k => XS.iloadN X0.here hx rfl (hb hby d35_1) rfl  k) ?_
  obtain ⟨T1, X1, e1, st1⟩ := getS2 X0 hx hZ hown (host := "") (Or.inl (own_hw 198 hw rfl)) Via.refl e0 (S_FF.ext O0.2) (g := (mkF m 2 #[VI 1, VI 6] [(.int 6), (.int 1)])) rfl (hb hby d35_2)
  refine own_by (B := T1.setTop (mkF m 5 #[VI 1, VI 6] [uff, (.int 6), (.int 1)])) st1 ?_
  obtain ⟨_, _, ⟨T2, L2, k2, n2⟩, -, X2, ⟨Lc2, hQ2, l2, y2, z2⟩, st2⟩ := Jvm.LawKit.callS X1 hx (y := (⟨"jdk/internal/util/Preconditions", "checkIndex", "(IILjava/util/function/BiFunction;)I"⟩ : MethodName)) hown (mvT hZ (own_hw 200 hw rfl)) (mvT hZ (own_hw 201 hw rfl)) (mvT hZ (own_hw 199 hw rfl)) (mvT hZ (own_hw 202 hw rfl)) (by decide) (backOf (W := 0) (rmPci6 l Z a0 hw [] a_INPUT_BIT a_OUTPUT_BIT a_OUTPUT_WORD a_INPUT_WORD a_MEMORY_WORD p_INPUT_BIT v_INPUT_BIT p_OUTPUT_WORD v_OUTPUT_WORD p_OUTPUT_BIT v_OUTPUT_BIT p_MEMORY_WORD v_MEMORY_WORD p_INPUT_WORD v_INPUT_WORD a_DigitOnes k_INPUT_BIT k_OUTPUT_WORD k_OUTPUT_BIT k_MEMORY_WORD k_INPUT_WORD ucs uff uff h0 n0 (own_old_le O0) O0 HW H_FF) hZ (own_hw 202 hw rfl) (own_hw 199 hw rfl) (by decide) (by decide)) (g := (mkF m 5 #[VI 1, VI 6] [uff, (.int 6), (.int 1)])) rfl (by rw [hml]; rfl) (argsL := [(.int 1), (.int 6), uff]) (rest := []) (lenOf pd_35__IILjava_util_function_BiFunction__I rfl) rfl (by show 2 * 0 + _ ≤ _; exact Nat.le_of_eq rfl) (hb hby d35_5) (fun _ _ => ⟨rfl, e1, (by decide : 0 + 0 ≤ _), (by decide : 0 + 0 ≤ _)⟩)
  dsimp only [Pt.U, Pt.locs, Pt.cells, Pt.slots] at X2 l2 y2 z2 st2 hQ2
  subst l2 y2 z2
  obtain ⟨rfl, NC2, KC2⟩ := hQ2
  refine own_by (B := T2.setTop (mkF m 8 #[VI 1, VI 6] [(.int 1)])) st2 ?_
  obtain ⟨h2, e2⟩ : ∃ z, T2.heap = z := ⟨_, rfl⟩
  rw [e2] at KC2
  have sz2 := KC2.1
  have O2 := O0.keep KC2 all0
  have K2 := K0.trans KC2 all0
  have N2 := Fr.app N0 NC2
  refine own_by (B := T2.setTop (mkF m 9 #[VI 1, VI 6] [])) (fun _ k => XT.pop X2.here hx rfl (hb hby d35_8) rfl rfl k) ?_
  exact own_retV X2 hx hrt hlk (hb hby d35_9) (by decide) (by decide) (by show own_Q_rmCi6 Z  h0 n0 _ T2.heap _; rw [e2]; exact ⟨rfl, N2, K2⟩)

def own_Q_rmSl6_73 (Z : State) (ua : Nat) (ub : Nat) (kb : ClassId) (ux0 : Int32) (ux2 : Int32) (ux3 : Int32) (ux4 : Int32) (ux5 : Int32) (h0 : Heap) (n0 : Nat) (v : Option Value) (h : Heap) (L : List Loc) : Prop := v = some (.int 1) ∧ Fr n0 L ∧ Keep h0 h []

theorem d33_0 : decode jdk_42_method_154_code 0 = .ok (.getstatic 38, 3) := by decide +kernel
theorem d33_3 : decode jdk_42_method_154_code 3 = .ok (.ifCond .eq 14, 3) := by decide +kernel
theorem d33_6 : decode jdk_42_method_154_code 6 = .ok (.aload_n 0, 1) := by decide +kernel
theorem d33_7 : decode jdk_42_method_154_code 7 = .ok (.getfield 15, 3) := by decide +kernel
theorem d33_10 : decode jdk_42_method_154_code 10 = .ok (.ifCond .ne 7, 3) := by decide +kernel
theorem d33_13 : decode jdk_42_method_154_code 13 = .ok (.iconst 1, 1) := by decide +kernel
theorem d33_14 : decode jdk_42_method_154_code 14 = .ok (.goto 4, 3) := by decide +kernel
theorem d33_18 : decode jdk_42_method_154_code 18 = .ok (.ireturn, 1) := by decide +kernel
theorem pn_rmSl6_73 : plainFor (⟨"java/lang/String", "isLatin1", "()Z"⟩ : MethodName) = true := by first | exact plainFor_of_name (by first | (simp [plainName, overriddenIn]; done) | decide +kernel) | exact Jvm.Free.JP.mathPlain rfl (by decide +kernel) | decide +kernel
theorem ef_rmSl6_73 (m : MethodId) (x0 : Nat) : entryFrame m #[(.ref x0)] 1 = mkF m 0 #[VR x0] [] := by first | (simp [entryFrame, mkF, argsToLocals, Value.category]; done) | rfl
set_option maxRecDepth 65536 in
set_option maxHeartbeats 40000000 in
theorem rmSl6_73 (l : Launch) (Z : State) (a0 : Array Value) (hw : ∀ d ∈ tables_1, d.before a0 Z = true) (ws : List Jvm.Cond) (a_INPUT_BIT a_OUTPUT_BIT a_OUTPUT_WORD a_INPUT_WORD a_MEMORY_WORD p_INPUT_BIT v_INPUT_BIT p_OUTPUT_WORD v_OUTPUT_WORD p_OUTPUT_BIT v_OUTPUT_BIT p_MEMORY_WORD v_MEMORY_WORD p_INPUT_WORD v_INPUT_WORD a_DigitOnes : Nat) (k_INPUT_BIT : ClassId) (k_OUTPUT_WORD : ClassId) (k_OUTPUT_BIT : ClassId) (k_MEMORY_WORD : ClassId) (k_INPUT_WORD : ClassId) (ucs : Int32) (uff : Value) (ua : Nat) (ub : Nat) (kb : ClassId) (ux0 : Int32) (ux2 : Int32) (ux3 : Int32) (ux4 : Int32) (ux5 : Int32) (h0 : Heap) (n0 : Nat) (Z0 : n0 ≤ h0.size) (O0 : Old Z n0 h0) (HW : own_W Z Z.heap a_INPUT_BIT a_OUTPUT_BIT a_OUTPUT_WORD a_INPUT_WORD a_MEMORY_WORD p_INPUT_BIT v_INPUT_BIT p_OUTPUT_WORD v_OUTPUT_WORD p_OUTPUT_BIT v_OUTPUT_BIT p_MEMORY_WORD v_MEMORY_WORD p_INPUT_WORD v_INPUT_WORD a_DigitOnes k_INPUT_BIT k_OUTPUT_WORD k_OUTPUT_BIT k_MEMORY_WORD k_INPUT_WORD ucs uff) (E_ua : Exa Z h0 ua "java/lang/String") (F_ua_value : Fld Z h0 ua "java/lang/String" "value" "[B" (.ref ub)) (F_ua_coder : Fld Z h0 ua "java/lang/String" "coder" "B" (.int 0)) (V_ub : Arv Z h0 ub kb .byte (6 : Int32) [(.int ux0), (.int 73), (.int ux2), (.int ux3), (.int ux4), (.int ux5)] (.int 0))   :
    MetFree l (⟨"java/lang/String", "isLatin1", "()Z"⟩ : MethodName) (head1 (Jvm.Cond.code (⟨"java/lang/String", "isLatin1", "()Z"⟩ : MethodName) jdk_42_method_154_code 1 (some .boolean) :: ws) ({ frames := 0, cells := 0, slots := 0, locals := 0 } : Room)) (fun a U => a = #[(.ref ua)] ∧ Z.Warmed39 U.vm ∧ U.heap = h0) (fun _ _ _ _ _ => True) (fun _ U o U' => ∃ v L, o = .returned v ∧ (own_Q_rmSl6_73 Z ua ub kb ux0 ux2 ux3 ux4 ux5 h0 n0) v U'.heap L ∧ FrameEnd U o U' L 0 0) := by
  refine MetFree.of_bodySF pn_rmSl6_73 hisR ?_
  intro p e s m args below meth c s₁ Bd hml0 hP hK
  obtain ⟨rfl, hZ, hh⟩ := hP
  have hx := Bd.exec
  have hby := Bd.bytes
  have hml : c.maxLocals = 1 := hml0
  have hown : s.vm.findClass "java/lang/String" = some m.cls := findClass_of_methodNamed Bd.named
  have hnm := (name_of_methodNamed Bd.named Bd.method).1
  have hrt := Bd.returns
  have hlk := Bd.notSynchronized
  have X0 : Stand p l e ({ frames := 0, cells := 0, slots := 0, locals := 0 } : Room) s m #[(.ref ua)] below meth c s₁ [] 0 0 := Stand.of_body Bd
  have e0 : s₁.heap = h0 := by rw [← hh, Bd.state]; rfl
  have N0 := Fr.nil n0
  have K0 := Keep.refl h0 []
  have HW' := HW
  obtain ⟨-, -, -, -, -, -, -, -, -, -, -, -, -, -, -, -, -, -, -, -, -, -, -, -, -, -, -, -, -, -, -, -, -, -, -, -, -, -, -, -, S_CS, H_CS, -, -, -, -⟩ := HW'
  have lt_E_ua := own_lt E_ua.lt
  have lt_V_ub := own_lt V_ub.lt
  have nl_ua_ub := own_lg (Exa.neArv E_ua V_ub (own_hw 134 hw rfl))
  refine own_done (B := s₁.setTop (mkF m 0 #[VR ua] [])) (fun t k => castTop (ef_rmSl6_73 m ua) k) ?_
  obtain ⟨T1, X1, e1, st1⟩ := getS2 X0 hx hZ hown (host := "") (Or.inl (own_hw 81 hw rfl)) Via.refl e0 (S_CS.ext O0.2) (g := (mkF m 0 #[VR ua] [])) rfl (hb hby d33_0)
  refine own_by (B := T1.setTop (mkF m 3 #[VR ua] [(.int ucs)])) st1 ?_
  refine own_by (B := T1.setTop (mkF m 6 #[VR ua] [])) (fun _ k => XS.ifNo X1.here hx rfl (hb hby d33_3) rfl (XT.i0_eq_f H_CS) k) ?_
  refine own_by (B := T1.setTop (mkF m 7 #[VR ua] [(.ref ua)])) (fun _ k => XS.aloadN X1.here hx rfl (hb hby d33_6) rfl rfl  k) ?_
  obtain ⟨T2, X2, e2, st2⟩ := getF X1 hx hZ hown (host := "") (Or.inl (own_hw 82 hw rfl)) Via.refl e1 F_ua_coder (g := (mkF m 7 #[VR ua] [(.ref ua)])) rfl rfl (hb hby d33_7)
  refine own_by (B := T2.setTop (mkF m 10 #[VR ua] [(.int 0)])) st2 ?_
  refine own_by (B := T2.setTop (mkF m 13 #[VR ua] [])) (fun _ k => XS.ifNo X2.here hx rfl (hb hby d33_10) rfl (XT.i0_ne_f (by decide)) k) ?_
  refine own_by (B := T2.setTop (mkF m 14 #[VR ua] [(.int 1)])) (fun _ k => XS.iconst X2.here hx rfl (hb hby d33_13) k) ?_
  refine own_by (B := T2.setTop (mkF m 18 #[VR ua] [(.int 1)])) (fun _ k => XS.goto X2.here hx rfl (pc0 := 14) (pc' := 18) rfl (hb hby d33_14) (by decide) (by decide) k) ?_
  exact own_retZ X2 hx hrt hlk rfl (hb hby d33_18) (by decide) (by decide) (by show own_Q_rmSl6_73 Z ua ub kb ux0 ux2 ux3 ux4 ux5 h0 n0 _ T2.heap _; rw [e2]; exact ⟨rfl, N0, K0⟩)

def own_Q_rmLc6_73 (Z : State) (ub : Nat) (kb : ClassId) (ux0 : Int32) (ux2 : Int32) (ux3 : Int32) (ux4 : Int32) (ux5 : Int32) (h0 : Heap) (n0 : Nat) (v : Option Value) (h : Heap) (L : List Loc) : Prop := v = some (.int 73) ∧ Fr n0 L ∧ Keep h0 h []

theorem d34_0 : decode jdk_43_method_2_code 0 = .ok (.iload_n 1, 1) := by decide +kernel
theorem d34_1 : decode jdk_43_method_2_code 1 = .ok (.aload_n 0, 1) := by decide +kernel
theorem d34_2 : decode jdk_43_method_2_code 2 = .ok (.arraylength, 1) := by decide +kernel
theorem d34_3 : decode jdk_43_method_2_code 3 = .ok (.invokestatic 9, 3) := by decide +kernel
theorem d34_6 : decode jdk_43_method_2_code 6 = .ok (.aload_n 0, 1) := by decide +kernel
theorem d34_7 : decode jdk_43_method_2_code 7 = .ok (.iload_n 1, 1) := by decide +kernel
theorem d34_8 : decode jdk_43_method_2_code 8 = .ok (.baload, 1) := by decide +kernel
theorem d34_9 : decode jdk_43_method_2_code 9 = .ok (.sipush 255, 3) := by decide +kernel
theorem d34_12 : decode jdk_43_method_2_code 12 = .ok (.iand, 1) := by decide +kernel
theorem d34_13 : decode jdk_43_method_2_code 13 = .ok (.i2c, 1) := by decide +kernel
theorem d34_14 : decode jdk_43_method_2_code 14 = .ok (.ireturn, 1) := by decide +kernel
theorem pd_34__II_V : parseMethodDescriptor "(II)V" = some ⟨[.int, .int], none⟩ := by decide +kernel
theorem pn_rmLc6_73 : plainFor (⟨"java/lang/StringLatin1", "charAt", "([BI)C"⟩ : MethodName) = true := by first | exact plainFor_of_name (by first | (simp [plainName, overriddenIn]; done) | decide +kernel) | exact Jvm.Free.JP.mathPlain rfl (by decide +kernel) | decide +kernel
theorem ef_rmLc6_73 (m : MethodId) (x0 : Nat) (x1 : Int32) : entryFrame m #[(.ref x0), (.int x1)] 2 = mkF m 0 #[VR x0, VI x1] [] := by first | (simp [entryFrame, mkF, argsToLocals, Value.category]; done) | rfl
set_option maxRecDepth 65536 in
set_option maxHeartbeats 40000000 in
theorem rmLc6_73 (l : Launch) (Z : State) (a0 : Array Value) (hw : ∀ d ∈ tables_1, d.before a0 Z = true) (ws : List Jvm.Cond) (a_INPUT_BIT a_OUTPUT_BIT a_OUTPUT_WORD a_INPUT_WORD a_MEMORY_WORD p_INPUT_BIT v_INPUT_BIT p_OUTPUT_WORD v_OUTPUT_WORD p_OUTPUT_BIT v_OUTPUT_BIT p_MEMORY_WORD v_MEMORY_WORD p_INPUT_WORD v_INPUT_WORD a_DigitOnes : Nat) (k_INPUT_BIT : ClassId) (k_OUTPUT_WORD : ClassId) (k_OUTPUT_BIT : ClassId) (k_MEMORY_WORD : ClassId) (k_INPUT_WORD : ClassId) (ucs : Int32) (uff : Value) (ub : Nat) (kb : ClassId) (ux0 : Int32) (ux2 : Int32) (ux3 : Int32) (ux4 : Int32) (ux5 : Int32) (h0 : Heap) (n0 : Nat) (Z0 : n0 ≤ h0.size) (O0 : Old Z n0 h0) (HW : own_W Z Z.heap a_INPUT_BIT a_OUTPUT_BIT a_OUTPUT_WORD a_INPUT_WORD a_MEMORY_WORD p_INPUT_BIT v_INPUT_BIT p_OUTPUT_WORD v_OUTPUT_WORD p_OUTPUT_BIT v_OUTPUT_BIT p_MEMORY_WORD v_MEMORY_WORD p_INPUT_WORD v_INPUT_WORD a_DigitOnes k_INPUT_BIT k_OUTPUT_WORD k_OUTPUT_BIT k_MEMORY_WORD k_INPUT_WORD ucs uff) (V_ub : Arv Z h0 ub kb .byte (6 : Int32) [(.int ux0), (.int 73), (.int ux2), (.int ux3), (.int ux4), (.int ux5)] (.int 0))   :
    MetFree l (⟨"java/lang/StringLatin1", "charAt", "([BI)C"⟩ : MethodName) (head1 (Jvm.Cond.code (⟨"java/lang/StringLatin1", "charAt", "([BI)C"⟩ : MethodName) jdk_43_method_2_code 2 (some .char) :: ws) ({ frames := 2, cells := 0, slots := 0, locals := 27 } : Room)) (fun a U => a = #[(.ref ub), (.int 1)] ∧ Z.Warmed39 U.vm ∧ U.heap = h0) (fun _ _ _ _ _ => True) (fun _ U o U' => ∃ v L, o = .returned v ∧ (own_Q_rmLc6_73 Z ub kb ux0 ux2 ux3 ux4 ux5 h0 n0) v U'.heap L ∧ FrameEnd U o U' L 0 0) := by
  refine MetFree.of_bodySF pn_rmLc6_73 hisR ?_
  intro p e s m args below meth c s₁ Bd hml0 hP hK
  obtain ⟨rfl, hZ, hh⟩ := hP
  have hx := Bd.exec
  have hby := Bd.bytes
  have hml : c.maxLocals = 2 := hml0
  have hown : s.vm.findClass "java/lang/StringLatin1" = some m.cls := findClass_of_methodNamed Bd.named
  have hnm := (name_of_methodNamed Bd.named Bd.method).1
  have hrt := Bd.returns
  have hlk := Bd.notSynchronized
  have X0 : Stand p l e ({ frames := 2, cells := 0, slots := 0, locals := 27 } : Room) s m #[(.ref ub), (.int 1)] below meth c s₁ [] 0 0 := Stand.of_body Bd
  have e0 : s₁.heap = h0 := by rw [← hh, Bd.state]; rfl
  have N0 := Fr.nil n0
  have K0 := Keep.refl h0 []
  have lt_V_ub := own_lt V_ub.lt
  refine own_done (B := s₁.setTop (mkF m 0 #[VR ub, VI 1] [])) (fun t k => castTop (ef_rmLc6_73 m ub (1 : Int32)) k) ?_
  refine own_by (B := s₁.setTop (mkF m 1 #[VR ub, VI 1] [(.int 1)])) (fun _ k => XS.iloadN X0.here hx rfl (hb hby d34_0) rfl  k) ?_
  refine own_by (B := s₁.setTop (mkF m 2 #[VR ub, VI 1] [(.ref ub), (.int 1)])) (fun _ k => XS.aloadN X0.here hx rfl (hb hby d34_1) rfl rfl  k) ?_
  obtain ⟨cl1, Ar1, qq1, Sz1, Nn1, Hh1, Gg1⟩ := id (V_ub)
  refine own_by (B := s₁.setTop (mkF m 3 #[VR ub, VI 1] [(.int 6), (.int 1)])) (fun t k => X0.arraylength hx (by rw [e0]; exact Ar1.1) (State.isArrayOf_alike hZ.alike Ar1.2.1) (g := (mkF m 2 #[VR ub, VI 1] [(.ref ub), (.int 1)])) rfl rfl (hb hby d34_2) t (by rw [len_of Sz1 Nn1]; exact k)) ?_
  obtain ⟨_, _, ⟨T2, L2, k2, n2⟩, -, X2, ⟨Lc2, hQ2, l2, y2, z2⟩, st2⟩ := Jvm.LawKit.callS X0 hx (y := (⟨"java/lang/String", "checkIndex", "(II)V"⟩ : MethodName)) hown (mvT hZ (own_hw 195 hw rfl)) (mvT hZ (own_hw 196 hw rfl)) (mvT hZ (own_hw 51 hw rfl)) (mvT hZ (own_hw 197 hw rfl)) (by decide) (backOf (W := 0) (rmCi6 l Z a0 hw [] a_INPUT_BIT a_OUTPUT_BIT a_OUTPUT_WORD a_INPUT_WORD a_MEMORY_WORD p_INPUT_BIT v_INPUT_BIT p_OUTPUT_WORD v_OUTPUT_WORD p_OUTPUT_BIT v_OUTPUT_BIT p_MEMORY_WORD v_MEMORY_WORD p_INPUT_WORD v_INPUT_WORD a_DigitOnes k_INPUT_BIT k_OUTPUT_WORD k_OUTPUT_BIT k_MEMORY_WORD k_INPUT_WORD ucs uff  h0 n0 (own_old_le O0) O0 HW ) hZ (own_hw 197 hw rfl) (own_hw 51 hw rfl) (by decide) (by decide)) (g := (mkF m 3 #[VR ub, VI 1] [(.int 6), (.int 1)])) rfl (by rw [hml]; rfl) (argsL := [(.int 1), (.int 6)]) (rest := []) (lenOf pd_34__II_V rfl) rfl (by show 2 * 0 + _ ≤ _; exact Nat.le_of_eq rfl) (hb hby d34_3) (fun _ _ => ⟨rfl, e0, (by decide : 0 + 0 ≤ _), (by decide : 0 + 0 ≤ _)⟩)
  dsimp only [Pt.U, Pt.locs, Pt.cells, Pt.slots] at X2 l2 y2 z2 st2 hQ2
  subst l2 y2 z2
  obtain ⟨rfl, NC2, KC2⟩ := hQ2
  refine own_by (B := T2.setTop (mkF m 6 #[VR ub, VI 1] [])) st2 ?_
  obtain ⟨h2, e2⟩ : ∃ z, T2.heap = z := ⟨_, rfl⟩
  rw [e2] at KC2
  have sz2 := KC2.1
  have O2 := O0.keep KC2 all0
  have K2 := K0.trans KC2 all0
  have N2 := Fr.app N0 NC2
  refine own_by (B := T2.setTop (mkF m 7 #[VR ub, VI 1] [(.ref ub)])) (fun _ k => XS.aloadN X2.here hx rfl (hb hby d34_6) rfl rfl  k) ?_
  refine own_by (B := T2.setTop (mkF m 8 #[VR ub, VI 1] [(.int 1), (.ref ub)])) (fun _ k => XS.iloadN X2.here hx rfl (hb hby d34_7) rfl  k) ?_
  have c3 := (V_ub.keep KC2 nin0)
  obtain ⟨cl4, Ar4, qq4, Sz4, Nn4, Hh4, Gg4⟩ := id (c3)
  have hin4 : ¬ ((1 : Int32) < 0 ∨ cl4.slots.size ≤ ((1 : Int32)).toNatClampNeg) := inb_of Sz4 ⟨by decide, by decide⟩
  refine own_by (B := T2.setTop (mkF m 9 #[VR ub, VI 1] [(.int 73)])) (fun t k => X2.baloadBytes hx (j := (1 : Int32)) (v := (.int 73)) (by rw [e2]; exact Ar4.1) (State.isArrayOf_alike hZ.alike Ar4.2.1) Ar4.2.2 hin4 (Hh4.at hin4 rfl) (g := (mkF m 8 #[VR ub, VI 1] [(.int 1), (.ref ub)])) rfl rfl (hb hby d34_8) t k) ?_
  refine own_by (B := T2.setTop (mkF m 12 #[VR ub, VI 1] [(.int 255), (.int 73)])) (fun _ k => XS.sipush X2.here hx rfl (hb hby d34_9) k) ?_
  refine own_by (B := T2.setTop (mkF m 13 #[VR ub, VI 1] [(.int 73)])) (fun _ k => XS.iand X2.here hx rfl (hb hby d34_12) rfl k) ?_
  refine own_by (B := T2.setTop (mkF m 14 #[VR ub, VI 1] [(.int 73)])) (fun _ k => XT.i2c X2.here hx rfl (hb hby d34_13) rfl k) ?_
  exact own_retW X2 hx hrt hlk rfl (Or.inl ⟨rfl, by simp, _, rfl⟩) (hb hby d34_14) (by decide) (by decide) (by show own_Q_rmLc6_73 Z ub kb ux0 ux2 ux3 ux4 ux5 h0 n0 _ T2.heap _; rw [e2]; exact ⟨rfl, N2, K2⟩)

def own_Q_rmCa6_73 (Z : State) (ua : Nat) (ub : Nat) (kb : ClassId) (ux0 : Int32) (ux2 : Int32) (ux3 : Int32) (ux4 : Int32) (ux5 : Int32) (h0 : Heap) (n0 : Nat) (v : Option Value) (h : Heap) (L : List Loc) : Prop := v = some (.int 73) ∧ Fr n0 L ∧ Keep h0 h []

theorem d32_0 : decode jdk_42_method_56_code 0 = .ok (.aload_n 0, 1) := by decide +kernel
theorem d32_1 : decode jdk_42_method_56_code 1 = .ok (.invokevirtual 492, 3) := by decide +kernel
theorem d32_4 : decode jdk_42_method_56_code 4 = .ok (.ifCond .eq 12, 3) := by decide +kernel
theorem d32_7 : decode jdk_42_method_56_code 7 = .ok (.aload_n 0, 1) := by decide +kernel
theorem d32_8 : decode jdk_42_method_56_code 8 = .ok (.getfield 9, 3) := by decide +kernel
theorem d32_11 : decode jdk_42_method_56_code 11 = .ok (.iload_n 1, 1) := by decide +kernel
theorem d32_12 : decode jdk_42_method_56_code 12 = .ok (.invokestatic 495, 3) := by decide +kernel
theorem d32_15 : decode jdk_42_method_56_code 15 = .ok (.ireturn, 1) := by decide +kernel
theorem pd_32___Z : parseMethodDescriptor "()Z" = some ⟨[], some .boolean⟩ := by decide +kernel
theorem pd_32___BI_C : parseMethodDescriptor "([BI)C" = some ⟨[(.array .byte), .int], some .char⟩ := by decide +kernel
theorem pn_rmCa6_73 : plainFor (⟨"java/lang/String", "charAt", "(I)C"⟩ : MethodName) = true := by first | exact plainFor_of_name (by first | (simp [plainName, overriddenIn]; done) | decide +kernel) | exact Jvm.Free.JP.mathPlain rfl (by decide +kernel) | decide +kernel
theorem ef_rmCa6_73 (m : MethodId) (x0 : Nat) (x1 : Int32) : entryFrame m #[(.ref x0), (.int x1)] 2 = mkF m 0 #[VR x0, VI x1] [] := by first | (simp [entryFrame, mkF, argsToLocals, Value.category]; done) | rfl
set_option maxRecDepth 65536 in
set_option maxHeartbeats 40000000 in
theorem rmCa6_73 (l : Launch) (Z : State) (a0 : Array Value) (hw : ∀ d ∈ tables_1, d.before a0 Z = true) (ws : List Jvm.Cond) (a_INPUT_BIT a_OUTPUT_BIT a_OUTPUT_WORD a_INPUT_WORD a_MEMORY_WORD p_INPUT_BIT v_INPUT_BIT p_OUTPUT_WORD v_OUTPUT_WORD p_OUTPUT_BIT v_OUTPUT_BIT p_MEMORY_WORD v_MEMORY_WORD p_INPUT_WORD v_INPUT_WORD a_DigitOnes : Nat) (k_INPUT_BIT : ClassId) (k_OUTPUT_WORD : ClassId) (k_OUTPUT_BIT : ClassId) (k_MEMORY_WORD : ClassId) (k_INPUT_WORD : ClassId) (ucs : Int32) (uff : Value) (ua : Nat) (ub : Nat) (kb : ClassId) (ux0 : Int32) (ux2 : Int32) (ux3 : Int32) (ux4 : Int32) (ux5 : Int32) (h0 : Heap) (n0 : Nat) (Z0 : n0 ≤ h0.size) (O0 : Old Z n0 h0) (HW : own_W Z Z.heap a_INPUT_BIT a_OUTPUT_BIT a_OUTPUT_WORD a_INPUT_WORD a_MEMORY_WORD p_INPUT_BIT v_INPUT_BIT p_OUTPUT_WORD v_OUTPUT_WORD p_OUTPUT_BIT v_OUTPUT_BIT p_MEMORY_WORD v_MEMORY_WORD p_INPUT_WORD v_INPUT_WORD a_DigitOnes k_INPUT_BIT k_OUTPUT_WORD k_OUTPUT_BIT k_MEMORY_WORD k_INPUT_WORD ucs uff) (E_ua : Exa Z h0 ua "java/lang/String") (F_ua_value : Fld Z h0 ua "java/lang/String" "value" "[B" (.ref ub)) (F_ua_coder : Fld Z h0 ua "java/lang/String" "coder" "B" (.int 0)) (V_ub : Arv Z h0 ub kb .byte (6 : Int32) [(.int ux0), (.int 73), (.int ux2), (.int ux3), (.int ux4), (.int ux5)] (.int 0))   :
    MetFree l (⟨"java/lang/String", "charAt", "(I)C"⟩ : MethodName) (head1 (Jvm.Cond.code (⟨"java/lang/String", "charAt", "(I)C"⟩ : MethodName) jdk_42_method_56_code 2 (some .char) :: ws) ({ frames := 3, cells := 0, slots := 0, locals := 40 } : Room)) (fun a U => a = #[(.ref ua), (.int 1)] ∧ Z.Warmed39 U.vm ∧ U.heap = h0) (fun _ _ _ _ _ => True) (fun _ U o U' => ∃ v L, o = .returned v ∧ (own_Q_rmCa6_73 Z ua ub kb ux0 ux2 ux3 ux4 ux5 h0 n0) v U'.heap L ∧ FrameEnd U o U' L 0 0) := by
  refine MetFree.of_bodySF pn_rmCa6_73 hisR ?_
  intro p e s m args below meth c s₁ Bd hml0 hP hK
  obtain ⟨rfl, hZ, hh⟩ := hP
  have hx := Bd.exec
  have hby := Bd.bytes
  have hml : c.maxLocals = 2 := hml0
  have hown : s.vm.findClass "java/lang/String" = some m.cls := findClass_of_methodNamed Bd.named
  have hnm := (name_of_methodNamed Bd.named Bd.method).1
  have hrt := Bd.returns
  have hlk := Bd.notSynchronized
  have X0 : Stand p l e ({ frames := 3, cells := 0, slots := 0, locals := 40 } : Room) s m #[(.ref ua), (.int 1)] below meth c s₁ [] 0 0 := Stand.of_body Bd
  have e0 : s₁.heap = h0 := by rw [← hh, Bd.state]; rfl
  have N0 := Fr.nil n0
  have K0 := Keep.refl h0 []
  have lt_E_ua := own_lt E_ua.lt
  have lt_V_ub := own_lt V_ub.lt
  have nl_ua_ub := own_lg (Exa.neArv E_ua V_ub (own_hw 134 hw rfl))
  refine own_done (B := s₁.setTop (mkF m 0 #[VR ua, VI 1] [])) (fun t k => castTop (ef_rmCa6_73 m ua (1 : Int32)) k) ?_
  refine own_by (B := s₁.setTop (mkF m 1 #[VR ua, VI 1] [(.ref ua)])) (fun _ k => XS.aloadN X0.here hx rfl (hb hby d32_0) rfl rfl  k) ?_
  obtain ⟨cq1, kq1, qa1, qb1, qc1⟩ := isOf hZ e0 E_ua
  obtain ⟨_, _, ⟨T1, L1, k1, n1⟩, -, X1, ⟨Lc1, hQ1, l1, y1, z1⟩, st1⟩ := X0.virtualBack hx (y := (⟨"java/lang/String", "isLatin1", "()Z"⟩ : MethodName)) (z := (⟨"java/lang/String", "isLatin1", "()Z"⟩ : MethodName)) hown (mvT hZ (own_hw 186 hw rfl)) (mvT hZ (own_hw 187 hw rfl)) (notFace_of_selects (args := #[]) (mvT hZ (own_hw 189 hw rfl))) (mvT hZ (own_hw 189 hw rfl)) (mvT hZ (own_hw 188 hw rfl)) (by decide) (backOf (W := 0) (rmSl6_73 l Z a0 hw [] a_INPUT_BIT a_OUTPUT_BIT a_OUTPUT_WORD a_INPUT_WORD a_MEMORY_WORD p_INPUT_BIT v_INPUT_BIT p_OUTPUT_WORD v_OUTPUT_WORD p_OUTPUT_BIT v_OUTPUT_BIT p_MEMORY_WORD v_MEMORY_WORD p_INPUT_WORD v_INPUT_WORD a_DigitOnes k_INPUT_BIT k_OUTPUT_WORD k_OUTPUT_BIT k_MEMORY_WORD k_INPUT_WORD ucs uff ua ub kb ux0 ux2 ux3 ux4 ux5 h0 n0 (own_old_le O0) O0 HW E_ua F_ua_value F_ua_coder V_ub) hZ (own_hw 190 hw rfl) (own_hw 51 hw rfl) (by decide) (by decide)) qa1 qc1 (g := (mkF m 1 #[VR ua, VI 1] [(.ref ua)])) rfl (by rw [hml]; rfl) (Steps.refl _) (argsL := []) (rest := []) (lenOf pd_32___Z rfl) rfl (by show 2 * 0 + _ ≤ _; exact Nat.le_of_eq rfl) (hb hby d32_1) (fun _ _ => ⟨rfl, e0, (by decide : 0 + 0 ≤ _), (by decide : 0 + 0 ≤ _)⟩)
  dsimp only [Pt.U, Pt.locs, Pt.cells, Pt.slots] at X1 l1 y1 z1 st1 hQ1
  subst l1 y1 z1
  obtain ⟨rfl, NC1, KC1⟩ := hQ1
  refine own_by (B := T1.setTop (mkF m 4 #[VR ua, VI 1] [(.int 1)])) (fun _ k => st1.trans k) ?_
  obtain ⟨h1, e1⟩ : ∃ z, T1.heap = z := ⟨_, rfl⟩
  rw [e1] at KC1
  have sz1 := KC1.1
  have O1 := O0.keep KC1 all0
  have K1 := K0.trans KC1 all0
  have N1 := Fr.app N0 NC1
  refine own_by (B := T1.setTop (mkF m 7 #[VR ua, VI 1] [])) (fun _ k => XS.ifNo X1.here hx rfl (hb hby d32_4) rfl (XT.i0_eq_f (by decide)) k) ?_
  refine own_by (B := T1.setTop (mkF m 8 #[VR ua, VI 1] [(.ref ua)])) (fun _ k => XS.aloadN X1.here hx rfl (hb hby d32_7) rfl rfl  k) ?_
  have c2 := (F_ua_value.keep KC1 nin0)
  obtain ⟨T3, X3, e3, st3⟩ := getF X1 hx hZ hown (host := "") (Or.inl (own_hw 74 hw rfl)) Via.refl e1 c2 (g := (mkF m 8 #[VR ua, VI 1] [(.ref ua)])) rfl rfl (hb hby d32_8)
  refine own_by (B := T3.setTop (mkF m 11 #[VR ua, VI 1] [(.ref ub)])) st3 ?_
  refine own_by (B := T3.setTop (mkF m 12 #[VR ua, VI 1] [(.int 1), (.ref ub)])) (fun _ k => XS.iloadN X3.here hx rfl (hb hby d32_11) rfl  k) ?_
  have c4 := (V_ub.keep KC1 nin0)
  obtain ⟨_, _, ⟨T5, L5, k5, n5⟩, -, X5, ⟨Lc5, hQ5, l5, y5, z5⟩, st5⟩ := Jvm.LawKit.callS X3 hx (y := (⟨"java/lang/StringLatin1", "charAt", "([BI)C"⟩ : MethodName)) hown (mvT hZ (own_hw 191 hw rfl)) (mvT hZ (own_hw 192 hw rfl)) (mvT hZ (own_hw 193 hw rfl)) (mvT hZ (own_hw 194 hw rfl)) (by decide) (backOf (W := 0) (rmLc6_73 l Z a0 hw [] a_INPUT_BIT a_OUTPUT_BIT a_OUTPUT_WORD a_INPUT_WORD a_MEMORY_WORD p_INPUT_BIT v_INPUT_BIT p_OUTPUT_WORD v_OUTPUT_WORD p_OUTPUT_BIT v_OUTPUT_BIT p_MEMORY_WORD v_MEMORY_WORD p_INPUT_WORD v_INPUT_WORD a_DigitOnes k_INPUT_BIT k_OUTPUT_WORD k_OUTPUT_BIT k_MEMORY_WORD k_INPUT_WORD ucs uff ub kb ux0 ux2 ux3 ux4 ux5 h1 n0 (own_old_le O1) O1 HW c4) hZ (own_hw 194 hw rfl) (own_hw 193 hw rfl) (by decide) (by decide)) (g := (mkF m 12 #[VR ua, VI 1] [(.int 1), (.ref ub)])) rfl (by rw [hml]; rfl) (argsL := [(.ref ub), (.int 1)]) (rest := []) (lenOf pd_32___BI_C rfl) rfl (by show 2 * 0 + _ ≤ _; exact Nat.le_of_eq rfl) (hb hby d32_12) (fun _ _ => ⟨rfl, e3, (by decide : 0 + 0 ≤ _), (by decide : 0 + 0 ≤ _)⟩)
  dsimp only [Pt.U, Pt.locs, Pt.cells, Pt.slots] at X5 l5 y5 z5 st5 hQ5
  subst l5 y5 z5
  obtain ⟨rfl, NC5, KC5⟩ := hQ5
  refine own_by (B := T5.setTop (mkF m 15 #[VR ua, VI 1] [(.int 73)])) st5 ?_
  obtain ⟨h5, e5⟩ : ∃ z, T5.heap = z := ⟨_, rfl⟩
  rw [e5] at KC5
  have sz5 := KC5.1
  have O5 := O1.keep KC5 all0
  have K5 := K1.trans KC5 all0
  have N5 := Fr.app N1 NC5
  exact own_retW X5 hx hrt hlk rfl (Or.inl ⟨rfl, by simp, _, rfl⟩) (hb hby d32_15) (by decide) (by decide) (by show own_Q_rmCa6_73 Z ua ub kb ux0 ux2 ux3 ux4 ux5 h0 n0 _ T5.heap _; rw [e5]; exact ⟨rfl, N5, K5⟩)

def own_Q_rmSl6_81 (Z : State) (ua : Nat) (ub : Nat) (kb : ClassId) (ux0 : Int32) (ux2 : Int32) (ux3 : Int32) (ux4 : Int32) (ux5 : Int32) (h0 : Heap) (n0 : Nat) (v : Option Value) (h : Heap) (L : List Loc) : Prop := v = some (.int 1) ∧ Fr n0 L ∧ Keep h0 h []

theorem pn_rmSl6_81 : plainFor (⟨"java/lang/String", "isLatin1", "()Z"⟩ : MethodName) = true := by first | exact plainFor_of_name (by first | (simp [plainName, overriddenIn]; done) | decide +kernel) | exact Jvm.Free.JP.mathPlain rfl (by decide +kernel) | decide +kernel
theorem ef_rmSl6_81 (m : MethodId) (x0 : Nat) : entryFrame m #[(.ref x0)] 1 = mkF m 0 #[VR x0] [] := by first | (simp [entryFrame, mkF, argsToLocals, Value.category]; done) | rfl
set_option maxRecDepth 65536 in
set_option maxHeartbeats 40000000 in
theorem rmSl6_81 (l : Launch) (Z : State) (a0 : Array Value) (hw : ∀ d ∈ tables_1, d.before a0 Z = true) (ws : List Jvm.Cond) (a_INPUT_BIT a_OUTPUT_BIT a_OUTPUT_WORD a_INPUT_WORD a_MEMORY_WORD p_INPUT_BIT v_INPUT_BIT p_OUTPUT_WORD v_OUTPUT_WORD p_OUTPUT_BIT v_OUTPUT_BIT p_MEMORY_WORD v_MEMORY_WORD p_INPUT_WORD v_INPUT_WORD a_DigitOnes : Nat) (k_INPUT_BIT : ClassId) (k_OUTPUT_WORD : ClassId) (k_OUTPUT_BIT : ClassId) (k_MEMORY_WORD : ClassId) (k_INPUT_WORD : ClassId) (ucs : Int32) (uff : Value) (ua : Nat) (ub : Nat) (kb : ClassId) (ux0 : Int32) (ux2 : Int32) (ux3 : Int32) (ux4 : Int32) (ux5 : Int32) (h0 : Heap) (n0 : Nat) (Z0 : n0 ≤ h0.size) (O0 : Old Z n0 h0) (HW : own_W Z Z.heap a_INPUT_BIT a_OUTPUT_BIT a_OUTPUT_WORD a_INPUT_WORD a_MEMORY_WORD p_INPUT_BIT v_INPUT_BIT p_OUTPUT_WORD v_OUTPUT_WORD p_OUTPUT_BIT v_OUTPUT_BIT p_MEMORY_WORD v_MEMORY_WORD p_INPUT_WORD v_INPUT_WORD a_DigitOnes k_INPUT_BIT k_OUTPUT_WORD k_OUTPUT_BIT k_MEMORY_WORD k_INPUT_WORD ucs uff) (E_ua : Exa Z h0 ua "java/lang/String") (F_ua_value : Fld Z h0 ua "java/lang/String" "value" "[B" (.ref ub)) (F_ua_coder : Fld Z h0 ua "java/lang/String" "coder" "B" (.int 0)) (V_ub : Arv Z h0 ub kb .byte (6 : Int32) [(.int ux0), (.int 81), (.int ux2), (.int ux3), (.int ux4), (.int ux5)] (.int 0))   :
    MetFree l (⟨"java/lang/String", "isLatin1", "()Z"⟩ : MethodName) (head1 (Jvm.Cond.code (⟨"java/lang/String", "isLatin1", "()Z"⟩ : MethodName) jdk_42_method_154_code 1 (some .boolean) :: ws) ({ frames := 0, cells := 0, slots := 0, locals := 0 } : Room)) (fun a U => a = #[(.ref ua)] ∧ Z.Warmed39 U.vm ∧ U.heap = h0) (fun _ _ _ _ _ => True) (fun _ U o U' => ∃ v L, o = .returned v ∧ (own_Q_rmSl6_81 Z ua ub kb ux0 ux2 ux3 ux4 ux5 h0 n0) v U'.heap L ∧ FrameEnd U o U' L 0 0) := by
  refine MetFree.of_bodySF pn_rmSl6_81 hisR ?_
  intro p e s m args below meth c s₁ Bd hml0 hP hK
  obtain ⟨rfl, hZ, hh⟩ := hP
  have hx := Bd.exec
  have hby := Bd.bytes
  have hml : c.maxLocals = 1 := hml0
  have hown : s.vm.findClass "java/lang/String" = some m.cls := findClass_of_methodNamed Bd.named
  have hnm := (name_of_methodNamed Bd.named Bd.method).1
  have hrt := Bd.returns
  have hlk := Bd.notSynchronized
  have X0 : Stand p l e ({ frames := 0, cells := 0, slots := 0, locals := 0 } : Room) s m #[(.ref ua)] below meth c s₁ [] 0 0 := Stand.of_body Bd
  have e0 : s₁.heap = h0 := by rw [← hh, Bd.state]; rfl
  have N0 := Fr.nil n0
  have K0 := Keep.refl h0 []
  have HW' := HW
  obtain ⟨-, -, -, -, -, -, -, -, -, -, -, -, -, -, -, -, -, -, -, -, -, -, -, -, -, -, -, -, -, -, -, -, -, -, -, -, -, -, -, -, S_CS, H_CS, -, -, -, -⟩ := HW'
  have lt_E_ua := own_lt E_ua.lt
  have lt_V_ub := own_lt V_ub.lt
  have nl_ua_ub := own_lg (Exa.neArv E_ua V_ub (own_hw 134 hw rfl))
  refine own_done (B := s₁.setTop (mkF m 0 #[VR ua] [])) (fun t k => castTop (ef_rmSl6_81 m ua) k) ?_
  obtain ⟨T1, X1, e1, st1⟩ := getS2 X0 hx hZ hown (host := "") (Or.inl (own_hw 81 hw rfl)) Via.refl e0 (S_CS.ext O0.2) (g := (mkF m 0 #[VR ua] [])) rfl (hb hby d33_0)
  refine own_by (B := T1.setTop (mkF m 3 #[VR ua] [(.int ucs)])) st1 ?_
  refine own_by (B := T1.setTop (mkF m 6 #[VR ua] [])) (fun _ k => XS.ifNo X1.here hx rfl (hb hby d33_3) rfl (XT.i0_eq_f H_CS) k) ?_
  refine own_by (B := T1.setTop (mkF m 7 #[VR ua] [(.ref ua)])) (fun _ k => XS.aloadN X1.here hx rfl (hb hby d33_6) rfl rfl  k) ?_
  obtain ⟨T2, X2, e2, st2⟩ := getF X1 hx hZ hown (host := "") (Or.inl (own_hw 82 hw rfl)) Via.refl e1 F_ua_coder (g := (mkF m 7 #[VR ua] [(.ref ua)])) rfl rfl (hb hby d33_7)
  refine own_by (B := T2.setTop (mkF m 10 #[VR ua] [(.int 0)])) st2 ?_
  refine own_by (B := T2.setTop (mkF m 13 #[VR ua] [])) (fun _ k => XS.ifNo X2.here hx rfl (hb hby d33_10) rfl (XT.i0_ne_f (by decide)) k) ?_
  refine own_by (B := T2.setTop (mkF m 14 #[VR ua] [(.int 1)])) (fun _ k => XS.iconst X2.here hx rfl (hb hby d33_13) k) ?_
  refine own_by (B := T2.setTop (mkF m 18 #[VR ua] [(.int 1)])) (fun _ k => XS.goto X2.here hx rfl (pc0 := 14) (pc' := 18) rfl (hb hby d33_14) (by decide) (by decide) k) ?_
  exact own_retZ X2 hx hrt hlk rfl (hb hby d33_18) (by decide) (by decide) (by show own_Q_rmSl6_81 Z ua ub kb ux0 ux2 ux3 ux4 ux5 h0 n0 _ T2.heap _; rw [e2]; exact ⟨rfl, N0, K0⟩)

def own_Q_rmLc6_81 (Z : State) (ub : Nat) (kb : ClassId) (ux0 : Int32) (ux2 : Int32) (ux3 : Int32) (ux4 : Int32) (ux5 : Int32) (h0 : Heap) (n0 : Nat) (v : Option Value) (h : Heap) (L : List Loc) : Prop := v = some (.int 81) ∧ Fr n0 L ∧ Keep h0 h []

theorem pn_rmLc6_81 : plainFor (⟨"java/lang/StringLatin1", "charAt", "([BI)C"⟩ : MethodName) = true := by first | exact plainFor_of_name (by first | (simp [plainName, overriddenIn]; done) | decide +kernel) | exact Jvm.Free.JP.mathPlain rfl (by decide +kernel) | decide +kernel
theorem ef_rmLc6_81 (m : MethodId) (x0 : Nat) (x1 : Int32) : entryFrame m #[(.ref x0), (.int x1)] 2 = mkF m 0 #[VR x0, VI x1] [] := by first | (simp [entryFrame, mkF, argsToLocals, Value.category]; done) | rfl
set_option maxRecDepth 65536 in
set_option maxHeartbeats 40000000 in
theorem rmLc6_81 (l : Launch) (Z : State) (a0 : Array Value) (hw : ∀ d ∈ tables_1, d.before a0 Z = true) (ws : List Jvm.Cond) (a_INPUT_BIT a_OUTPUT_BIT a_OUTPUT_WORD a_INPUT_WORD a_MEMORY_WORD p_INPUT_BIT v_INPUT_BIT p_OUTPUT_WORD v_OUTPUT_WORD p_OUTPUT_BIT v_OUTPUT_BIT p_MEMORY_WORD v_MEMORY_WORD p_INPUT_WORD v_INPUT_WORD a_DigitOnes : Nat) (k_INPUT_BIT : ClassId) (k_OUTPUT_WORD : ClassId) (k_OUTPUT_BIT : ClassId) (k_MEMORY_WORD : ClassId) (k_INPUT_WORD : ClassId) (ucs : Int32) (uff : Value) (ub : Nat) (kb : ClassId) (ux0 : Int32) (ux2 : Int32) (ux3 : Int32) (ux4 : Int32) (ux5 : Int32) (h0 : Heap) (n0 : Nat) (Z0 : n0 ≤ h0.size) (O0 : Old Z n0 h0) (HW : own_W Z Z.heap a_INPUT_BIT a_OUTPUT_BIT a_OUTPUT_WORD a_INPUT_WORD a_MEMORY_WORD p_INPUT_BIT v_INPUT_BIT p_OUTPUT_WORD v_OUTPUT_WORD p_OUTPUT_BIT v_OUTPUT_BIT p_MEMORY_WORD v_MEMORY_WORD p_INPUT_WORD v_INPUT_WORD a_DigitOnes k_INPUT_BIT k_OUTPUT_WORD k_OUTPUT_BIT k_MEMORY_WORD k_INPUT_WORD ucs uff) (V_ub : Arv Z h0 ub kb .byte (6 : Int32) [(.int ux0), (.int 81), (.int ux2), (.int ux3), (.int ux4), (.int ux5)] (.int 0))   :
    MetFree l (⟨"java/lang/StringLatin1", "charAt", "([BI)C"⟩ : MethodName) (head1 (Jvm.Cond.code (⟨"java/lang/StringLatin1", "charAt", "([BI)C"⟩ : MethodName) jdk_43_method_2_code 2 (some .char) :: ws) ({ frames := 2, cells := 0, slots := 0, locals := 27 } : Room)) (fun a U => a = #[(.ref ub), (.int 1)] ∧ Z.Warmed39 U.vm ∧ U.heap = h0) (fun _ _ _ _ _ => True) (fun _ U o U' => ∃ v L, o = .returned v ∧ (own_Q_rmLc6_81 Z ub kb ux0 ux2 ux3 ux4 ux5 h0 n0) v U'.heap L ∧ FrameEnd U o U' L 0 0) := by
  refine MetFree.of_bodySF pn_rmLc6_81 hisR ?_
  intro p e s m args below meth c s₁ Bd hml0 hP hK
  obtain ⟨rfl, hZ, hh⟩ := hP
  have hx := Bd.exec
  have hby := Bd.bytes
  have hml : c.maxLocals = 2 := hml0
  have hown : s.vm.findClass "java/lang/StringLatin1" = some m.cls := findClass_of_methodNamed Bd.named
  have hnm := (name_of_methodNamed Bd.named Bd.method).1
  have hrt := Bd.returns
  have hlk := Bd.notSynchronized
  have X0 : Stand p l e ({ frames := 2, cells := 0, slots := 0, locals := 27 } : Room) s m #[(.ref ub), (.int 1)] below meth c s₁ [] 0 0 := Stand.of_body Bd
  have e0 : s₁.heap = h0 := by rw [← hh, Bd.state]; rfl
  have N0 := Fr.nil n0
  have K0 := Keep.refl h0 []
  have lt_V_ub := own_lt V_ub.lt
  refine own_done (B := s₁.setTop (mkF m 0 #[VR ub, VI 1] [])) (fun t k => castTop (ef_rmLc6_81 m ub (1 : Int32)) k) ?_
  refine own_by (B := s₁.setTop (mkF m 1 #[VR ub, VI 1] [(.int 1)])) (fun _ k => XS.iloadN X0.here hx rfl (hb hby d34_0) rfl  k) ?_
  refine own_by (B := s₁.setTop (mkF m 2 #[VR ub, VI 1] [(.ref ub), (.int 1)])) (fun _ k => XS.aloadN X0.here hx rfl (hb hby d34_1) rfl rfl  k) ?_
  obtain ⟨cl1, Ar1, qq1, Sz1, Nn1, Hh1, Gg1⟩ := id (V_ub)
  refine own_by (B := s₁.setTop (mkF m 3 #[VR ub, VI 1] [(.int 6), (.int 1)])) (fun t k => X0.arraylength hx (by rw [e0]; exact Ar1.1) (State.isArrayOf_alike hZ.alike Ar1.2.1) (g := (mkF m 2 #[VR ub, VI 1] [(.ref ub), (.int 1)])) rfl rfl (hb hby d34_2) t (by rw [len_of Sz1 Nn1]; exact k)) ?_
  obtain ⟨_, _, ⟨T2, L2, k2, n2⟩, -, X2, ⟨Lc2, hQ2, l2, y2, z2⟩, st2⟩ := Jvm.LawKit.callS X0 hx (y := (⟨"java/lang/String", "checkIndex", "(II)V"⟩ : MethodName)) hown (mvT hZ (own_hw 195 hw rfl)) (mvT hZ (own_hw 196 hw rfl)) (mvT hZ (own_hw 51 hw rfl)) (mvT hZ (own_hw 197 hw rfl)) (by decide) (backOf (W := 0) (rmCi6 l Z a0 hw [] a_INPUT_BIT a_OUTPUT_BIT a_OUTPUT_WORD a_INPUT_WORD a_MEMORY_WORD p_INPUT_BIT v_INPUT_BIT p_OUTPUT_WORD v_OUTPUT_WORD p_OUTPUT_BIT v_OUTPUT_BIT p_MEMORY_WORD v_MEMORY_WORD p_INPUT_WORD v_INPUT_WORD a_DigitOnes k_INPUT_BIT k_OUTPUT_WORD k_OUTPUT_BIT k_MEMORY_WORD k_INPUT_WORD ucs uff  h0 n0 (own_old_le O0) O0 HW ) hZ (own_hw 197 hw rfl) (own_hw 51 hw rfl) (by decide) (by decide)) (g := (mkF m 3 #[VR ub, VI 1] [(.int 6), (.int 1)])) rfl (by rw [hml]; rfl) (argsL := [(.int 1), (.int 6)]) (rest := []) (lenOf pd_34__II_V rfl) rfl (by show 2 * 0 + _ ≤ _; exact Nat.le_of_eq rfl) (hb hby d34_3) (fun _ _ => ⟨rfl, e0, (by decide : 0 + 0 ≤ _), (by decide : 0 + 0 ≤ _)⟩)
  dsimp only [Pt.U, Pt.locs, Pt.cells, Pt.slots] at X2 l2 y2 z2 st2 hQ2
  subst l2 y2 z2
  obtain ⟨rfl, NC2, KC2⟩ := hQ2
  refine own_by (B := T2.setTop (mkF m 6 #[VR ub, VI 1] [])) st2 ?_
  obtain ⟨h2, e2⟩ : ∃ z, T2.heap = z := ⟨_, rfl⟩
  rw [e2] at KC2
  have sz2 := KC2.1
  have O2 := O0.keep KC2 all0
  have K2 := K0.trans KC2 all0
  have N2 := Fr.app N0 NC2
  refine own_by (B := T2.setTop (mkF m 7 #[VR ub, VI 1] [(.ref ub)])) (fun _ k => XS.aloadN X2.here hx rfl (hb hby d34_6) rfl rfl  k) ?_
  refine own_by (B := T2.setTop (mkF m 8 #[VR ub, VI 1] [(.int 1), (.ref ub)])) (fun _ k => XS.iloadN X2.here hx rfl (hb hby d34_7) rfl  k) ?_
  have c3 := (V_ub.keep KC2 nin0)
  obtain ⟨cl4, Ar4, qq4, Sz4, Nn4, Hh4, Gg4⟩ := id (c3)
  have hin4 : ¬ ((1 : Int32) < 0 ∨ cl4.slots.size ≤ ((1 : Int32)).toNatClampNeg) := inb_of Sz4 ⟨by decide, by decide⟩
  refine own_by (B := T2.setTop (mkF m 9 #[VR ub, VI 1] [(.int 81)])) (fun t k => X2.baloadBytes hx (j := (1 : Int32)) (v := (.int 81)) (by rw [e2]; exact Ar4.1) (State.isArrayOf_alike hZ.alike Ar4.2.1) Ar4.2.2 hin4 (Hh4.at hin4 rfl) (g := (mkF m 8 #[VR ub, VI 1] [(.int 1), (.ref ub)])) rfl rfl (hb hby d34_8) t k) ?_
  refine own_by (B := T2.setTop (mkF m 12 #[VR ub, VI 1] [(.int 255), (.int 81)])) (fun _ k => XS.sipush X2.here hx rfl (hb hby d34_9) k) ?_
  refine own_by (B := T2.setTop (mkF m 13 #[VR ub, VI 1] [(.int 81)])) (fun _ k => XS.iand X2.here hx rfl (hb hby d34_12) rfl k) ?_
  refine own_by (B := T2.setTop (mkF m 14 #[VR ub, VI 1] [(.int 81)])) (fun _ k => XT.i2c X2.here hx rfl (hb hby d34_13) rfl k) ?_
  exact own_retW X2 hx hrt hlk rfl (Or.inl ⟨rfl, by simp, _, rfl⟩) (hb hby d34_14) (by decide) (by decide) (by show own_Q_rmLc6_81 Z ub kb ux0 ux2 ux3 ux4 ux5 h0 n0 _ T2.heap _; rw [e2]; exact ⟨rfl, N2, K2⟩)

def own_Q_rmCa6_81 (Z : State) (ua : Nat) (ub : Nat) (kb : ClassId) (ux0 : Int32) (ux2 : Int32) (ux3 : Int32) (ux4 : Int32) (ux5 : Int32) (h0 : Heap) (n0 : Nat) (v : Option Value) (h : Heap) (L : List Loc) : Prop := v = some (.int 81) ∧ Fr n0 L ∧ Keep h0 h []

theorem pn_rmCa6_81 : plainFor (⟨"java/lang/String", "charAt", "(I)C"⟩ : MethodName) = true := by first | exact plainFor_of_name (by first | (simp [plainName, overriddenIn]; done) | decide +kernel) | exact Jvm.Free.JP.mathPlain rfl (by decide +kernel) | decide +kernel
theorem ef_rmCa6_81 (m : MethodId) (x0 : Nat) (x1 : Int32) : entryFrame m #[(.ref x0), (.int x1)] 2 = mkF m 0 #[VR x0, VI x1] [] := by first | (simp [entryFrame, mkF, argsToLocals, Value.category]; done) | rfl
set_option maxRecDepth 65536 in
set_option maxHeartbeats 40000000 in
theorem rmCa6_81 (l : Launch) (Z : State) (a0 : Array Value) (hw : ∀ d ∈ tables_1, d.before a0 Z = true) (ws : List Jvm.Cond) (a_INPUT_BIT a_OUTPUT_BIT a_OUTPUT_WORD a_INPUT_WORD a_MEMORY_WORD p_INPUT_BIT v_INPUT_BIT p_OUTPUT_WORD v_OUTPUT_WORD p_OUTPUT_BIT v_OUTPUT_BIT p_MEMORY_WORD v_MEMORY_WORD p_INPUT_WORD v_INPUT_WORD a_DigitOnes : Nat) (k_INPUT_BIT : ClassId) (k_OUTPUT_WORD : ClassId) (k_OUTPUT_BIT : ClassId) (k_MEMORY_WORD : ClassId) (k_INPUT_WORD : ClassId) (ucs : Int32) (uff : Value) (ua : Nat) (ub : Nat) (kb : ClassId) (ux0 : Int32) (ux2 : Int32) (ux3 : Int32) (ux4 : Int32) (ux5 : Int32) (h0 : Heap) (n0 : Nat) (Z0 : n0 ≤ h0.size) (O0 : Old Z n0 h0) (HW : own_W Z Z.heap a_INPUT_BIT a_OUTPUT_BIT a_OUTPUT_WORD a_INPUT_WORD a_MEMORY_WORD p_INPUT_BIT v_INPUT_BIT p_OUTPUT_WORD v_OUTPUT_WORD p_OUTPUT_BIT v_OUTPUT_BIT p_MEMORY_WORD v_MEMORY_WORD p_INPUT_WORD v_INPUT_WORD a_DigitOnes k_INPUT_BIT k_OUTPUT_WORD k_OUTPUT_BIT k_MEMORY_WORD k_INPUT_WORD ucs uff) (E_ua : Exa Z h0 ua "java/lang/String") (F_ua_value : Fld Z h0 ua "java/lang/String" "value" "[B" (.ref ub)) (F_ua_coder : Fld Z h0 ua "java/lang/String" "coder" "B" (.int 0)) (V_ub : Arv Z h0 ub kb .byte (6 : Int32) [(.int ux0), (.int 81), (.int ux2), (.int ux3), (.int ux4), (.int ux5)] (.int 0))   :
    MetFree l (⟨"java/lang/String", "charAt", "(I)C"⟩ : MethodName) (head1 (Jvm.Cond.code (⟨"java/lang/String", "charAt", "(I)C"⟩ : MethodName) jdk_42_method_56_code 2 (some .char) :: ws) ({ frames := 3, cells := 0, slots := 0, locals := 40 } : Room)) (fun a U => a = #[(.ref ua), (.int 1)] ∧ Z.Warmed39 U.vm ∧ U.heap = h0) (fun _ _ _ _ _ => True) (fun _ U o U' => ∃ v L, o = .returned v ∧ (own_Q_rmCa6_81 Z ua ub kb ux0 ux2 ux3 ux4 ux5 h0 n0) v U'.heap L ∧ FrameEnd U o U' L 0 0) := by
  refine MetFree.of_bodySF pn_rmCa6_81 hisR ?_
  intro p e s m args below meth c s₁ Bd hml0 hP hK
  obtain ⟨rfl, hZ, hh⟩ := hP
  have hx := Bd.exec
  have hby := Bd.bytes
  have hml : c.maxLocals = 2 := hml0
  have hown : s.vm.findClass "java/lang/String" = some m.cls := findClass_of_methodNamed Bd.named
  have hnm := (name_of_methodNamed Bd.named Bd.method).1
  have hrt := Bd.returns
  have hlk := Bd.notSynchronized
  have X0 : Stand p l e ({ frames := 3, cells := 0, slots := 0, locals := 40 } : Room) s m #[(.ref ua), (.int 1)] below meth c s₁ [] 0 0 := Stand.of_body Bd
  have e0 : s₁.heap = h0 := by rw [← hh, Bd.state]; rfl
  have N0 := Fr.nil n0
  have K0 := Keep.refl h0 []
  have lt_E_ua := own_lt E_ua.lt
  have lt_V_ub := own_lt V_ub.lt
  have nl_ua_ub := own_lg (Exa.neArv E_ua V_ub (own_hw 134 hw rfl))
  refine own_done (B := s₁.setTop (mkF m 0 #[VR ua, VI 1] [])) (fun t k => castTop (ef_rmCa6_81 m ua (1 : Int32)) k) ?_
  refine own_by (B := s₁.setTop (mkF m 1 #[VR ua, VI 1] [(.ref ua)])) (fun _ k => XS.aloadN X0.here hx rfl (hb hby d32_0) rfl rfl  k) ?_
  obtain ⟨cq1, kq1, qa1, qb1, qc1⟩ := isOf hZ e0 E_ua
  obtain ⟨_, _, ⟨T1, L1, k1, n1⟩, -, X1, ⟨Lc1, hQ1, l1, y1, z1⟩, st1⟩ := X0.virtualBack hx (y := (⟨"java/lang/String", "isLatin1", "()Z"⟩ : MethodName)) (z := (⟨"java/lang/String", "isLatin1", "()Z"⟩ : MethodName)) hown (mvT hZ (own_hw 186 hw rfl)) (mvT hZ (own_hw 187 hw rfl)) (notFace_of_selects (args := #[]) (mvT hZ (own_hw 189 hw rfl))) (mvT hZ (own_hw 189 hw rfl)) (mvT hZ (own_hw 188 hw rfl)) (by decide) (backOf (W := 0) (rmSl6_81 l Z a0 hw [] a_INPUT_BIT a_OUTPUT_BIT a_OUTPUT_WORD a_INPUT_WORD a_MEMORY_WORD p_INPUT_BIT v_INPUT_BIT p_OUTPUT_WORD v_OUTPUT_WORD p_OUTPUT_BIT v_OUTPUT_BIT p_MEMORY_WORD v_MEMORY_WORD p_INPUT_WORD v_INPUT_WORD a_DigitOnes k_INPUT_BIT k_OUTPUT_WORD k_OUTPUT_BIT k_MEMORY_WORD k_INPUT_WORD ucs uff ua ub kb ux0 ux2 ux3 ux4 ux5 h0 n0 (own_old_le O0) O0 HW E_ua F_ua_value F_ua_coder V_ub) hZ (own_hw 190 hw rfl) (own_hw 51 hw rfl) (by decide) (by decide)) qa1 qc1 (g := (mkF m 1 #[VR ua, VI 1] [(.ref ua)])) rfl (by rw [hml]; rfl) (Steps.refl _) (argsL := []) (rest := []) (lenOf pd_32___Z rfl) rfl (by show 2 * 0 + _ ≤ _; exact Nat.le_of_eq rfl) (hb hby d32_1) (fun _ _ => ⟨rfl, e0, (by decide : 0 + 0 ≤ _), (by decide : 0 + 0 ≤ _)⟩)
  dsimp only [Pt.U, Pt.locs, Pt.cells, Pt.slots] at X1 l1 y1 z1 st1 hQ1
  subst l1 y1 z1
  obtain ⟨rfl, NC1, KC1⟩ := hQ1
  refine own_by (B := T1.setTop (mkF m 4 #[VR ua, VI 1] [(.int 1)])) (fun _ k => st1.trans k) ?_
  obtain ⟨h1, e1⟩ : ∃ z, T1.heap = z := ⟨_, rfl⟩
  rw [e1] at KC1
  have sz1 := KC1.1
  have O1 := O0.keep KC1 all0
  have K1 := K0.trans KC1 all0
  have N1 := Fr.app N0 NC1
  refine own_by (B := T1.setTop (mkF m 7 #[VR ua, VI 1] [])) (fun _ k => XS.ifNo X1.here hx rfl (hb hby d32_4) rfl (XT.i0_eq_f (by decide)) k) ?_
  refine own_by (B := T1.setTop (mkF m 8 #[VR ua, VI 1] [(.ref ua)])) (fun _ k => XS.aloadN X1.here hx rfl (hb hby d32_7) rfl rfl  k) ?_
  have c2 := (F_ua_value.keep KC1 nin0)
  obtain ⟨T3, X3, e3, st3⟩ := getF X1 hx hZ hown (host := "") (Or.inl (own_hw 74 hw rfl)) Via.refl e1 c2 (g := (mkF m 8 #[VR ua, VI 1] [(.ref ua)])) rfl rfl (hb hby d32_8)
  refine own_by (B := T3.setTop (mkF m 11 #[VR ua, VI 1] [(.ref ub)])) st3 ?_
  refine own_by (B := T3.setTop (mkF m 12 #[VR ua, VI 1] [(.int 1), (.ref ub)])) (fun _ k => XS.iloadN X3.here hx rfl (hb hby d32_11) rfl  k) ?_
  have c4 := (V_ub.keep KC1 nin0)
  obtain ⟨_, _, ⟨T5, L5, k5, n5⟩, -, X5, ⟨Lc5, hQ5, l5, y5, z5⟩, st5⟩ := Jvm.LawKit.callS X3 hx (y := (⟨"java/lang/StringLatin1", "charAt", "([BI)C"⟩ : MethodName)) hown (mvT hZ (own_hw 191 hw rfl)) (mvT hZ (own_hw 192 hw rfl)) (mvT hZ (own_hw 193 hw rfl)) (mvT hZ (own_hw 194 hw rfl)) (by decide) (backOf (W := 0) (rmLc6_81 l Z a0 hw [] a_INPUT_BIT a_OUTPUT_BIT a_OUTPUT_WORD a_INPUT_WORD a_MEMORY_WORD p_INPUT_BIT v_INPUT_BIT p_OUTPUT_WORD v_OUTPUT_WORD p_OUTPUT_BIT v_OUTPUT_BIT p_MEMORY_WORD v_MEMORY_WORD p_INPUT_WORD v_INPUT_WORD a_DigitOnes k_INPUT_BIT k_OUTPUT_WORD k_OUTPUT_BIT k_MEMORY_WORD k_INPUT_WORD ucs uff ub kb ux0 ux2 ux3 ux4 ux5 h1 n0 (own_old_le O1) O1 HW c4) hZ (own_hw 194 hw rfl) (own_hw 193 hw rfl) (by decide) (by decide)) (g := (mkF m 12 #[VR ua, VI 1] [(.int 1), (.ref ub)])) rfl (by rw [hml]; rfl) (argsL := [(.ref ub), (.int 1)]) (rest := []) (lenOf pd_32___BI_C rfl) rfl (by show 2 * 0 + _ ≤ _; exact Nat.le_of_eq rfl) (hb hby d32_12) (fun _ _ => ⟨rfl, e3, (by decide : 0 + 0 ≤ _), (by decide : 0 + 0 ≤ _)⟩)
  dsimp only [Pt.U, Pt.locs, Pt.cells, Pt.slots] at X5 l5 y5 z5 st5 hQ5
  subst l5 y5 z5
  obtain ⟨rfl, NC5, KC5⟩ := hQ5
  refine own_by (B := T5.setTop (mkF m 15 #[VR ua, VI 1] [(.int 81)])) st5 ?_
  obtain ⟨h5, e5⟩ : ∃ z, T5.heap = z := ⟨_, rfl⟩
  rw [e5] at KC5
  have sz5 := KC5.1
  have O5 := O1.keep KC5 all0
  have K5 := K1.trans KC5 all0
  have N5 := Fr.app N1 NC5
  exact own_retW X5 hx hrt hlk rfl (Or.inl ⟨rfl, by simp, _, rfl⟩) (hb hby d32_15) (by decide) (by decide) (by show own_Q_rmCa6_81 Z ua ub kb ux0 ux2 ux3 ux4 ux5 h0 n0 _ T5.heap _; rw [e5]; exact ⟨rfl, N5, K5⟩)

def own_Q_rmPci4 (Z : State) (uf : Value) (h0 : Heap) (n0 : Nat) (v : Option Value) (h : Heap) (L : List Loc) : Prop := v = some (.int 1) ∧ Fr n0 L ∧ Keep h0 h []

theorem pn_rmPci4 : plainFor (⟨"jdk/internal/util/Preconditions", "checkIndex", "(IILjava/util/function/BiFunction;)I"⟩ : MethodName) = true := by first | exact plainFor_of_name (by first | (simp [plainName, overriddenIn]; done) | decide +kernel) | exact Jvm.Free.JP.mathPlain rfl (by decide +kernel) | decide +kernel
set_option maxRecDepth 65536 in
set_option maxHeartbeats 40000000 in
theorem rmPci4 (l : Launch) (Z : State) (a0 : Array Value) (hw : ∀ d ∈ tables_1, d.before a0 Z = true) (ws : List Jvm.Cond) (a_INPUT_BIT a_OUTPUT_BIT a_OUTPUT_WORD a_INPUT_WORD a_MEMORY_WORD p_INPUT_BIT v_INPUT_BIT p_OUTPUT_WORD v_OUTPUT_WORD p_OUTPUT_BIT v_OUTPUT_BIT p_MEMORY_WORD v_MEMORY_WORD p_INPUT_WORD v_INPUT_WORD a_DigitOnes : Nat) (k_INPUT_BIT : ClassId) (k_OUTPUT_WORD : ClassId) (k_OUTPUT_BIT : ClassId) (k_MEMORY_WORD : ClassId) (k_INPUT_WORD : ClassId) (ucs : Int32) (uff : Value) (uf : Value) (h0 : Heap) (n0 : Nat) (Z0 : n0 ≤ h0.size) (O0 : Old Z n0 h0) (HW : own_W Z Z.heap a_INPUT_BIT a_OUTPUT_BIT a_OUTPUT_WORD a_INPUT_WORD a_MEMORY_WORD p_INPUT_BIT v_INPUT_BIT p_OUTPUT_WORD v_OUTPUT_WORD p_OUTPUT_BIT v_OUTPUT_BIT p_MEMORY_WORD v_MEMORY_WORD p_INPUT_WORD v_INPUT_WORD a_DigitOnes k_INPUT_BIT k_OUTPUT_WORD k_OUTPUT_BIT k_MEMORY_WORD k_INPUT_WORD ucs uff)   (hf : uf.isRef = true) :
    MetFree l (⟨"jdk/internal/util/Preconditions", "checkIndex", "(IILjava/util/function/BiFunction;)I"⟩ : MethodName) (head1 (Jvm.Cond.code (⟨"jdk/internal/util/Preconditions", "checkIndex", "(IILjava/util/function/BiFunction;)I"⟩ : MethodName) jdk_41_method_11_code 3 (some .int) :: ws) ({ frames := 0, cells := 0, slots := 0, locals := 0 } : Room)) (fun a U => a = #[(.int 1), (.int 4), uf] ∧ Z.Warmed39 U.vm ∧ U.heap = h0) (fun _ _ _ _ _ => True) (fun _ U o U' => ∃ v L, o = .returned v ∧ (own_Q_rmPci4 Z uf h0 n0) v U'.heap L ∧ FrameEnd U o U' L 0 0) := by
  refine MetFree.of_bodySF pn_rmPci4 hisR ?_
  intro p e s m args below meth c s₁ Bd hml0 hP hK
  obtain ⟨rfl, hZ, hh⟩ := hP
  have hx := Bd.exec
  have hby := Bd.bytes
  have hml : c.maxLocals = 3 := hml0
  have hown : s.vm.findClass "jdk/internal/util/Preconditions" = some m.cls := findClass_of_methodNamed Bd.named
  have hnm := (name_of_methodNamed Bd.named Bd.method).1
  have hrt := Bd.returns
  have hlk := Bd.notSynchronized
  have X0 : Stand p l e ({ frames := 0, cells := 0, slots := 0, locals := 0 } : Room) s m #[(.int 1), (.int 4), uf] below meth c s₁ [] 0 0 := Stand.of_body Bd
  have e0 : s₁.heap = h0 := by rw [← hh, Bd.state]; rfl
  have N0 := Fr.nil n0
  have K0 := Keep.refl h0 []
  refine own_done (B := s₁.setTop (mkF m 0 #[VI 1, VI 4, .val uf] [])) (fun t k => castTop (own_efV m (1 : Int32) (4 : Int32) uf hf) k) ?_
  refine own_by (B := s₁.setTop (mkF m 1 #[VI 1, VI 4, .val uf] [(.int 1)])) (fun _ k => XS.iloadN X0.here hx rfl (hb hby d36_0) rfl  k) ?_
  refine own_by (B := s₁.setTop (mkF m 4 #[VI 1, VI 4, .val uf] [])) (fun _ k => XS.ifNo X0.here hx rfl (hb hby d36_1) rfl (XT.i0_lt_f (by decide)) k) ?_
  refine own_by (B := s₁.setTop (mkF m 5 #[VI 1, VI 4, .val uf] [(.int 1)])) (fun _ k => XS.iloadN X0.here hx rfl (hb hby d36_4) rfl  k) ?_
  refine own_by (B := s₁.setTop (mkF m 6 #[VI 1, VI 4, .val uf] [(.int 4), (.int 1)])) (fun _ k => XS.iloadN X0.here hx rfl (hb hby d36_5) rfl  k) ?_
  refine own_by (B := s₁.setTop (mkF m 16 #[VI 1, VI 4, .val uf] [])) (fun _ k => XS.icmpYes X0.here hx rfl (pc0 := 6) (pc' := 16) rfl (hb hby d36_6) rfl (XT.ii_lt_t (by decide)) (by decide) (by decide) k) ?_
  refine own_by (B := s₁.setTop (mkF m 17 #[VI 1, VI 4, .val uf] [(.int 1)])) (fun _ k => XS.iloadN X0.here hx rfl (hb hby d36_16) rfl  k) ?_
  exact own_retI X0 hx hrt hlk (hb hby d36_17) (by decide) (by decide) (by show own_Q_rmPci4 Z uf h0 n0 _ s₁.heap _; rw [e0]; exact ⟨rfl, N0, K0⟩)

def own_Q_rmCi4 (Z : State)  (h0 : Heap) (n0 : Nat) (v : Option Value) (h : Heap) (L : List Loc) : Prop := v = none ∧ Fr n0 L ∧ Keep h0 h []

theorem pn_rmCi4 : plainFor (⟨"java/lang/String", "checkIndex", "(II)V"⟩ : MethodName) = true := by first | exact plainFor_of_name (by first | (simp [plainName, overriddenIn]; done) | decide +kernel) | exact Jvm.Free.JP.mathPlain rfl (by decide +kernel) | decide +kernel
theorem ef_rmCi4 (m : MethodId) (x0 : Int32) (x1 : Int32) : entryFrame m #[(.int x0), (.int x1)] 2 = mkF m 0 #[VI x0, VI x1] [] := by first | (simp [entryFrame, mkF, argsToLocals, Value.category]; done) | rfl
set_option maxRecDepth 65536 in
set_option maxHeartbeats 40000000 in
theorem rmCi4 (l : Launch) (Z : State) (a0 : Array Value) (hw : ∀ d ∈ tables_1, d.before a0 Z = true) (ws : List Jvm.Cond) (a_INPUT_BIT a_OUTPUT_BIT a_OUTPUT_WORD a_INPUT_WORD a_MEMORY_WORD p_INPUT_BIT v_INPUT_BIT p_OUTPUT_WORD v_OUTPUT_WORD p_OUTPUT_BIT v_OUTPUT_BIT p_MEMORY_WORD v_MEMORY_WORD p_INPUT_WORD v_INPUT_WORD a_DigitOnes : Nat) (k_INPUT_BIT : ClassId) (k_OUTPUT_WORD : ClassId) (k_OUTPUT_BIT : ClassId) (k_MEMORY_WORD : ClassId) (k_INPUT_WORD : ClassId) (ucs : Int32) (uff : Value)  (h0 : Heap) (n0 : Nat) (Z0 : n0 ≤ h0.size) (O0 : Old Z n0 h0) (HW : own_W Z Z.heap a_INPUT_BIT a_OUTPUT_BIT a_OUTPUT_WORD a_INPUT_WORD a_MEMORY_WORD p_INPUT_BIT v_INPUT_BIT p_OUTPUT_WORD v_OUTPUT_WORD p_OUTPUT_BIT v_OUTPUT_BIT p_MEMORY_WORD v_MEMORY_WORD p_INPUT_WORD v_INPUT_WORD a_DigitOnes k_INPUT_BIT k_OUTPUT_WORD k_OUTPUT_BIT k_MEMORY_WORD k_INPUT_WORD ucs uff)    :
    MetFree l (⟨"java/lang/String", "checkIndex", "(II)V"⟩ : MethodName) (head1 (Jvm.Cond.code (⟨"java/lang/String", "checkIndex", "(II)V"⟩ : MethodName) jdk_42_method_155_code 2 none :: ws) ({ frames := 1, cells := 0, slots := 0, locals := 14 } : Room)) (fun a U => a = #[(.int 1), (.int 4)] ∧ Z.Warmed39 U.vm ∧ U.heap = h0) (fun _ _ _ _ _ => True) (fun _ U o U' => ∃ v L, o = .returned v ∧ (own_Q_rmCi4 Z  h0 n0) v U'.heap L ∧ FrameEnd U o U' L 0 0) := by
  refine MetFree.of_bodySF pn_rmCi4 hisR ?_
  intro p e s m args below meth c s₁ Bd hml0 hP hK
  obtain ⟨rfl, hZ, hh⟩ := hP
  have hx := Bd.exec
  have hby := Bd.bytes
  have hml : c.maxLocals = 2 := hml0
  have hown : s.vm.findClass "java/lang/String" = some m.cls := findClass_of_methodNamed Bd.named
  have hnm := (name_of_methodNamed Bd.named Bd.method).1
  have hrt := Bd.returns
  have hlk := Bd.notSynchronized
  have X0 : Stand p l e ({ frames := 1, cells := 0, slots := 0, locals := 14 } : Room) s m #[(.int 1), (.int 4)] below meth c s₁ [] 0 0 := Stand.of_body Bd
  have e0 : s₁.heap = h0 := by rw [← hh, Bd.state]; rfl
  have N0 := Fr.nil n0
  have K0 := Keep.refl h0 []
  have HW' := HW
  obtain ⟨-, -, -, -, -, -, -, -, -, -, -, -, -, -, -, -, -, -, -, -, -, -, -, -, -, -, -, -, -, -, -, -, -, -, -, -, -, -, -, -, -, -, S_FF, H_FF, -, -⟩ := HW'
  refine own_done (B := s₁.setTop (mkF m 0 #[VI 1, VI 4] [])) (fun t k => castTop (ef_rmCi4 m (1 : Int32) (4 : Int32)) k) ?_
  refine own_by (B := s₁.setTop (mkF m 1 #[VI 1, VI 4] [(.int 1)])) (fun _ k => XS.iloadN X0.here hx rfl (hb hby d35_0) rfl  k) ?_
  refine own_by (B := s₁.setTop (mkF m 2 #[VI 1, VI 4] [(.int 4), (.int 1)])) (fun _ k => XS.iloadN X0.here hx rfl (hb hby d35_1) rfl  k) ?_
  obtain ⟨T1, X1, e1, st1⟩ := getS2 X0 hx hZ hown (host := "") (Or.inl (own_hw 198 hw rfl)) Via.refl e0 (S_FF.ext O0.2) (g := (mkF m 2 #[VI 1, VI 4] [(.int 4), (.int 1)])) rfl (hb hby d35_2)
  refine own_by (B := T1.setTop (mkF m 5 #[VI 1, VI 4] [uff, (.int 4), (.int 1)])) st1 ?_
  obtain ⟨_, _, ⟨T2, L2, k2, n2⟩, -, X2, ⟨Lc2, hQ2, l2, y2, z2⟩, st2⟩ := Jvm.LawKit.callS X1 hx (y := (⟨"jdk/internal/util/Preconditions", "checkIndex", "(IILjava/util/function/BiFunction;)I"⟩ : MethodName)) hown (mvT hZ (own_hw 200 hw rfl)) (mvT hZ (own_hw 201 hw rfl)) (mvT hZ (own_hw 199 hw rfl)) (mvT hZ (own_hw 202 hw rfl)) (by decide) (backOf (W := 0) (rmPci4 l Z a0 hw [] a_INPUT_BIT a_OUTPUT_BIT a_OUTPUT_WORD a_INPUT_WORD a_MEMORY_WORD p_INPUT_BIT v_INPUT_BIT p_OUTPUT_WORD v_OUTPUT_WORD p_OUTPUT_BIT v_OUTPUT_BIT p_MEMORY_WORD v_MEMORY_WORD p_INPUT_WORD v_INPUT_WORD a_DigitOnes k_INPUT_BIT k_OUTPUT_WORD k_OUTPUT_BIT k_MEMORY_WORD k_INPUT_WORD ucs uff uff h0 n0 (own_old_le O0) O0 HW H_FF) hZ (own_hw 202 hw rfl) (own_hw 199 hw rfl) (by decide) (by decide)) (g := (mkF m 5 #[VI 1, VI 4] [uff, (.int 4), (.int 1)])) rfl (by rw [hml]; rfl) (argsL := [(.int 1), (.int 4), uff]) (rest := []) (lenOf pd_35__IILjava_util_function_BiFunction__I rfl) rfl (by show 2 * 0 + _ ≤ _; exact Nat.le_of_eq rfl) (hb hby d35_5) (fun _ _ => ⟨rfl, e1, (by decide : 0 + 0 ≤ _), (by decide : 0 + 0 ≤ _)⟩)
  dsimp only [Pt.U, Pt.locs, Pt.cells, Pt.slots] at X2 l2 y2 z2 st2 hQ2
  subst l2 y2 z2
  obtain ⟨rfl, NC2, KC2⟩ := hQ2
  refine own_by (B := T2.setTop (mkF m 8 #[VI 1, VI 4] [(.int 1)])) st2 ?_
  obtain ⟨h2, e2⟩ : ∃ z, T2.heap = z := ⟨_, rfl⟩
  rw [e2] at KC2
  have sz2 := KC2.1
  have O2 := O0.keep KC2 all0
  have K2 := K0.trans KC2 all0
  have N2 := Fr.app N0 NC2
  refine own_by (B := T2.setTop (mkF m 9 #[VI 1, VI 4] [])) (fun _ k => XT.pop X2.here hx rfl (hb hby d35_8) rfl rfl k) ?_
  exact own_retV X2 hx hrt hlk (hb hby d35_9) (by decide) (by decide) (by show own_Q_rmCi4 Z  h0 n0 _ T2.heap _; rw [e2]; exact ⟨rfl, N2, K2⟩)

def own_Q_rmSl4_73 (Z : State) (ua : Nat) (ub : Nat) (kb : ClassId) (ux0 : Int32) (ux2 : Int32) (ux3 : Int32) (h0 : Heap) (n0 : Nat) (v : Option Value) (h : Heap) (L : List Loc) : Prop := v = some (.int 1) ∧ Fr n0 L ∧ Keep h0 h []

theorem pn_rmSl4_73 : plainFor (⟨"java/lang/String", "isLatin1", "()Z"⟩ : MethodName) = true := by first | exact plainFor_of_name (by first | (simp [plainName, overriddenIn]; done) | decide +kernel) | exact Jvm.Free.JP.mathPlain rfl (by decide +kernel) | decide +kernel
theorem ef_rmSl4_73 (m : MethodId) (x0 : Nat) : entryFrame m #[(.ref x0)] 1 = mkF m 0 #[VR x0] [] := by first | (simp [entryFrame, mkF, argsToLocals, Value.category]; done) | rfl
set_option maxRecDepth 65536 in
set_option maxHeartbeats 40000000 in
theorem rmSl4_73 (l : Launch) (Z : State) (a0 : Array Value) (hw : ∀ d ∈ tables_1, d.before a0 Z = true) (ws : List Jvm.Cond) (a_INPUT_BIT a_OUTPUT_BIT a_OUTPUT_WORD a_INPUT_WORD a_MEMORY_WORD p_INPUT_BIT v_INPUT_BIT p_OUTPUT_WORD v_OUTPUT_WORD p_OUTPUT_BIT v_OUTPUT_BIT p_MEMORY_WORD v_MEMORY_WORD p_INPUT_WORD v_INPUT_WORD a_DigitOnes : Nat) (k_INPUT_BIT : ClassId) (k_OUTPUT_WORD : ClassId) (k_OUTPUT_BIT : ClassId) (k_MEMORY_WORD : ClassId) (k_INPUT_WORD : ClassId) (ucs : Int32) (uff : Value) (ua : Nat) (ub : Nat) (kb : ClassId) (ux0 : Int32) (ux2 : Int32) (ux3 : Int32) (h0 : Heap) (n0 : Nat) (Z0 : n0 ≤ h0.size) (O0 : Old Z n0 h0) (HW : own_W Z Z.heap a_INPUT_BIT a_OUTPUT_BIT a_OUTPUT_WORD a_INPUT_WORD a_MEMORY_WORD p_INPUT_BIT v_INPUT_BIT p_OUTPUT_WORD v_OUTPUT_WORD p_OUTPUT_BIT v_OUTPUT_BIT p_MEMORY_WORD v_MEMORY_WORD p_INPUT_WORD v_INPUT_WORD a_DigitOnes k_INPUT_BIT k_OUTPUT_WORD k_OUTPUT_BIT k_MEMORY_WORD k_INPUT_WORD ucs uff) (E_ua : Exa Z h0 ua "java/lang/String") (F_ua_value : Fld Z h0 ua "java/lang/String" "value" "[B" (.ref ub)) (F_ua_coder : Fld Z h0 ua "java/lang/String" "coder" "B" (.int 0)) (V_ub : Arv Z h0 ub kb .byte (4 : Int32) [(.int ux0), (.int 73), (.int ux2), (.int ux3)] (.int 0))   :
    MetFree l (⟨"java/lang/String", "isLatin1", "()Z"⟩ : MethodName) (head1 (Jvm.Cond.code (⟨"java/lang/String", "isLatin1", "()Z"⟩ : MethodName) jdk_42_method_154_code 1 (some .boolean) :: ws) ({ frames := 0, cells := 0, slots := 0, locals := 0 } : Room)) (fun a U => a = #[(.ref ua)] ∧ Z.Warmed39 U.vm ∧ U.heap = h0) (fun _ _ _ _ _ => True) (fun _ U o U' => ∃ v L, o = .returned v ∧ (own_Q_rmSl4_73 Z ua ub kb ux0 ux2 ux3 h0 n0) v U'.heap L ∧ FrameEnd U o U' L 0 0) := by
  refine MetFree.of_bodySF pn_rmSl4_73 hisR ?_
  intro p e s m args below meth c s₁ Bd hml0 hP hK
  obtain ⟨rfl, hZ, hh⟩ := hP
  have hx := Bd.exec
  have hby := Bd.bytes
  have hml : c.maxLocals = 1 := hml0
  have hown : s.vm.findClass "java/lang/String" = some m.cls := findClass_of_methodNamed Bd.named
  have hnm := (name_of_methodNamed Bd.named Bd.method).1
  have hrt := Bd.returns
  have hlk := Bd.notSynchronized
  have X0 : Stand p l e ({ frames := 0, cells := 0, slots := 0, locals := 0 } : Room) s m #[(.ref ua)] below meth c s₁ [] 0 0 := Stand.of_body Bd
  have e0 : s₁.heap = h0 := by rw [← hh, Bd.state]; rfl
  have N0 := Fr.nil n0
  have K0 := Keep.refl h0 []
  have HW' := HW
  obtain ⟨-, -, -, -, -, -, -, -, -, -, -, -, -, -, -, -, -, -, -, -, -, -, -, -, -, -, -, -, -, -, -, -, -, -, -, -, -, -, -, -, S_CS, H_CS, -, -, -, -⟩ := HW'
  have lt_E_ua := own_lt E_ua.lt
  have lt_V_ub := own_lt V_ub.lt
  have nl_ua_ub := own_lg (Exa.neArv E_ua V_ub (own_hw 134 hw rfl))
  refine own_done (B := s₁.setTop (mkF m 0 #[VR ua] [])) (fun t k => castTop (ef_rmSl4_73 m ua) k) ?_
  obtain ⟨T1, X1, e1, st1⟩ := getS2 X0 hx hZ hown (host := "") (Or.inl (own_hw 81 hw rfl)) Via.refl e0 (S_CS.ext O0.2) (g := (mkF m 0 #[VR ua] [])) rfl (hb hby d33_0)
  refine own_by (B := T1.setTop (mkF m 3 #[VR ua] [(.int ucs)])) st1 ?_
  refine own_by (B := T1.setTop (mkF m 6 #[VR ua] [])) (fun _ k => XS.ifNo X1.here hx rfl (hb hby d33_3) rfl (XT.i0_eq_f H_CS) k) ?_
  refine own_by (B := T1.setTop (mkF m 7 #[VR ua] [(.ref ua)])) (fun _ k => XS.aloadN X1.here hx rfl (hb hby d33_6) rfl rfl  k) ?_
  obtain ⟨T2, X2, e2, st2⟩ := getF X1 hx hZ hown (host := "") (Or.inl (own_hw 82 hw rfl)) Via.refl e1 F_ua_coder (g := (mkF m 7 #[VR ua] [(.ref ua)])) rfl rfl (hb hby d33_7)
  refine own_by (B := T2.setTop (mkF m 10 #[VR ua] [(.int 0)])) st2 ?_
  refine own_by (B := T2.setTop (mkF m 13 #[VR ua] [])) (fun _ k => XS.ifNo X2.here hx rfl (hb hby d33_10) rfl (XT.i0_ne_f (by decide)) k) ?_
  refine own_by (B := T2.setTop (mkF m 14 #[VR ua] [(.int 1)])) (fun _ k => XS.iconst X2.here hx rfl (hb hby d33_13) k) ?_
  refine own_by (B := T2.setTop (mkF m 18 #[VR ua] [(.int 1)])) (fun _ k => XS.goto X2.here hx rfl (pc0 := 14) (pc' := 18) rfl (hb hby d33_14) (by decide) (by decide) k) ?_
  exact own_retZ X2 hx hrt hlk rfl (hb hby d33_18) (by decide) (by decide) (by show own_Q_rmSl4_73 Z ua ub kb ux0 ux2 ux3 h0 n0 _ T2.heap _; rw [e2]; exact ⟨rfl, N0, K0⟩)

def own_Q_rmLc4_73 (Z : State) (ub : Nat) (kb : ClassId) (ux0 : Int32) (ux2 : Int32) (ux3 : Int32) (h0 : Heap) (n0 : Nat) (v : Option Value) (h : Heap) (L : List Loc) : Prop := v = some (.int 73) ∧ Fr n0 L ∧ Keep h0 h []

theorem pn_rmLc4_73 : plainFor (⟨"java/lang/StringLatin1", "charAt", "([BI)C"⟩ : MethodName) = true := by first | exact plainFor_of_name (by first | (simp [plainName, overriddenIn]; done) | decide +kernel) | exact Jvm.Free.JP.mathPlain rfl (by decide +kernel) | decide +kernel
theorem ef_rmLc4_73 (m : MethodId) (x0 : Nat) (x1 : Int32) : entryFrame m #[(.ref x0), (.int x1)] 2 = mkF m 0 #[VR x0, VI x1] [] := by first | (simp [entryFrame, mkF, argsToLocals, Value.category]; done) | rfl
set_option maxRecDepth 65536 in
set_option maxHeartbeats 40000000 in
theorem rmLc4_73 (l : Launch) (Z : State) (a0 : Array Value) (hw : ∀ d ∈ tables_1, d.before a0 Z = true) (ws : List Jvm.Cond) (a_INPUT_BIT a_OUTPUT_BIT a_OUTPUT_WORD a_INPUT_WORD a_MEMORY_WORD p_INPUT_BIT v_INPUT_BIT p_OUTPUT_WORD v_OUTPUT_WORD p_OUTPUT_BIT v_OUTPUT_BIT p_MEMORY_WORD v_MEMORY_WORD p_INPUT_WORD v_INPUT_WORD a_DigitOnes : Nat) (k_INPUT_BIT : ClassId) (k_OUTPUT_WORD : ClassId) (k_OUTPUT_BIT : ClassId) (k_MEMORY_WORD : ClassId) (k_INPUT_WORD : ClassId) (ucs : Int32) (uff : Value) (ub : Nat) (kb : ClassId) (ux0 : Int32) (ux2 : Int32) (ux3 : Int32) (h0 : Heap) (n0 : Nat) (Z0 : n0 ≤ h0.size) (O0 : Old Z n0 h0) (HW : own_W Z Z.heap a_INPUT_BIT a_OUTPUT_BIT a_OUTPUT_WORD a_INPUT_WORD a_MEMORY_WORD p_INPUT_BIT v_INPUT_BIT p_OUTPUT_WORD v_OUTPUT_WORD p_OUTPUT_BIT v_OUTPUT_BIT p_MEMORY_WORD v_MEMORY_WORD p_INPUT_WORD v_INPUT_WORD a_DigitOnes k_INPUT_BIT k_OUTPUT_WORD k_OUTPUT_BIT k_MEMORY_WORD k_INPUT_WORD ucs uff) (V_ub : Arv Z h0 ub kb .byte (4 : Int32) [(.int ux0), (.int 73), (.int ux2), (.int ux3)] (.int 0))   :
    MetFree l (⟨"java/lang/StringLatin1", "charAt", "([BI)C"⟩ : MethodName) (head1 (Jvm.Cond.code (⟨"java/lang/StringLatin1", "charAt", "([BI)C"⟩ : MethodName) jdk_43_method_2_code 2 (some .char) :: ws) ({ frames := 2, cells := 0, slots := 0, locals := 27 } : Room)) (fun a U => a = #[(.ref ub), (.int 1)] ∧ Z.Warmed39 U.vm ∧ U.heap = h0) (fun _ _ _ _ _ => True) (fun _ U o U' => ∃ v L, o = .returned v ∧ (own_Q_rmLc4_73 Z ub kb ux0 ux2 ux3 h0 n0) v U'.heap L ∧ FrameEnd U o U' L 0 0) := by
  refine MetFree.of_bodySF pn_rmLc4_73 hisR ?_
  intro p e s m args below meth c s₁ Bd hml0 hP hK
  obtain ⟨rfl, hZ, hh⟩ := hP
  have hx := Bd.exec
  have hby := Bd.bytes
  have hml : c.maxLocals = 2 := hml0
  have hown : s.vm.findClass "java/lang/StringLatin1" = some m.cls := findClass_of_methodNamed Bd.named
  have hnm := (name_of_methodNamed Bd.named Bd.method).1
  have hrt := Bd.returns
  have hlk := Bd.notSynchronized
  have X0 : Stand p l e ({ frames := 2, cells := 0, slots := 0, locals := 27 } : Room) s m #[(.ref ub), (.int 1)] below meth c s₁ [] 0 0 := Stand.of_body Bd
  have e0 : s₁.heap = h0 := by rw [← hh, Bd.state]; rfl
  have N0 := Fr.nil n0
  have K0 := Keep.refl h0 []
  have lt_V_ub := own_lt V_ub.lt
  refine own_done (B := s₁.setTop (mkF m 0 #[VR ub, VI 1] [])) (fun t k => castTop (ef_rmLc4_73 m ub (1 : Int32)) k) ?_
  refine own_by (B := s₁.setTop (mkF m 1 #[VR ub, VI 1] [(.int 1)])) (fun _ k => XS.iloadN X0.here hx rfl (hb hby d34_0) rfl  k) ?_
  refine own_by (B := s₁.setTop (mkF m 2 #[VR ub, VI 1] [(.ref ub), (.int 1)])) (fun _ k => XS.aloadN X0.here hx rfl (hb hby d34_1) rfl rfl  k) ?_
  obtain ⟨cl1, Ar1, qq1, Sz1, Nn1, Hh1, Gg1⟩ := id (V_ub)
  refine own_by (B := s₁.setTop (mkF m 3 #[VR ub, VI 1] [(.int 4), (.int 1)])) (fun t k => X0.arraylength hx (by rw [e0]; exact Ar1.1) (State.isArrayOf_alike hZ.alike Ar1.2.1) (g := (mkF m 2 #[VR ub, VI 1] [(.ref ub), (.int 1)])) rfl rfl (hb hby d34_2) t (by rw [len_of Sz1 Nn1]; exact k)) ?_
  obtain ⟨_, _, ⟨T2, L2, k2, n2⟩, -, X2, ⟨Lc2, hQ2, l2, y2, z2⟩, st2⟩ := Jvm.LawKit.callS X0 hx (y := (⟨"java/lang/String", "checkIndex", "(II)V"⟩ : MethodName)) hown (mvT hZ (own_hw 195 hw rfl)) (mvT hZ (own_hw 196 hw rfl)) (mvT hZ (own_hw 51 hw rfl)) (mvT hZ (own_hw 197 hw rfl)) (by decide) (backOf (W := 0) (rmCi4 l Z a0 hw [] a_INPUT_BIT a_OUTPUT_BIT a_OUTPUT_WORD a_INPUT_WORD a_MEMORY_WORD p_INPUT_BIT v_INPUT_BIT p_OUTPUT_WORD v_OUTPUT_WORD p_OUTPUT_BIT v_OUTPUT_BIT p_MEMORY_WORD v_MEMORY_WORD p_INPUT_WORD v_INPUT_WORD a_DigitOnes k_INPUT_BIT k_OUTPUT_WORD k_OUTPUT_BIT k_MEMORY_WORD k_INPUT_WORD ucs uff  h0 n0 (own_old_le O0) O0 HW ) hZ (own_hw 197 hw rfl) (own_hw 51 hw rfl) (by decide) (by decide)) (g := (mkF m 3 #[VR ub, VI 1] [(.int 4), (.int 1)])) rfl (by rw [hml]; rfl) (argsL := [(.int 1), (.int 4)]) (rest := []) (lenOf pd_34__II_V rfl) rfl (by show 2 * 0 + _ ≤ _; exact Nat.le_of_eq rfl) (hb hby d34_3) (fun _ _ => ⟨rfl, e0, (by decide : 0 + 0 ≤ _), (by decide : 0 + 0 ≤ _)⟩)
  dsimp only [Pt.U, Pt.locs, Pt.cells, Pt.slots] at X2 l2 y2 z2 st2 hQ2
  subst l2 y2 z2
  obtain ⟨rfl, NC2, KC2⟩ := hQ2
  refine own_by (B := T2.setTop (mkF m 6 #[VR ub, VI 1] [])) st2 ?_
  obtain ⟨h2, e2⟩ : ∃ z, T2.heap = z := ⟨_, rfl⟩
  rw [e2] at KC2
  have sz2 := KC2.1
  have O2 := O0.keep KC2 all0
  have K2 := K0.trans KC2 all0
  have N2 := Fr.app N0 NC2
  refine own_by (B := T2.setTop (mkF m 7 #[VR ub, VI 1] [(.ref ub)])) (fun _ k => XS.aloadN X2.here hx rfl (hb hby d34_6) rfl rfl  k) ?_
  refine own_by (B := T2.setTop (mkF m 8 #[VR ub, VI 1] [(.int 1), (.ref ub)])) (fun _ k => XS.iloadN X2.here hx rfl (hb hby d34_7) rfl  k) ?_
  have c3 := (V_ub.keep KC2 nin0)
  obtain ⟨cl4, Ar4, qq4, Sz4, Nn4, Hh4, Gg4⟩ := id (c3)
  have hin4 : ¬ ((1 : Int32) < 0 ∨ cl4.slots.size ≤ ((1 : Int32)).toNatClampNeg) := inb_of Sz4 ⟨by decide, by decide⟩
  refine own_by (B := T2.setTop (mkF m 9 #[VR ub, VI 1] [(.int 73)])) (fun t k => X2.baloadBytes hx (j := (1 : Int32)) (v := (.int 73)) (by rw [e2]; exact Ar4.1) (State.isArrayOf_alike hZ.alike Ar4.2.1) Ar4.2.2 hin4 (Hh4.at hin4 rfl) (g := (mkF m 8 #[VR ub, VI 1] [(.int 1), (.ref ub)])) rfl rfl (hb hby d34_8) t k) ?_
  refine own_by (B := T2.setTop (mkF m 12 #[VR ub, VI 1] [(.int 255), (.int 73)])) (fun _ k => XS.sipush X2.here hx rfl (hb hby d34_9) k) ?_
  refine own_by (B := T2.setTop (mkF m 13 #[VR ub, VI 1] [(.int 73)])) (fun _ k => XS.iand X2.here hx rfl (hb hby d34_12) rfl k) ?_
  refine own_by (B := T2.setTop (mkF m 14 #[VR ub, VI 1] [(.int 73)])) (fun _ k => XT.i2c X2.here hx rfl (hb hby d34_13) rfl k) ?_
  exact own_retW X2 hx hrt hlk rfl (Or.inl ⟨rfl, by simp, _, rfl⟩) (hb hby d34_14) (by decide) (by decide) (by show own_Q_rmLc4_73 Z ub kb ux0 ux2 ux3 h0 n0 _ T2.heap _; rw [e2]; exact ⟨rfl, N2, K2⟩)

def own_Q_rmCa4_73 (Z : State) (ua : Nat) (ub : Nat) (kb : ClassId) (ux0 : Int32) (ux2 : Int32) (ux3 : Int32) (h0 : Heap) (n0 : Nat) (v : Option Value) (h : Heap) (L : List Loc) : Prop := v = some (.int 73) ∧ Fr n0 L ∧ Keep h0 h []

theorem pn_rmCa4_73 : plainFor (⟨"java/lang/String", "charAt", "(I)C"⟩ : MethodName) = true := by first | exact plainFor_of_name (by first | (simp [plainName, overriddenIn]; done) | decide +kernel) | exact Jvm.Free.JP.mathPlain rfl (by decide +kernel) | decide +kernel
theorem ef_rmCa4_73 (m : MethodId) (x0 : Nat) (x1 : Int32) : entryFrame m #[(.ref x0), (.int x1)] 2 = mkF m 0 #[VR x0, VI x1] [] := by first | (simp [entryFrame, mkF, argsToLocals, Value.category]; done) | rfl
set_option maxRecDepth 65536 in
set_option maxHeartbeats 40000000 in
theorem rmCa4_73 (l : Launch) (Z : State) (a0 : Array Value) (hw : ∀ d ∈ tables_1, d.before a0 Z = true) (ws : List Jvm.Cond) (a_INPUT_BIT a_OUTPUT_BIT a_OUTPUT_WORD a_INPUT_WORD a_MEMORY_WORD p_INPUT_BIT v_INPUT_BIT p_OUTPUT_WORD v_OUTPUT_WORD p_OUTPUT_BIT v_OUTPUT_BIT p_MEMORY_WORD v_MEMORY_WORD p_INPUT_WORD v_INPUT_WORD a_DigitOnes : Nat) (k_INPUT_BIT : ClassId) (k_OUTPUT_WORD : ClassId) (k_OUTPUT_BIT : ClassId) (k_MEMORY_WORD : ClassId) (k_INPUT_WORD : ClassId) (ucs : Int32) (uff : Value) (ua : Nat) (ub : Nat) (kb : ClassId) (ux0 : Int32) (ux2 : Int32) (ux3 : Int32) (h0 : Heap) (n0 : Nat) (Z0 : n0 ≤ h0.size) (O0 : Old Z n0 h0) (HW : own_W Z Z.heap a_INPUT_BIT a_OUTPUT_BIT a_OUTPUT_WORD a_INPUT_WORD a_MEMORY_WORD p_INPUT_BIT v_INPUT_BIT p_OUTPUT_WORD v_OUTPUT_WORD p_OUTPUT_BIT v_OUTPUT_BIT p_MEMORY_WORD v_MEMORY_WORD p_INPUT_WORD v_INPUT_WORD a_DigitOnes k_INPUT_BIT k_OUTPUT_WORD k_OUTPUT_BIT k_MEMORY_WORD k_INPUT_WORD ucs uff) (E_ua : Exa Z h0 ua "java/lang/String") (F_ua_value : Fld Z h0 ua "java/lang/String" "value" "[B" (.ref ub)) (F_ua_coder : Fld Z h0 ua "java/lang/String" "coder" "B" (.int 0)) (V_ub : Arv Z h0 ub kb .byte (4 : Int32) [(.int ux0), (.int 73), (.int ux2), (.int ux3)] (.int 0))   :
    MetFree l (⟨"java/lang/String", "charAt", "(I)C"⟩ : MethodName) (head1 (Jvm.Cond.code (⟨"java/lang/String", "charAt", "(I)C"⟩ : MethodName) jdk_42_method_56_code 2 (some .char) :: ws) ({ frames := 3, cells := 0, slots := 0, locals := 40 } : Room)) (fun a U => a = #[(.ref ua), (.int 1)] ∧ Z.Warmed39 U.vm ∧ U.heap = h0) (fun _ _ _ _ _ => True) (fun _ U o U' => ∃ v L, o = .returned v ∧ (own_Q_rmCa4_73 Z ua ub kb ux0 ux2 ux3 h0 n0) v U'.heap L ∧ FrameEnd U o U' L 0 0) := by
  refine MetFree.of_bodySF pn_rmCa4_73 hisR ?_
  intro p e s m args below meth c s₁ Bd hml0 hP hK
  obtain ⟨rfl, hZ, hh⟩ := hP
  have hx := Bd.exec
  have hby := Bd.bytes
  have hml : c.maxLocals = 2 := hml0
  have hown : s.vm.findClass "java/lang/String" = some m.cls := findClass_of_methodNamed Bd.named
  have hnm := (name_of_methodNamed Bd.named Bd.method).1
  have hrt := Bd.returns
  have hlk := Bd.notSynchronized
  have X0 : Stand p l e ({ frames := 3, cells := 0, slots := 0, locals := 40 } : Room) s m #[(.ref ua), (.int 1)] below meth c s₁ [] 0 0 := Stand.of_body Bd
  have e0 : s₁.heap = h0 := by rw [← hh, Bd.state]; rfl
  have N0 := Fr.nil n0
  have K0 := Keep.refl h0 []
  have lt_E_ua := own_lt E_ua.lt
  have lt_V_ub := own_lt V_ub.lt
  have nl_ua_ub := own_lg (Exa.neArv E_ua V_ub (own_hw 134 hw rfl))
  refine own_done (B := s₁.setTop (mkF m 0 #[VR ua, VI 1] [])) (fun t k => castTop (ef_rmCa4_73 m ua (1 : Int32)) k) ?_
  refine own_by (B := s₁.setTop (mkF m 1 #[VR ua, VI 1] [(.ref ua)])) (fun _ k => XS.aloadN X0.here hx rfl (hb hby d32_0) rfl rfl  k) ?_
  obtain ⟨cq1, kq1, qa1, qb1, qc1⟩ := isOf hZ e0 E_ua
  obtain ⟨_, _, ⟨T1, L1, k1, n1⟩, -, X1, ⟨Lc1, hQ1, l1, y1, z1⟩, st1⟩ := X0.virtualBack hx (y := (⟨"java/lang/String", "isLatin1", "()Z"⟩ : MethodName)) (z := (⟨"java/lang/String", "isLatin1", "()Z"⟩ : MethodName)) hown (mvT hZ (own_hw 186 hw rfl)) (mvT hZ (own_hw 187 hw rfl)) (notFace_of_selects (args := #[]) (mvT hZ (own_hw 189 hw rfl))) (mvT hZ (own_hw 189 hw rfl)) (mvT hZ (own_hw 188 hw rfl)) (by decide) (backOf (W := 0) (rmSl4_73 l Z a0 hw [] a_INPUT_BIT a_OUTPUT_BIT a_OUTPUT_WORD a_INPUT_WORD a_MEMORY_WORD p_INPUT_BIT v_INPUT_BIT p_OUTPUT_WORD v_OUTPUT_WORD p_OUTPUT_BIT v_OUTPUT_BIT p_MEMORY_WORD v_MEMORY_WORD p_INPUT_WORD v_INPUT_WORD a_DigitOnes k_INPUT_BIT k_OUTPUT_WORD k_OUTPUT_BIT k_MEMORY_WORD k_INPUT_WORD ucs uff ua ub kb ux0 ux2 ux3 h0 n0 (own_old_le O0) O0 HW E_ua F_ua_value F_ua_coder V_ub) hZ (own_hw 190 hw rfl) (own_hw 51 hw rfl) (by decide) (by decide)) qa1 qc1 (g := (mkF m 1 #[VR ua, VI 1] [(.ref ua)])) rfl (by rw [hml]; rfl) (Steps.refl _) (argsL := []) (rest := []) (lenOf pd_32___Z rfl) rfl (by show 2 * 0 + _ ≤ _; exact Nat.le_of_eq rfl) (hb hby d32_1) (fun _ _ => ⟨rfl, e0, (by decide : 0 + 0 ≤ _), (by decide : 0 + 0 ≤ _)⟩)
  dsimp only [Pt.U, Pt.locs, Pt.cells, Pt.slots] at X1 l1 y1 z1 st1 hQ1
  subst l1 y1 z1
  obtain ⟨rfl, NC1, KC1⟩ := hQ1
  refine own_by (B := T1.setTop (mkF m 4 #[VR ua, VI 1] [(.int 1)])) (fun _ k => st1.trans k) ?_
  obtain ⟨h1, e1⟩ : ∃ z, T1.heap = z := ⟨_, rfl⟩
  rw [e1] at KC1
  have sz1 := KC1.1
  have O1 := O0.keep KC1 all0
  have K1 := K0.trans KC1 all0
  have N1 := Fr.app N0 NC1
  refine own_by (B := T1.setTop (mkF m 7 #[VR ua, VI 1] [])) (fun _ k => XS.ifNo X1.here hx rfl (hb hby d32_4) rfl (XT.i0_eq_f (by decide)) k) ?_
  refine own_by (B := T1.setTop (mkF m 8 #[VR ua, VI 1] [(.ref ua)])) (fun _ k => XS.aloadN X1.here hx rfl (hb hby d32_7) rfl rfl  k) ?_
  have c2 := (F_ua_value.keep KC1 nin0)
  obtain ⟨T3, X3, e3, st3⟩ := getF X1 hx hZ hown (host := "") (Or.inl (own_hw 74 hw rfl)) Via.refl e1 c2 (g := (mkF m 8 #[VR ua, VI 1] [(.ref ua)])) rfl rfl (hb hby d32_8)
  refine own_by (B := T3.setTop (mkF m 11 #[VR ua, VI 1] [(.ref ub)])) st3 ?_
  refine own_by (B := T3.setTop (mkF m 12 #[VR ua, VI 1] [(.int 1), (.ref ub)])) (fun _ k => XS.iloadN X3.here hx rfl (hb hby d32_11) rfl  k) ?_
  have c4 := (V_ub.keep KC1 nin0)
  obtain ⟨_, _, ⟨T5, L5, k5, n5⟩, -, X5, ⟨Lc5, hQ5, l5, y5, z5⟩, st5⟩ := Jvm.LawKit.callS X3 hx (y := (⟨"java/lang/StringLatin1", "charAt", "([BI)C"⟩ : MethodName)) hown (mvT hZ (own_hw 191 hw rfl)) (mvT hZ (own_hw 192 hw rfl)) (mvT hZ (own_hw 193 hw rfl)) (mvT hZ (own_hw 194 hw rfl)) (by decide) (backOf (W := 0) (rmLc4_73 l Z a0 hw [] a_INPUT_BIT a_OUTPUT_BIT a_OUTPUT_WORD a_INPUT_WORD a_MEMORY_WORD p_INPUT_BIT v_INPUT_BIT p_OUTPUT_WORD v_OUTPUT_WORD p_OUTPUT_BIT v_OUTPUT_BIT p_MEMORY_WORD v_MEMORY_WORD p_INPUT_WORD v_INPUT_WORD a_DigitOnes k_INPUT_BIT k_OUTPUT_WORD k_OUTPUT_BIT k_MEMORY_WORD k_INPUT_WORD ucs uff ub kb ux0 ux2 ux3 h1 n0 (own_old_le O1) O1 HW c4) hZ (own_hw 194 hw rfl) (own_hw 193 hw rfl) (by decide) (by decide)) (g := (mkF m 12 #[VR ua, VI 1] [(.int 1), (.ref ub)])) rfl (by rw [hml]; rfl) (argsL := [(.ref ub), (.int 1)]) (rest := []) (lenOf pd_32___BI_C rfl) rfl (by show 2 * 0 + _ ≤ _; exact Nat.le_of_eq rfl) (hb hby d32_12) (fun _ _ => ⟨rfl, e3, (by decide : 0 + 0 ≤ _), (by decide : 0 + 0 ≤ _)⟩)
  dsimp only [Pt.U, Pt.locs, Pt.cells, Pt.slots] at X5 l5 y5 z5 st5 hQ5
  subst l5 y5 z5
  obtain ⟨rfl, NC5, KC5⟩ := hQ5
  refine own_by (B := T5.setTop (mkF m 15 #[VR ua, VI 1] [(.int 73)])) st5 ?_
  obtain ⟨h5, e5⟩ : ∃ z, T5.heap = z := ⟨_, rfl⟩
  rw [e5] at KC5
  have sz5 := KC5.1
  have O5 := O1.keep KC5 all0
  have K5 := K1.trans KC5 all0
  have N5 := Fr.app N1 NC5
  exact own_retW X5 hx hrt hlk rfl (Or.inl ⟨rfl, by simp, _, rfl⟩) (hb hby d32_15) (by decide) (by decide) (by show own_Q_rmCa4_73 Z ua ub kb ux0 ux2 ux3 h0 n0 _ T5.heap _; rw [e5]; exact ⟨rfl, N5, K5⟩)

def own_Q_rmSl4_81 (Z : State) (ua : Nat) (ub : Nat) (kb : ClassId) (ux0 : Int32) (ux2 : Int32) (ux3 : Int32) (h0 : Heap) (n0 : Nat) (v : Option Value) (h : Heap) (L : List Loc) : Prop := v = some (.int 1) ∧ Fr n0 L ∧ Keep h0 h []

theorem pn_rmSl4_81 : plainFor (⟨"java/lang/String", "isLatin1", "()Z"⟩ : MethodName) = true := by first | exact plainFor_of_name (by first | (simp [plainName, overriddenIn]; done) | decide +kernel) | exact Jvm.Free.JP.mathPlain rfl (by decide +kernel) | decide +kernel
theorem ef_rmSl4_81 (m : MethodId) (x0 : Nat) : entryFrame m #[(.ref x0)] 1 = mkF m 0 #[VR x0] [] := by first | (simp [entryFrame, mkF, argsToLocals, Value.category]; done) | rfl
set_option maxRecDepth 65536 in
set_option maxHeartbeats 40000000 in
theorem rmSl4_81 (l : Launch) (Z : State) (a0 : Array Value) (hw : ∀ d ∈ tables_1, d.before a0 Z = true) (ws : List Jvm.Cond) (a_INPUT_BIT a_OUTPUT_BIT a_OUTPUT_WORD a_INPUT_WORD a_MEMORY_WORD p_INPUT_BIT v_INPUT_BIT p_OUTPUT_WORD v_OUTPUT_WORD p_OUTPUT_BIT v_OUTPUT_BIT p_MEMORY_WORD v_MEMORY_WORD p_INPUT_WORD v_INPUT_WORD a_DigitOnes : Nat) (k_INPUT_BIT : ClassId) (k_OUTPUT_WORD : ClassId) (k_OUTPUT_BIT : ClassId) (k_MEMORY_WORD : ClassId) (k_INPUT_WORD : ClassId) (ucs : Int32) (uff : Value) (ua : Nat) (ub : Nat) (kb : ClassId) (ux0 : Int32) (ux2 : Int32) (ux3 : Int32) (h0 : Heap) (n0 : Nat) (Z0 : n0 ≤ h0.size) (O0 : Old Z n0 h0) (HW : own_W Z Z.heap a_INPUT_BIT a_OUTPUT_BIT a_OUTPUT_WORD a_INPUT_WORD a_MEMORY_WORD p_INPUT_BIT v_INPUT_BIT p_OUTPUT_WORD v_OUTPUT_WORD p_OUTPUT_BIT v_OUTPUT_BIT p_MEMORY_WORD v_MEMORY_WORD p_INPUT_WORD v_INPUT_WORD a_DigitOnes k_INPUT_BIT k_OUTPUT_WORD k_OUTPUT_BIT k_MEMORY_WORD k_INPUT_WORD ucs uff) (E_ua : Exa Z h0 ua "java/lang/String") (F_ua_value : Fld Z h0 ua "java/lang/String" "value" "[B" (.ref ub)) (F_ua_coder : Fld Z h0 ua "java/lang/String" "coder" "B" (.int 0)) (V_ub : Arv Z h0 ub kb .byte (4 : Int32) [(.int ux0), (.int 81), (.int ux2), (.int ux3)] (.int 0))   :
    MetFree l (⟨"java/lang/String", "isLatin1", "()Z"⟩ : MethodName) (head1 (Jvm.Cond.code (⟨"java/lang/String", "isLatin1", "()Z"⟩ : MethodName) jdk_42_method_154_code 1 (some .boolean) :: ws) ({ frames := 0, cells := 0, slots := 0, locals := 0 } : Room)) (fun a U => a = #[(.ref ua)] ∧ Z.Warmed39 U.vm ∧ U.heap = h0) (fun _ _ _ _ _ => True) (fun _ U o U' => ∃ v L, o = .returned v ∧ (own_Q_rmSl4_81 Z ua ub kb ux0 ux2 ux3 h0 n0) v U'.heap L ∧ FrameEnd U o U' L 0 0) := by
  refine MetFree.of_bodySF pn_rmSl4_81 hisR ?_
  intro p e s m args below meth c s₁ Bd hml0 hP hK
  obtain ⟨rfl, hZ, hh⟩ := hP
  have hx := Bd.exec
  have hby := Bd.bytes
  have hml : c.maxLocals = 1 := hml0
  have hown : s.vm.findClass "java/lang/String" = some m.cls := findClass_of_methodNamed Bd.named
  have hnm := (name_of_methodNamed Bd.named Bd.method).1
  have hrt := Bd.returns
  have hlk := Bd.notSynchronized
  have X0 : Stand p l e ({ frames := 0, cells := 0, slots := 0, locals := 0 } : Room) s m #[(.ref ua)] below meth c s₁ [] 0 0 := Stand.of_body Bd
  have e0 : s₁.heap = h0 := by rw [← hh, Bd.state]; rfl
  have N0 := Fr.nil n0
  have K0 := Keep.refl h0 []
  have HW' := HW
  obtain ⟨-, -, -, -, -, -, -, -, -, -, -, -, -, -, -, -, -, -, -, -, -, -, -, -, -, -, -, -, -, -, -, -, -, -, -, -, -, -, -, -, S_CS, H_CS, -, -, -, -⟩ := HW'
  have lt_E_ua := own_lt E_ua.lt
  have lt_V_ub := own_lt V_ub.lt
  have nl_ua_ub := own_lg (Exa.neArv E_ua V_ub (own_hw 134 hw rfl))
  refine own_done (B := s₁.setTop (mkF m 0 #[VR ua] [])) (fun t k => castTop (ef_rmSl4_81 m ua) k) ?_
  obtain ⟨T1, X1, e1, st1⟩ := getS2 X0 hx hZ hown (host := "") (Or.inl (own_hw 81 hw rfl)) Via.refl e0 (S_CS.ext O0.2) (g := (mkF m 0 #[VR ua] [])) rfl (hb hby d33_0)
  refine own_by (B := T1.setTop (mkF m 3 #[VR ua] [(.int ucs)])) st1 ?_
  refine own_by (B := T1.setTop (mkF m 6 #[VR ua] [])) (fun _ k => XS.ifNo X1.here hx rfl (hb hby d33_3) rfl (XT.i0_eq_f H_CS) k) ?_
  refine own_by (B := T1.setTop (mkF m 7 #[VR ua] [(.ref ua)])) (fun _ k => XS.aloadN X1.here hx rfl (hb hby d33_6) rfl rfl  k) ?_
  obtain ⟨T2, X2, e2, st2⟩ := getF X1 hx hZ hown (host := "") (Or.inl (own_hw 82 hw rfl)) Via.refl e1 F_ua_coder (g := (mkF m 7 #[VR ua] [(.ref ua)])) rfl rfl (hb hby d33_7)
  refine own_by (B := T2.setTop (mkF m 10 #[VR ua] [(.int 0)])) st2 ?_
  refine own_by (B := T2.setTop (mkF m 13 #[VR ua] [])) (fun _ k => XS.ifNo X2.here hx rfl (hb hby d33_10) rfl (XT.i0_ne_f (by decide)) k) ?_
  refine own_by (B := T2.setTop (mkF m 14 #[VR ua] [(.int 1)])) (fun _ k => XS.iconst X2.here hx rfl (hb hby d33_13) k) ?_
  refine own_by (B := T2.setTop (mkF m 18 #[VR ua] [(.int 1)])) (fun _ k => XS.goto X2.here hx rfl (pc0 := 14) (pc' := 18) rfl (hb hby d33_14) (by decide) (by decide) k) ?_
  exact own_retZ X2 hx hrt hlk rfl (hb hby d33_18) (by decide) (by decide) (by show own_Q_rmSl4_81 Z ua ub kb ux0 ux2 ux3 h0 n0 _ T2.heap _; rw [e2]; exact ⟨rfl, N0, K0⟩)

def own_Q_rmLc4_81 (Z : State) (ub : Nat) (kb : ClassId) (ux0 : Int32) (ux2 : Int32) (ux3 : Int32) (h0 : Heap) (n0 : Nat) (v : Option Value) (h : Heap) (L : List Loc) : Prop := v = some (.int 81) ∧ Fr n0 L ∧ Keep h0 h []

theorem pn_rmLc4_81 : plainFor (⟨"java/lang/StringLatin1", "charAt", "([BI)C"⟩ : MethodName) = true := by first | exact plainFor_of_name (by first | (simp [plainName, overriddenIn]; done) | decide +kernel) | exact Jvm.Free.JP.mathPlain rfl (by decide +kernel) | decide +kernel
theorem ef_rmLc4_81 (m : MethodId) (x0 : Nat) (x1 : Int32) : entryFrame m #[(.ref x0), (.int x1)] 2 = mkF m 0 #[VR x0, VI x1] [] := by first | (simp [entryFrame, mkF, argsToLocals, Value.category]; done) | rfl
set_option maxRecDepth 65536 in
set_option maxHeartbeats 40000000 in
theorem rmLc4_81 (l : Launch) (Z : State) (a0 : Array Value) (hw : ∀ d ∈ tables_1, d.before a0 Z = true) (ws : List Jvm.Cond) (a_INPUT_BIT a_OUTPUT_BIT a_OUTPUT_WORD a_INPUT_WORD a_MEMORY_WORD p_INPUT_BIT v_INPUT_BIT p_OUTPUT_WORD v_OUTPUT_WORD p_OUTPUT_BIT v_OUTPUT_BIT p_MEMORY_WORD v_MEMORY_WORD p_INPUT_WORD v_INPUT_WORD a_DigitOnes : Nat) (k_INPUT_BIT : ClassId) (k_OUTPUT_WORD : ClassId) (k_OUTPUT_BIT : ClassId) (k_MEMORY_WORD : ClassId) (k_INPUT_WORD : ClassId) (ucs : Int32) (uff : Value) (ub : Nat) (kb : ClassId) (ux0 : Int32) (ux2 : Int32) (ux3 : Int32) (h0 : Heap) (n0 : Nat) (Z0 : n0 ≤ h0.size) (O0 : Old Z n0 h0) (HW : own_W Z Z.heap a_INPUT_BIT a_OUTPUT_BIT a_OUTPUT_WORD a_INPUT_WORD a_MEMORY_WORD p_INPUT_BIT v_INPUT_BIT p_OUTPUT_WORD v_OUTPUT_WORD p_OUTPUT_BIT v_OUTPUT_BIT p_MEMORY_WORD v_MEMORY_WORD p_INPUT_WORD v_INPUT_WORD a_DigitOnes k_INPUT_BIT k_OUTPUT_WORD k_OUTPUT_BIT k_MEMORY_WORD k_INPUT_WORD ucs uff) (V_ub : Arv Z h0 ub kb .byte (4 : Int32) [(.int ux0), (.int 81), (.int ux2), (.int ux3)] (.int 0))   :
    MetFree l (⟨"java/lang/StringLatin1", "charAt", "([BI)C"⟩ : MethodName) (head1 (Jvm.Cond.code (⟨"java/lang/StringLatin1", "charAt", "([BI)C"⟩ : MethodName) jdk_43_method_2_code 2 (some .char) :: ws) ({ frames := 2, cells := 0, slots := 0, locals := 27 } : Room)) (fun a U => a = #[(.ref ub), (.int 1)] ∧ Z.Warmed39 U.vm ∧ U.heap = h0) (fun _ _ _ _ _ => True) (fun _ U o U' => ∃ v L, o = .returned v ∧ (own_Q_rmLc4_81 Z ub kb ux0 ux2 ux3 h0 n0) v U'.heap L ∧ FrameEnd U o U' L 0 0) := by
  refine MetFree.of_bodySF pn_rmLc4_81 hisR ?_
  intro p e s m args below meth c s₁ Bd hml0 hP hK
  obtain ⟨rfl, hZ, hh⟩ := hP
  have hx := Bd.exec
  have hby := Bd.bytes
  have hml : c.maxLocals = 2 := hml0
  have hown : s.vm.findClass "java/lang/StringLatin1" = some m.cls := findClass_of_methodNamed Bd.named
  have hnm := (name_of_methodNamed Bd.named Bd.method).1
  have hrt := Bd.returns
  have hlk := Bd.notSynchronized
  have X0 : Stand p l e ({ frames := 2, cells := 0, slots := 0, locals := 27 } : Room) s m #[(.ref ub), (.int 1)] below meth c s₁ [] 0 0 := Stand.of_body Bd
  have e0 : s₁.heap = h0 := by rw [← hh, Bd.state]; rfl
  have N0 := Fr.nil n0
  have K0 := Keep.refl h0 []
  have lt_V_ub := own_lt V_ub.lt
  refine own_done (B := s₁.setTop (mkF m 0 #[VR ub, VI 1] [])) (fun t k => castTop (ef_rmLc4_81 m ub (1 : Int32)) k) ?_
  refine own_by (B := s₁.setTop (mkF m 1 #[VR ub, VI 1] [(.int 1)])) (fun _ k => XS.iloadN X0.here hx rfl (hb hby d34_0) rfl  k) ?_
  refine own_by (B := s₁.setTop (mkF m 2 #[VR ub, VI 1] [(.ref ub), (.int 1)])) (fun _ k => XS.aloadN X0.here hx rfl (hb hby d34_1) rfl rfl  k) ?_
  obtain ⟨cl1, Ar1, qq1, Sz1, Nn1, Hh1, Gg1⟩ := id (V_ub)
  refine own_by (B := s₁.setTop (mkF m 3 #[VR ub, VI 1] [(.int 4), (.int 1)])) (fun t k => X0.arraylength hx (by rw [e0]; exact Ar1.1) (State.isArrayOf_alike hZ.alike Ar1.2.1) (g := (mkF m 2 #[VR ub, VI 1] [(.ref ub), (.int 1)])) rfl rfl (hb hby d34_2) t (by rw [len_of Sz1 Nn1]; exact k)) ?_
  obtain ⟨_, _, ⟨T2, L2, k2, n2⟩, -, X2, ⟨Lc2, hQ2, l2, y2, z2⟩, st2⟩ := Jvm.LawKit.callS X0 hx (y := (⟨"java/lang/String", "checkIndex", "(II)V"⟩ : MethodName)) hown (mvT hZ (own_hw 195 hw rfl)) (mvT hZ (own_hw 196 hw rfl)) (mvT hZ (own_hw 51 hw rfl)) (mvT hZ (own_hw 197 hw rfl)) (by decide) (backOf (W := 0) (rmCi4 l Z a0 hw [] a_INPUT_BIT a_OUTPUT_BIT a_OUTPUT_WORD a_INPUT_WORD a_MEMORY_WORD p_INPUT_BIT v_INPUT_BIT p_OUTPUT_WORD v_OUTPUT_WORD p_OUTPUT_BIT v_OUTPUT_BIT p_MEMORY_WORD v_MEMORY_WORD p_INPUT_WORD v_INPUT_WORD a_DigitOnes k_INPUT_BIT k_OUTPUT_WORD k_OUTPUT_BIT k_MEMORY_WORD k_INPUT_WORD ucs uff  h0 n0 (own_old_le O0) O0 HW ) hZ (own_hw 197 hw rfl) (own_hw 51 hw rfl) (by decide) (by decide)) (g := (mkF m 3 #[VR ub, VI 1] [(.int 4), (.int 1)])) rfl (by rw [hml]; rfl) (argsL := [(.int 1), (.int 4)]) (rest := []) (lenOf pd_34__II_V rfl) rfl (by show 2 * 0 + _ ≤ _; exact Nat.le_of_eq rfl) (hb hby d34_3) (fun _ _ => ⟨rfl, e0, (by decide : 0 + 0 ≤ _), (by decide : 0 + 0 ≤ _)⟩)
  dsimp only [Pt.U, Pt.locs, Pt.cells, Pt.slots] at X2 l2 y2 z2 st2 hQ2
  subst l2 y2 z2
  obtain ⟨rfl, NC2, KC2⟩ := hQ2
  refine own_by (B := T2.setTop (mkF m 6 #[VR ub, VI 1] [])) st2 ?_
  obtain ⟨h2, e2⟩ : ∃ z, T2.heap = z := ⟨_, rfl⟩
  rw [e2] at KC2
  have sz2 := KC2.1
  have O2 := O0.keep KC2 all0
  have K2 := K0.trans KC2 all0
  have N2 := Fr.app N0 NC2
  refine own_by (B := T2.setTop (mkF m 7 #[VR ub, VI 1] [(.ref ub)])) (fun _ k => XS.aloadN X2.here hx rfl (hb hby d34_6) rfl rfl  k) ?_
  refine own_by (B := T2.setTop (mkF m 8 #[VR ub, VI 1] [(.int 1), (.ref ub)])) (fun _ k => XS.iloadN X2.here hx rfl (hb hby d34_7) rfl  k) ?_
  have c3 := (V_ub.keep KC2 nin0)
  obtain ⟨cl4, Ar4, qq4, Sz4, Nn4, Hh4, Gg4⟩ := id (c3)
  have hin4 : ¬ ((1 : Int32) < 0 ∨ cl4.slots.size ≤ ((1 : Int32)).toNatClampNeg) := inb_of Sz4 ⟨by decide, by decide⟩
  refine own_by (B := T2.setTop (mkF m 9 #[VR ub, VI 1] [(.int 81)])) (fun t k => X2.baloadBytes hx (j := (1 : Int32)) (v := (.int 81)) (by rw [e2]; exact Ar4.1) (State.isArrayOf_alike hZ.alike Ar4.2.1) Ar4.2.2 hin4 (Hh4.at hin4 rfl) (g := (mkF m 8 #[VR ub, VI 1] [(.int 1), (.ref ub)])) rfl rfl (hb hby d34_8) t k) ?_
  refine own_by (B := T2.setTop (mkF m 12 #[VR ub, VI 1] [(.int 255), (.int 81)])) (fun _ k => XS.sipush X2.here hx rfl (hb hby d34_9) k) ?_
  refine own_by (B := T2.setTop (mkF m 13 #[VR ub, VI 1] [(.int 81)])) (fun _ k => XS.iand X2.here hx rfl (hb hby d34_12) rfl k) ?_
  refine own_by (B := T2.setTop (mkF m 14 #[VR ub, VI 1] [(.int 81)])) (fun _ k => XT.i2c X2.here hx rfl (hb hby d34_13) rfl k) ?_
  exact own_retW X2 hx hrt hlk rfl (Or.inl ⟨rfl, by simp, _, rfl⟩) (hb hby d34_14) (by decide) (by decide) (by show own_Q_rmLc4_81 Z ub kb ux0 ux2 ux3 h0 n0 _ T2.heap _; rw [e2]; exact ⟨rfl, N2, K2⟩)

def own_Q_rmCa4_81 (Z : State) (ua : Nat) (ub : Nat) (kb : ClassId) (ux0 : Int32) (ux2 : Int32) (ux3 : Int32) (h0 : Heap) (n0 : Nat) (v : Option Value) (h : Heap) (L : List Loc) : Prop := v = some (.int 81) ∧ Fr n0 L ∧ Keep h0 h []

theorem pn_rmCa4_81 : plainFor (⟨"java/lang/String", "charAt", "(I)C"⟩ : MethodName) = true := by first | exact plainFor_of_name (by first | (simp [plainName, overriddenIn]; done) | decide +kernel) | exact Jvm.Free.JP.mathPlain rfl (by decide +kernel) | decide +kernel
theorem ef_rmCa4_81 (m : MethodId) (x0 : Nat) (x1 : Int32) : entryFrame m #[(.ref x0), (.int x1)] 2 = mkF m 0 #[VR x0, VI x1] [] := by first | (simp [entryFrame, mkF, argsToLocals, Value.category]; done) | rfl
set_option maxRecDepth 65536 in
set_option maxHeartbeats 40000000 in
theorem rmCa4_81 (l : Launch) (Z : State) (a0 : Array Value) (hw : ∀ d ∈ tables_1, d.before a0 Z = true) (ws : List Jvm.Cond) (a_INPUT_BIT a_OUTPUT_BIT a_OUTPUT_WORD a_INPUT_WORD a_MEMORY_WORD p_INPUT_BIT v_INPUT_BIT p_OUTPUT_WORD v_OUTPUT_WORD p_OUTPUT_BIT v_OUTPUT_BIT p_MEMORY_WORD v_MEMORY_WORD p_INPUT_WORD v_INPUT_WORD a_DigitOnes : Nat) (k_INPUT_BIT : ClassId) (k_OUTPUT_WORD : ClassId) (k_OUTPUT_BIT : ClassId) (k_MEMORY_WORD : ClassId) (k_INPUT_WORD : ClassId) (ucs : Int32) (uff : Value) (ua : Nat) (ub : Nat) (kb : ClassId) (ux0 : Int32) (ux2 : Int32) (ux3 : Int32) (h0 : Heap) (n0 : Nat) (Z0 : n0 ≤ h0.size) (O0 : Old Z n0 h0) (HW : own_W Z Z.heap a_INPUT_BIT a_OUTPUT_BIT a_OUTPUT_WORD a_INPUT_WORD a_MEMORY_WORD p_INPUT_BIT v_INPUT_BIT p_OUTPUT_WORD v_OUTPUT_WORD p_OUTPUT_BIT v_OUTPUT_BIT p_MEMORY_WORD v_MEMORY_WORD p_INPUT_WORD v_INPUT_WORD a_DigitOnes k_INPUT_BIT k_OUTPUT_WORD k_OUTPUT_BIT k_MEMORY_WORD k_INPUT_WORD ucs uff) (E_ua : Exa Z h0 ua "java/lang/String") (F_ua_value : Fld Z h0 ua "java/lang/String" "value" "[B" (.ref ub)) (F_ua_coder : Fld Z h0 ua "java/lang/String" "coder" "B" (.int 0)) (V_ub : Arv Z h0 ub kb .byte (4 : Int32) [(.int ux0), (.int 81), (.int ux2), (.int ux3)] (.int 0))   :
    MetFree l (⟨"java/lang/String", "charAt", "(I)C"⟩ : MethodName) (head1 (Jvm.Cond.code (⟨"java/lang/String", "charAt", "(I)C"⟩ : MethodName) jdk_42_method_56_code 2 (some .char) :: ws) ({ frames := 3, cells := 0, slots := 0, locals := 40 } : Room)) (fun a U => a = #[(.ref ua), (.int 1)] ∧ Z.Warmed39 U.vm ∧ U.heap = h0) (fun _ _ _ _ _ => True) (fun _ U o U' => ∃ v L, o = .returned v ∧ (own_Q_rmCa4_81 Z ua ub kb ux0 ux2 ux3 h0 n0) v U'.heap L ∧ FrameEnd U o U' L 0 0) := by
  refine MetFree.of_bodySF pn_rmCa4_81 hisR ?_
  intro p e s m args below meth c s₁ Bd hml0 hP hK
  obtain ⟨rfl, hZ, hh⟩ := hP
  have hx := Bd.exec
  have hby := Bd.bytes
  have hml : c.maxLocals = 2 := hml0
  have hown : s.vm.findClass "java/lang/String" = some m.cls := findClass_of_methodNamed Bd.named
  have hnm := (name_of_methodNamed Bd.named Bd.method).1
  have hrt := Bd.returns
  have hlk := Bd.notSynchronized
  have X0 : Stand p l e ({ frames := 3, cells := 0, slots := 0, locals := 40 } : Room) s m #[(.ref ua), (.int 1)] below meth c s₁ [] 0 0 := Stand.of_body Bd
  have e0 : s₁.heap = h0 := by rw [← hh, Bd.state]; rfl
  have N0 := Fr.nil n0
  have K0 := Keep.refl h0 []
  have lt_E_ua := own_lt E_ua.lt
  have lt_V_ub := own_lt V_ub.lt
  have nl_ua_ub := own_lg (Exa.neArv E_ua V_ub (own_hw 134 hw rfl))
  refine own_done (B := s₁.setTop (mkF m 0 #[VR ua, VI 1] [])) (fun t k => castTop (ef_rmCa4_81 m ua (1 : Int32)) k) ?_
  refine own_by (B := s₁.setTop (mkF m 1 #[VR ua, VI 1] [(.ref ua)])) (fun _ k => XS.aloadN X0.here hx rfl (hb hby d32_0) rfl rfl  k) ?_
  obtain ⟨cq1, kq1, qa1, qb1, qc1⟩ := isOf hZ e0 E_ua
  obtain ⟨_, _, ⟨T1, L1, k1, n1⟩, -, X1, ⟨Lc1, hQ1, l1, y1, z1⟩, st1⟩ := X0.virtualBack hx (y := (⟨"java/lang/String", "isLatin1", "()Z"⟩ : MethodName)) (z := (⟨"java/lang/String", "isLatin1", "()Z"⟩ : MethodName)) hown (mvT hZ (own_hw 186 hw rfl)) (mvT hZ (own_hw 187 hw rfl)) (notFace_of_selects (args := #[]) (mvT hZ (own_hw 189 hw rfl))) (mvT hZ (own_hw 189 hw rfl)) (mvT hZ (own_hw 188 hw rfl)) (by decide) (backOf (W := 0) (rmSl4_81 l Z a0 hw [] a_INPUT_BIT a_OUTPUT_BIT a_OUTPUT_WORD a_INPUT_WORD a_MEMORY_WORD p_INPUT_BIT v_INPUT_BIT p_OUTPUT_WORD v_OUTPUT_WORD p_OUTPUT_BIT v_OUTPUT_BIT p_MEMORY_WORD v_MEMORY_WORD p_INPUT_WORD v_INPUT_WORD a_DigitOnes k_INPUT_BIT k_OUTPUT_WORD k_OUTPUT_BIT k_MEMORY_WORD k_INPUT_WORD ucs uff ua ub kb ux0 ux2 ux3 h0 n0 (own_old_le O0) O0 HW E_ua F_ua_value F_ua_coder V_ub) hZ (own_hw 190 hw rfl) (own_hw 51 hw rfl) (by decide) (by decide)) qa1 qc1 (g := (mkF m 1 #[VR ua, VI 1] [(.ref ua)])) rfl (by rw [hml]; rfl) (Steps.refl _) (argsL := []) (rest := []) (lenOf pd_32___Z rfl) rfl (by show 2 * 0 + _ ≤ _; exact Nat.le_of_eq rfl) (hb hby d32_1) (fun _ _ => ⟨rfl, e0, (by decide : 0 + 0 ≤ _), (by decide : 0 + 0 ≤ _)⟩)
  dsimp only [Pt.U, Pt.locs, Pt.cells, Pt.slots] at X1 l1 y1 z1 st1 hQ1
  subst l1 y1 z1
  obtain ⟨rfl, NC1, KC1⟩ := hQ1
  refine own_by (B := T1.setTop (mkF m 4 #[VR ua, VI 1] [(.int 1)])) (fun _ k => st1.trans k) ?_
  obtain ⟨h1, e1⟩ : ∃ z, T1.heap = z := ⟨_, rfl⟩
  rw [e1] at KC1
  have sz1 := KC1.1
  have O1 := O0.keep KC1 all0
  have K1 := K0.trans KC1 all0
  have N1 := Fr.app N0 NC1
  refine own_by (B := T1.setTop (mkF m 7 #[VR ua, VI 1] [])) (fun _ k => XS.ifNo X1.here hx rfl (hb hby d32_4) rfl (XT.i0_eq_f (by decide)) k) ?_
  refine own_by (B := T1.setTop (mkF m 8 #[VR ua, VI 1] [(.ref ua)])) (fun _ k => XS.aloadN X1.here hx rfl (hb hby d32_7) rfl rfl  k) ?_
  have c2 := (F_ua_value.keep KC1 nin0)
  obtain ⟨T3, X3, e3, st3⟩ := getF X1 hx hZ hown (host := "") (Or.inl (own_hw 74 hw rfl)) Via.refl e1 c2 (g := (mkF m 8 #[VR ua, VI 1] [(.ref ua)])) rfl rfl (hb hby d32_8)
  refine own_by (B := T3.setTop (mkF m 11 #[VR ua, VI 1] [(.ref ub)])) st3 ?_
  refine own_by (B := T3.setTop (mkF m 12 #[VR ua, VI 1] [(.int 1), (.ref ub)])) (fun _ k => XS.iloadN X3.here hx rfl (hb hby d32_11) rfl  k) ?_
  have c4 := (V_ub.keep KC1 nin0)
  obtain ⟨_, _, ⟨T5, L5, k5, n5⟩, -, X5, ⟨Lc5, hQ5, l5, y5, z5⟩, st5⟩ := Jvm.LawKit.callS X3 hx (y := (⟨"java/lang/StringLatin1", "charAt", "([BI)C"⟩ : MethodName)) hown (mvT hZ (own_hw 191 hw rfl)) (mvT hZ (own_hw 192 hw rfl)) (mvT hZ (own_hw 193 hw rfl)) (mvT hZ (own_hw 194 hw rfl)) (by decide) (backOf (W := 0) (rmLc4_81 l Z a0 hw [] a_INPUT_BIT a_OUTPUT_BIT a_OUTPUT_WORD a_INPUT_WORD a_MEMORY_WORD p_INPUT_BIT v_INPUT_BIT p_OUTPUT_WORD v_OUTPUT_WORD p_OUTPUT_BIT v_OUTPUT_BIT p_MEMORY_WORD v_MEMORY_WORD p_INPUT_WORD v_INPUT_WORD a_DigitOnes k_INPUT_BIT k_OUTPUT_WORD k_OUTPUT_BIT k_MEMORY_WORD k_INPUT_WORD ucs uff ub kb ux0 ux2 ux3 h1 n0 (own_old_le O1) O1 HW c4) hZ (own_hw 194 hw rfl) (own_hw 193 hw rfl) (by decide) (by decide)) (g := (mkF m 12 #[VR ua, VI 1] [(.int 1), (.ref ub)])) rfl (by rw [hml]; rfl) (argsL := [(.ref ub), (.int 1)]) (rest := []) (lenOf pd_32___BI_C rfl) rfl (by show 2 * 0 + _ ≤ _; exact Nat.le_of_eq rfl) (hb hby d32_12) (fun _ _ => ⟨rfl, e3, (by decide : 0 + 0 ≤ _), (by decide : 0 + 0 ≤ _)⟩)
  dsimp only [Pt.U, Pt.locs, Pt.cells, Pt.slots] at X5 l5 y5 z5 st5 hQ5
  subst l5 y5 z5
  obtain ⟨rfl, NC5, KC5⟩ := hQ5
  refine own_by (B := T5.setTop (mkF m 15 #[VR ua, VI 1] [(.int 81)])) st5 ?_
  obtain ⟨h5, e5⟩ : ∃ z, T5.heap = z := ⟨_, rfl⟩
  rw [e5] at KC5
  have sz5 := KC5.1
  have O5 := O1.keep KC5 all0
  have K5 := K1.trans KC5 all0
  have N5 := Fr.app N1 NC5
  exact own_retW X5 hx hrt hlk rfl (Or.inl ⟨rfl, by simp, _, rfl⟩) (hb hby d32_15) (by decide) (by decide) (by show own_Q_rmCa4_81 Z ua ub kb ux0 ux2 ux3 h0 n0 _ T5.heap _; rw [e5]; exact ⟨rfl, N5, K5⟩)

def own_Q_rmSl4_77 (Z : State) (ua : Nat) (ub : Nat) (kb : ClassId) (ux0 : Int32) (ux2 : Int32) (ux3 : Int32) (h0 : Heap) (n0 : Nat) (v : Option Value) (h : Heap) (L : List Loc) : Prop := v = some (.int 1) ∧ Fr n0 L ∧ Keep h0 h []

theorem pn_rmSl4_77 : plainFor (⟨"java/lang/String", "isLatin1", "()Z"⟩ : MethodName) = true := by first | exact plainFor_of_name (by first | (simp [plainName, overriddenIn]; done) | decide +kernel) | exact Jvm.Free.JP.mathPlain rfl (by decide +kernel) | decide +kernel
theorem ef_rmSl4_77 (m : MethodId) (x0 : Nat) : entryFrame m #[(.ref x0)] 1 = mkF m 0 #[VR x0] [] := by first | (simp [entryFrame, mkF, argsToLocals, Value.category]; done) | rfl
set_option maxRecDepth 65536 in
set_option maxHeartbeats 40000000 in
theorem rmSl4_77 (l : Launch) (Z : State) (a0 : Array Value) (hw : ∀ d ∈ tables_1, d.before a0 Z = true) (ws : List Jvm.Cond) (a_INPUT_BIT a_OUTPUT_BIT a_OUTPUT_WORD a_INPUT_WORD a_MEMORY_WORD p_INPUT_BIT v_INPUT_BIT p_OUTPUT_WORD v_OUTPUT_WORD p_OUTPUT_BIT v_OUTPUT_BIT p_MEMORY_WORD v_MEMORY_WORD p_INPUT_WORD v_INPUT_WORD a_DigitOnes : Nat) (k_INPUT_BIT : ClassId) (k_OUTPUT_WORD : ClassId) (k_OUTPUT_BIT : ClassId) (k_MEMORY_WORD : ClassId) (k_INPUT_WORD : ClassId) (ucs : Int32) (uff : Value) (ua : Nat) (ub : Nat) (kb : ClassId) (ux0 : Int32) (ux2 : Int32) (ux3 : Int32) (h0 : Heap) (n0 : Nat) (Z0 : n0 ≤ h0.size) (O0 : Old Z n0 h0) (HW : own_W Z Z.heap a_INPUT_BIT a_OUTPUT_BIT a_OUTPUT_WORD a_INPUT_WORD a_MEMORY_WORD p_INPUT_BIT v_INPUT_BIT p_OUTPUT_WORD v_OUTPUT_WORD p_OUTPUT_BIT v_OUTPUT_BIT p_MEMORY_WORD v_MEMORY_WORD p_INPUT_WORD v_INPUT_WORD a_DigitOnes k_INPUT_BIT k_OUTPUT_WORD k_OUTPUT_BIT k_MEMORY_WORD k_INPUT_WORD ucs uff) (E_ua : Exa Z h0 ua "java/lang/String") (F_ua_value : Fld Z h0 ua "java/lang/String" "value" "[B" (.ref ub)) (F_ua_coder : Fld Z h0 ua "java/lang/String" "coder" "B" (.int 0)) (V_ub : Arv Z h0 ub kb .byte (4 : Int32) [(.int ux0), (.int 77), (.int ux2), (.int ux3)] (.int 0))   :
    MetFree l (⟨"java/lang/String", "isLatin1", "()Z"⟩ : MethodName) (head1 (Jvm.Cond.code (⟨"java/lang/String", "isLatin1", "()Z"⟩ : MethodName) jdk_42_method_154_code 1 (some .boolean) :: ws) ({ frames := 0, cells := 0, slots := 0, locals := 0 } : Room)) (fun a U => a = #[(.ref ua)] ∧ Z.Warmed39 U.vm ∧ U.heap = h0) (fun _ _ _ _ _ => True) (fun _ U o U' => ∃ v L, o = .returned v ∧ (own_Q_rmSl4_77 Z ua ub kb ux0 ux2 ux3 h0 n0) v U'.heap L ∧ FrameEnd U o U' L 0 0) := by
  refine MetFree.of_bodySF pn_rmSl4_77 hisR ?_
  intro p e s m args below meth c s₁ Bd hml0 hP hK
  obtain ⟨rfl, hZ, hh⟩ := hP
  have hx := Bd.exec
  have hby := Bd.bytes
  have hml : c.maxLocals = 1 := hml0
  have hown : s.vm.findClass "java/lang/String" = some m.cls := findClass_of_methodNamed Bd.named
  have hnm := (name_of_methodNamed Bd.named Bd.method).1
  have hrt := Bd.returns
  have hlk := Bd.notSynchronized
  have X0 : Stand p l e ({ frames := 0, cells := 0, slots := 0, locals := 0 } : Room) s m #[(.ref ua)] below meth c s₁ [] 0 0 := Stand.of_body Bd
  have e0 : s₁.heap = h0 := by rw [← hh, Bd.state]; rfl
  have N0 := Fr.nil n0
  have K0 := Keep.refl h0 []
  have HW' := HW
  obtain ⟨-, -, -, -, -, -, -, -, -, -, -, -, -, -, -, -, -, -, -, -, -, -, -, -, -, -, -, -, -, -, -, -, -, -, -, -, -, -, -, -, S_CS, H_CS, -, -, -, -⟩ := HW'
  have lt_E_ua := own_lt E_ua.lt
  have lt_V_ub := own_lt V_ub.lt
  have nl_ua_ub := own_lg (Exa.neArv E_ua V_ub (own_hw 134 hw rfl))
  refine own_done (B := s₁.setTop (mkF m 0 #[VR ua] [])) (fun t k => castTop (ef_rmSl4_77 m ua) k) ?_
  obtain ⟨T1, X1, e1, st1⟩ := getS2 X0 hx hZ hown (host := "") (Or.inl (own_hw 81 hw rfl)) Via.refl e0 (S_CS.ext O0.2) (g := (mkF m 0 #[VR ua] [])) rfl (hb hby d33_0)
  refine own_by (B := T1.setTop (mkF m 3 #[VR ua] [(.int ucs)])) st1 ?_
  refine own_by (B := T1.setTop (mkF m 6 #[VR ua] [])) (fun _ k => XS.ifNo X1.here hx rfl (hb hby d33_3) rfl (XT.i0_eq_f H_CS) k) ?_
  refine own_by (B := T1.setTop (mkF m 7 #[VR ua] [(.ref ua)])) (fun _ k => XS.aloadN X1.here hx rfl (hb hby d33_6) rfl rfl  k) ?_
  obtain ⟨T2, X2, e2, st2⟩ := getF X1 hx hZ hown (host := "") (Or.inl (own_hw 82 hw rfl)) Via.refl e1 F_ua_coder (g := (mkF m 7 #[VR ua] [(.ref ua)])) rfl rfl (hb hby d33_7)
  refine own_by (B := T2.setTop (mkF m 10 #[VR ua] [(.int 0)])) st2 ?_
  refine own_by (B := T2.setTop (mkF m 13 #[VR ua] [])) (fun _ k => XS.ifNo X2.here hx rfl (hb hby d33_10) rfl (XT.i0_ne_f (by decide)) k) ?_
  refine own_by (B := T2.setTop (mkF m 14 #[VR ua] [(.int 1)])) (fun _ k => XS.iconst X2.here hx rfl (hb hby d33_13) k) ?_
  refine own_by (B := T2.setTop (mkF m 18 #[VR ua] [(.int 1)])) (fun _ k => XS.goto X2.here hx rfl (pc0 := 14) (pc' := 18) rfl (hb hby d33_14) (by decide) (by decide) k) ?_
  exact own_retZ X2 hx hrt hlk rfl (hb hby d33_18) (by decide) (by decide) (by show own_Q_rmSl4_77 Z ua ub kb ux0 ux2 ux3 h0 n0 _ T2.heap _; rw [e2]; exact ⟨rfl, N0, K0⟩)

def own_Q_rmLc4_77 (Z : State) (ub : Nat) (kb : ClassId) (ux0 : Int32) (ux2 : Int32) (ux3 : Int32) (h0 : Heap) (n0 : Nat) (v : Option Value) (h : Heap) (L : List Loc) : Prop := v = some (.int 77) ∧ Fr n0 L ∧ Keep h0 h []

theorem pn_rmLc4_77 : plainFor (⟨"java/lang/StringLatin1", "charAt", "([BI)C"⟩ : MethodName) = true := by first | exact plainFor_of_name (by first | (simp [plainName, overriddenIn]; done) | decide +kernel) | exact Jvm.Free.JP.mathPlain rfl (by decide +kernel) | decide +kernel
theorem ef_rmLc4_77 (m : MethodId) (x0 : Nat) (x1 : Int32) : entryFrame m #[(.ref x0), (.int x1)] 2 = mkF m 0 #[VR x0, VI x1] [] := by first | (simp [entryFrame, mkF, argsToLocals, Value.category]; done) | rfl
set_option maxRecDepth 65536 in
set_option maxHeartbeats 40000000 in
theorem rmLc4_77 (l : Launch) (Z : State) (a0 : Array Value) (hw : ∀ d ∈ tables_1, d.before a0 Z = true) (ws : List Jvm.Cond) (a_INPUT_BIT a_OUTPUT_BIT a_OUTPUT_WORD a_INPUT_WORD a_MEMORY_WORD p_INPUT_BIT v_INPUT_BIT p_OUTPUT_WORD v_OUTPUT_WORD p_OUTPUT_BIT v_OUTPUT_BIT p_MEMORY_WORD v_MEMORY_WORD p_INPUT_WORD v_INPUT_WORD a_DigitOnes : Nat) (k_INPUT_BIT : ClassId) (k_OUTPUT_WORD : ClassId) (k_OUTPUT_BIT : ClassId) (k_MEMORY_WORD : ClassId) (k_INPUT_WORD : ClassId) (ucs : Int32) (uff : Value) (ub : Nat) (kb : ClassId) (ux0 : Int32) (ux2 : Int32) (ux3 : Int32) (h0 : Heap) (n0 : Nat) (Z0 : n0 ≤ h0.size) (O0 : Old Z n0 h0) (HW : own_W Z Z.heap a_INPUT_BIT a_OUTPUT_BIT a_OUTPUT_WORD a_INPUT_WORD a_MEMORY_WORD p_INPUT_BIT v_INPUT_BIT p_OUTPUT_WORD v_OUTPUT_WORD p_OUTPUT_BIT v_OUTPUT_BIT p_MEMORY_WORD v_MEMORY_WORD p_INPUT_WORD v_INPUT_WORD a_DigitOnes k_INPUT_BIT k_OUTPUT_WORD k_OUTPUT_BIT k_MEMORY_WORD k_INPUT_WORD ucs uff) (V_ub : Arv Z h0 ub kb .byte (4 : Int32) [(.int ux0), (.int 77), (.int ux2), (.int ux3)] (.int 0))   :
    MetFree l (⟨"java/lang/StringLatin1", "charAt", "([BI)C"⟩ : MethodName) (head1 (Jvm.Cond.code (⟨"java/lang/StringLatin1", "charAt", "([BI)C"⟩ : MethodName) jdk_43_method_2_code 2 (some .char) :: ws) ({ frames := 2, cells := 0, slots := 0, locals := 27 } : Room)) (fun a U => a = #[(.ref ub), (.int 1)] ∧ Z.Warmed39 U.vm ∧ U.heap = h0) (fun _ _ _ _ _ => True) (fun _ U o U' => ∃ v L, o = .returned v ∧ (own_Q_rmLc4_77 Z ub kb ux0 ux2 ux3 h0 n0) v U'.heap L ∧ FrameEnd U o U' L 0 0) := by
  refine MetFree.of_bodySF pn_rmLc4_77 hisR ?_
  intro p e s m args below meth c s₁ Bd hml0 hP hK
  obtain ⟨rfl, hZ, hh⟩ := hP
  have hx := Bd.exec
  have hby := Bd.bytes
  have hml : c.maxLocals = 2 := hml0
  have hown : s.vm.findClass "java/lang/StringLatin1" = some m.cls := findClass_of_methodNamed Bd.named
  have hnm := (name_of_methodNamed Bd.named Bd.method).1
  have hrt := Bd.returns
  have hlk := Bd.notSynchronized
  have X0 : Stand p l e ({ frames := 2, cells := 0, slots := 0, locals := 27 } : Room) s m #[(.ref ub), (.int 1)] below meth c s₁ [] 0 0 := Stand.of_body Bd
  have e0 : s₁.heap = h0 := by rw [← hh, Bd.state]; rfl
  have N0 := Fr.nil n0
  have K0 := Keep.refl h0 []
  have lt_V_ub := own_lt V_ub.lt
  refine own_done (B := s₁.setTop (mkF m 0 #[VR ub, VI 1] [])) (fun t k => castTop (ef_rmLc4_77 m ub (1 : Int32)) k) ?_
  refine own_by (B := s₁.setTop (mkF m 1 #[VR ub, VI 1] [(.int 1)])) (fun _ k => XS.iloadN X0.here hx rfl (hb hby d34_0) rfl  k) ?_
  refine own_by (B := s₁.setTop (mkF m 2 #[VR ub, VI 1] [(.ref ub), (.int 1)])) (fun _ k => XS.aloadN X0.here hx rfl (hb hby d34_1) rfl rfl  k) ?_
  obtain ⟨cl1, Ar1, qq1, Sz1, Nn1, Hh1, Gg1⟩ := id (V_ub)
  refine own_by (B := s₁.setTop (mkF m 3 #[VR ub, VI 1] [(.int 4), (.int 1)])) (fun t k => X0.arraylength hx (by rw [e0]; exact Ar1.1) (State.isArrayOf_alike hZ.alike Ar1.2.1) (g := (mkF m 2 #[VR ub, VI 1] [(.ref ub), (.int 1)])) rfl rfl (hb hby d34_2) t (by rw [len_of Sz1 Nn1]; exact k)) ?_
  obtain ⟨_, _, ⟨T2, L2, k2, n2⟩, -, X2, ⟨Lc2, hQ2, l2, y2, z2⟩, st2⟩ := Jvm.LawKit.callS X0 hx (y := (⟨"java/lang/String", "checkIndex", "(II)V"⟩ : MethodName)) hown (mvT hZ (own_hw 195 hw rfl)) (mvT hZ (own_hw 196 hw rfl)) (mvT hZ (own_hw 51 hw rfl)) (mvT hZ (own_hw 197 hw rfl)) (by decide) (backOf (W := 0) (rmCi4 l Z a0 hw [] a_INPUT_BIT a_OUTPUT_BIT a_OUTPUT_WORD a_INPUT_WORD a_MEMORY_WORD p_INPUT_BIT v_INPUT_BIT p_OUTPUT_WORD v_OUTPUT_WORD p_OUTPUT_BIT v_OUTPUT_BIT p_MEMORY_WORD v_MEMORY_WORD p_INPUT_WORD v_INPUT_WORD a_DigitOnes k_INPUT_BIT k_OUTPUT_WORD k_OUTPUT_BIT k_MEMORY_WORD k_INPUT_WORD ucs uff  h0 n0 (own_old_le O0) O0 HW ) hZ (own_hw 197 hw rfl) (own_hw 51 hw rfl) (by decide) (by decide)) (g := (mkF m 3 #[VR ub, VI 1] [(.int 4), (.int 1)])) rfl (by rw [hml]; rfl) (argsL := [(.int 1), (.int 4)]) (rest := []) (lenOf pd_34__II_V rfl) rfl (by show 2 * 0 + _ ≤ _; exact Nat.le_of_eq rfl) (hb hby d34_3) (fun _ _ => ⟨rfl, e0, (by decide : 0 + 0 ≤ _), (by decide : 0 + 0 ≤ _)⟩)
  dsimp only [Pt.U, Pt.locs, Pt.cells, Pt.slots] at X2 l2 y2 z2 st2 hQ2
  subst l2 y2 z2
  obtain ⟨rfl, NC2, KC2⟩ := hQ2
  refine own_by (B := T2.setTop (mkF m 6 #[VR ub, VI 1] [])) st2 ?_
  obtain ⟨h2, e2⟩ : ∃ z, T2.heap = z := ⟨_, rfl⟩
  rw [e2] at KC2
  have sz2 := KC2.1
  have O2 := O0.keep KC2 all0
  have K2 := K0.trans KC2 all0
  have N2 := Fr.app N0 NC2
  refine own_by (B := T2.setTop (mkF m 7 #[VR ub, VI 1] [(.ref ub)])) (fun _ k => XS.aloadN X2.here hx rfl (hb hby d34_6) rfl rfl  k) ?_
  refine own_by (B := T2.setTop (mkF m 8 #[VR ub, VI 1] [(.int 1), (.ref ub)])) (fun _ k => XS.iloadN X2.here hx rfl (hb hby d34_7) rfl  k) ?_
  have c3 := (V_ub.keep KC2 nin0)
  obtain ⟨cl4, Ar4, qq4, Sz4, Nn4, Hh4, Gg4⟩ := id (c3)
  have hin4 : ¬ ((1 : Int32) < 0 ∨ cl4.slots.size ≤ ((1 : Int32)).toNatClampNeg) := inb_of Sz4 ⟨by decide, by decide⟩
  refine own_by (B := T2.setTop (mkF m 9 #[VR ub, VI 1] [(.int 77)])) (fun t k => X2.baloadBytes hx (j := (1 : Int32)) (v := (.int 77)) (by rw [e2]; exact Ar4.1) (State.isArrayOf_alike hZ.alike Ar4.2.1) Ar4.2.2 hin4 (Hh4.at hin4 rfl) (g := (mkF m 8 #[VR ub, VI 1] [(.int 1), (.ref ub)])) rfl rfl (hb hby d34_8) t k) ?_
  refine own_by (B := T2.setTop (mkF m 12 #[VR ub, VI 1] [(.int 255), (.int 77)])) (fun _ k => XS.sipush X2.here hx rfl (hb hby d34_9) k) ?_
  refine own_by (B := T2.setTop (mkF m 13 #[VR ub, VI 1] [(.int 77)])) (fun _ k => XS.iand X2.here hx rfl (hb hby d34_12) rfl k) ?_
  refine own_by (B := T2.setTop (mkF m 14 #[VR ub, VI 1] [(.int 77)])) (fun _ k => XT.i2c X2.here hx rfl (hb hby d34_13) rfl k) ?_
  exact own_retW X2 hx hrt hlk rfl (Or.inl ⟨rfl, by simp, _, rfl⟩) (hb hby d34_14) (by decide) (by decide) (by show own_Q_rmLc4_77 Z ub kb ux0 ux2 ux3 h0 n0 _ T2.heap _; rw [e2]; exact ⟨rfl, N2, K2⟩)

def own_Q_rmCa4_77 (Z : State) (ua : Nat) (ub : Nat) (kb : ClassId) (ux0 : Int32) (ux2 : Int32) (ux3 : Int32) (h0 : Heap) (n0 : Nat) (v : Option Value) (h : Heap) (L : List Loc) : Prop := v = some (.int 77) ∧ Fr n0 L ∧ Keep h0 h []

theorem pn_rmCa4_77 : plainFor (⟨"java/lang/String", "charAt", "(I)C"⟩ : MethodName) = true := by first | exact plainFor_of_name (by first | (simp [plainName, overriddenIn]; done) | decide +kernel) | exact Jvm.Free.JP.mathPlain rfl (by decide +kernel) | decide +kernel
theorem ef_rmCa4_77 (m : MethodId) (x0 : Nat) (x1 : Int32) : entryFrame m #[(.ref x0), (.int x1)] 2 = mkF m 0 #[VR x0, VI x1] [] := by first | (simp [entryFrame, mkF, argsToLocals, Value.category]; done) | rfl
set_option maxRecDepth 65536 in
set_option maxHeartbeats 40000000 in
theorem rmCa4_77 (l : Launch) (Z : State) (a0 : Array Value) (hw : ∀ d ∈ tables_1, d.before a0 Z = true) (ws : List Jvm.Cond) (a_INPUT_BIT a_OUTPUT_BIT a_OUTPUT_WORD a_INPUT_WORD a_MEMORY_WORD p_INPUT_BIT v_INPUT_BIT p_OUTPUT_WORD v_OUTPUT_WORD p_OUTPUT_BIT v_OUTPUT_BIT p_MEMORY_WORD v_MEMORY_WORD p_INPUT_WORD v_INPUT_WORD a_DigitOnes : Nat) (k_INPUT_BIT : ClassId) (k_OUTPUT_WORD : ClassId) (k_OUTPUT_BIT : ClassId) (k_MEMORY_WORD : ClassId) (k_INPUT_WORD : ClassId) (ucs : Int32) (uff : Value) (ua : Nat) (ub : Nat) (kb : ClassId) (ux0 : Int32) (ux2 : Int32) (ux3 : Int32) (h0 : Heap) (n0 : Nat) (Z0 : n0 ≤ h0.size) (O0 : Old Z n0 h0) (HW : own_W Z Z.heap a_INPUT_BIT a_OUTPUT_BIT a_OUTPUT_WORD a_INPUT_WORD a_MEMORY_WORD p_INPUT_BIT v_INPUT_BIT p_OUTPUT_WORD v_OUTPUT_WORD p_OUTPUT_BIT v_OUTPUT_BIT p_MEMORY_WORD v_MEMORY_WORD p_INPUT_WORD v_INPUT_WORD a_DigitOnes k_INPUT_BIT k_OUTPUT_WORD k_OUTPUT_BIT k_MEMORY_WORD k_INPUT_WORD ucs uff) (E_ua : Exa Z h0 ua "java/lang/String") (F_ua_value : Fld Z h0 ua "java/lang/String" "value" "[B" (.ref ub)) (F_ua_coder : Fld Z h0 ua "java/lang/String" "coder" "B" (.int 0)) (V_ub : Arv Z h0 ub kb .byte (4 : Int32) [(.int ux0), (.int 77), (.int ux2), (.int ux3)] (.int 0))   :
    MetFree l (⟨"java/lang/String", "charAt", "(I)C"⟩ : MethodName) (head1 (Jvm.Cond.code (⟨"java/lang/String", "charAt", "(I)C"⟩ : MethodName) jdk_42_method_56_code 2 (some .char) :: ws) ({ frames := 3, cells := 0, slots := 0, locals := 40 } : Room)) (fun a U => a = #[(.ref ua), (.int 1)] ∧ Z.Warmed39 U.vm ∧ U.heap = h0) (fun _ _ _ _ _ => True) (fun _ U o U' => ∃ v L, o = .returned v ∧ (own_Q_rmCa4_77 Z ua ub kb ux0 ux2 ux3 h0 n0) v U'.heap L ∧ FrameEnd U o U' L 0 0) := by
  refine MetFree.of_bodySF pn_rmCa4_77 hisR ?_
  intro p e s m args below meth c s₁ Bd hml0 hP hK
  obtain ⟨rfl, hZ, hh⟩ := hP
  have hx := Bd.exec
  have hby := Bd.bytes
  have hml : c.maxLocals = 2 := hml0
  have hown : s.vm.findClass "java/lang/String" = some m.cls := findClass_of_methodNamed Bd.named
  have hnm := (name_of_methodNamed Bd.named Bd.method).1
  have hrt := Bd.returns
  have hlk := Bd.notSynchronized
  have X0 : Stand p l e ({ frames := 3, cells := 0, slots := 0, locals := 40 } : Room) s m #[(.ref ua), (.int 1)] below meth c s₁ [] 0 0 := Stand.of_body Bd
  have e0 : s₁.heap = h0 := by rw [← hh, Bd.state]; rfl
  have N0 := Fr.nil n0
  have K0 := Keep.refl h0 []
  have lt_E_ua := own_lt E_ua.lt
  have lt_V_ub := own_lt V_ub.lt
  have nl_ua_ub := own_lg (Exa.neArv E_ua V_ub (own_hw 134 hw rfl))
  refine own_done (B := s₁.setTop (mkF m 0 #[VR ua, VI 1] [])) (fun t k => castTop (ef_rmCa4_77 m ua (1 : Int32)) k) ?_
  refine own_by (B := s₁.setTop (mkF m 1 #[VR ua, VI 1] [(.ref ua)])) (fun _ k => XS.aloadN X0.here hx rfl (hb hby d32_0) rfl rfl  k) ?_
  obtain ⟨cq1, kq1, qa1, qb1, qc1⟩ := isOf hZ e0 E_ua
  obtain ⟨_, _, ⟨T1, L1, k1, n1⟩, -, X1, ⟨Lc1, hQ1, l1, y1, z1⟩, st1⟩ := X0.virtualBack hx (y := (⟨"java/lang/String", "isLatin1", "()Z"⟩ : MethodName)) (z := (⟨"java/lang/String", "isLatin1", "()Z"⟩ : MethodName)) hown (mvT hZ (own_hw 186 hw rfl)) (mvT hZ (own_hw 187 hw rfl)) (notFace_of_selects (args := #[]) (mvT hZ (own_hw 189 hw rfl))) (mvT hZ (own_hw 189 hw rfl)) (mvT hZ (own_hw 188 hw rfl)) (by decide) (backOf (W := 0) (rmSl4_77 l Z a0 hw [] a_INPUT_BIT a_OUTPUT_BIT a_OUTPUT_WORD a_INPUT_WORD a_MEMORY_WORD p_INPUT_BIT v_INPUT_BIT p_OUTPUT_WORD v_OUTPUT_WORD p_OUTPUT_BIT v_OUTPUT_BIT p_MEMORY_WORD v_MEMORY_WORD p_INPUT_WORD v_INPUT_WORD a_DigitOnes k_INPUT_BIT k_OUTPUT_WORD k_OUTPUT_BIT k_MEMORY_WORD k_INPUT_WORD ucs uff ua ub kb ux0 ux2 ux3 h0 n0 (own_old_le O0) O0 HW E_ua F_ua_value F_ua_coder V_ub) hZ (own_hw 190 hw rfl) (own_hw 51 hw rfl) (by decide) (by decide)) qa1 qc1 (g := (mkF m 1 #[VR ua, VI 1] [(.ref ua)])) rfl (by rw [hml]; rfl) (Steps.refl _) (argsL := []) (rest := []) (lenOf pd_32___Z rfl) rfl (by show 2 * 0 + _ ≤ _; exact Nat.le_of_eq rfl) (hb hby d32_1) (fun _ _ => ⟨rfl, e0, (by decide : 0 + 0 ≤ _), (by decide : 0 + 0 ≤ _)⟩)
  dsimp only [Pt.U, Pt.locs, Pt.cells, Pt.slots] at X1 l1 y1 z1 st1 hQ1
  subst l1 y1 z1
  obtain ⟨rfl, NC1, KC1⟩ := hQ1
  refine own_by (B := T1.setTop (mkF m 4 #[VR ua, VI 1] [(.int 1)])) (fun _ k => st1.trans k) ?_
  obtain ⟨h1, e1⟩ : ∃ z, T1.heap = z := ⟨_, rfl⟩
  rw [e1] at KC1
  have sz1 := KC1.1
  have O1 := O0.keep KC1 all0
  have K1 := K0.trans KC1 all0
  have N1 := Fr.app N0 NC1
  refine own_by (B := T1.setTop (mkF m 7 #[VR ua, VI 1] [])) (fun _ k => XS.ifNo X1.here hx rfl (hb hby d32_4) rfl (XT.i0_eq_f (by decide)) k) ?_
  refine own_by (B := T1.setTop (mkF m 8 #[VR ua, VI 1] [(.ref ua)])) (fun _ k => XS.aloadN X1.here hx rfl (hb hby d32_7) rfl rfl  k) ?_
  have c2 := (F_ua_value.keep KC1 nin0)
  obtain ⟨T3, X3, e3, st3⟩ := getF X1 hx hZ hown (host := "") (Or.inl (own_hw 74 hw rfl)) Via.refl e1 c2 (g := (mkF m 8 #[VR ua, VI 1] [(.ref ua)])) rfl rfl (hb hby d32_8)
  refine own_by (B := T3.setTop (mkF m 11 #[VR ua, VI 1] [(.ref ub)])) st3 ?_
  refine own_by (B := T3.setTop (mkF m 12 #[VR ua, VI 1] [(.int 1), (.ref ub)])) (fun _ k => XS.iloadN X3.here hx rfl (hb hby d32_11) rfl  k) ?_
  have c4 := (V_ub.keep KC1 nin0)
  obtain ⟨_, _, ⟨T5, L5, k5, n5⟩, -, X5, ⟨Lc5, hQ5, l5, y5, z5⟩, st5⟩ := Jvm.LawKit.callS X3 hx (y := (⟨"java/lang/StringLatin1", "charAt", "([BI)C"⟩ : MethodName)) hown (mvT hZ (own_hw 191 hw rfl)) (mvT hZ (own_hw 192 hw rfl)) (mvT hZ (own_hw 193 hw rfl)) (mvT hZ (own_hw 194 hw rfl)) (by decide) (backOf (W := 0) (rmLc4_77 l Z a0 hw [] a_INPUT_BIT a_OUTPUT_BIT a_OUTPUT_WORD a_INPUT_WORD a_MEMORY_WORD p_INPUT_BIT v_INPUT_BIT p_OUTPUT_WORD v_OUTPUT_WORD p_OUTPUT_BIT v_OUTPUT_BIT p_MEMORY_WORD v_MEMORY_WORD p_INPUT_WORD v_INPUT_WORD a_DigitOnes k_INPUT_BIT k_OUTPUT_WORD k_OUTPUT_BIT k_MEMORY_WORD k_INPUT_WORD ucs uff ub kb ux0 ux2 ux3 h1 n0 (own_old_le O1) O1 HW c4) hZ (own_hw 194 hw rfl) (own_hw 193 hw rfl) (by decide) (by decide)) (g := (mkF m 12 #[VR ua, VI 1] [(.int 1), (.ref ub)])) rfl (by rw [hml]; rfl) (argsL := [(.ref ub), (.int 1)]) (rest := []) (lenOf pd_32___BI_C rfl) rfl (by show 2 * 0 + _ ≤ _; exact Nat.le_of_eq rfl) (hb hby d32_12) (fun _ _ => ⟨rfl, e3, (by decide : 0 + 0 ≤ _), (by decide : 0 + 0 ≤ _)⟩)
  dsimp only [Pt.U, Pt.locs, Pt.cells, Pt.slots] at X5 l5 y5 z5 st5 hQ5
  subst l5 y5 z5
  obtain ⟨rfl, NC5, KC5⟩ := hQ5
  refine own_by (B := T5.setTop (mkF m 15 #[VR ua, VI 1] [(.int 77)])) st5 ?_
  obtain ⟨h5, e5⟩ : ∃ z, T5.heap = z := ⟨_, rfl⟩
  rw [e5] at KC5
  have sz5 := KC5.1
  have O5 := O1.keep KC5 all0
  have K5 := K1.trans KC5 all0
  have N5 := Fr.app N1 NC5
  exact own_retW X5 hx hrt hlk rfl (Or.inl ⟨rfl, by simp, _, rfl⟩) (hb hby d32_15) (by decide) (by decide) (by show own_Q_rmCa4_77 Z ua ub kb ux0 ux2 ux3 h0 n0 _ T5.heap _; rw [e5]; exact ⟨rfl, N5, K5⟩)

def own_pick (uj : Int32) (a_INPUT_BIT : Nat) (a_OUTPUT_BIT : Nat) (a_INPUT_WORD : Nat) (a_OUTPUT_WORD : Nat) (a_MEMORY_WORD : Nat) : Nat := if uj = (0 : Int32) then a_INPUT_BIT else if uj = (1 : Int32) then a_OUTPUT_BIT else if uj = (2 : Int32) then a_INPUT_WORD else if uj = (3 : Int32) then a_OUTPUT_WORD else a_MEMORY_WORD

theorem d1_0 : decode method_2_code 0 = .ok (.iload_n 0, 1) := by decide +kernel
theorem d1_1 : decode method_2_code 1 = .ok (.ifCond .ne 7, 3) := by decide +kernel
theorem d1_4 : decode method_2_code 4 = .ok (.getstatic 7, 3) := by decide +kernel
theorem d1_7 : decode method_2_code 7 = .ok (.areturn, 1) := by decide +kernel
theorem d1_8 : decode method_2_code 8 = .ok (.iload_n 0, 1) := by decide +kernel
theorem d1_9 : decode method_2_code 9 = .ok (.iconst 1, 1) := by decide +kernel
theorem d1_10 : decode method_2_code 10 = .ok (.if_icmp .ne 7, 3) := by decide +kernel
theorem d1_13 : decode method_2_code 13 = .ok (.getstatic 13, 3) := by decide +kernel
theorem d1_16 : decode method_2_code 16 = .ok (.areturn, 1) := by decide +kernel
theorem d1_17 : decode method_2_code 17 = .ok (.iload_n 0, 1) := by decide +kernel
theorem d1_18 : decode method_2_code 18 = .ok (.iconst 2, 1) := by decide +kernel
theorem d1_19 : decode method_2_code 19 = .ok (.if_icmp .ne 7, 3) := by decide +kernel
theorem d1_22 : decode method_2_code 22 = .ok (.getstatic 16, 3) := by decide +kernel
theorem d1_25 : decode method_2_code 25 = .ok (.areturn, 1) := by decide +kernel
theorem d1_26 : decode method_2_code 26 = .ok (.iload_n 0, 1) := by decide +kernel
theorem d1_27 : decode method_2_code 27 = .ok (.iconst 3, 1) := by decide +kernel
theorem d1_28 : decode method_2_code 28 = .ok (.if_icmp .ne 7, 3) := by decide +kernel
theorem d1_31 : decode method_2_code 31 = .ok (.getstatic 19, 3) := by decide +kernel
theorem d1_34 : decode method_2_code 34 = .ok (.areturn, 1) := by decide +kernel
theorem d1_35 : decode method_2_code 35 = .ok (.getstatic 22, 3) := by decide +kernel
theorem d1_38 : decode method_2_code 38 = .ok (.areturn, 1) := by decide +kernel
theorem pn_rm_pick : plainFor (⟨"com/example/hotrung/hotrung/image/AreaIsOutputPinLaw", "pick", "(I)Lcom/example/hotrung/hotrung/image/Address$Area;"⟩ : MethodName) = true := by first | exact plainFor_of_name (by first | (simp [plainName, overriddenIn]; done) | decide +kernel) | exact Jvm.Free.JP.mathPlain rfl (by decide +kernel) | decide +kernel
theorem ef_rm_pick (m : MethodId) (x0 : Int32) : entryFrame m #[(.int x0)] 1 = mkF m 0 #[VI x0] [] := by first | (simp [entryFrame, mkF, argsToLocals, Value.category]; done) | rfl
set_option maxRecDepth 65536 in
set_option maxHeartbeats 40000000 in
theorem rm_pick (l : Launch) (Z : State) (a0 : Array Value) (hw : ∀ d ∈ tables_1, d.before a0 Z = true) (ws : List Jvm.Cond) (a_INPUT_BIT a_OUTPUT_BIT a_OUTPUT_WORD a_INPUT_WORD a_MEMORY_WORD p_INPUT_BIT v_INPUT_BIT p_OUTPUT_WORD v_OUTPUT_WORD p_OUTPUT_BIT v_OUTPUT_BIT p_MEMORY_WORD v_MEMORY_WORD p_INPUT_WORD v_INPUT_WORD a_DigitOnes : Nat) (k_INPUT_BIT : ClassId) (k_OUTPUT_WORD : ClassId) (k_OUTPUT_BIT : ClassId) (k_MEMORY_WORD : ClassId) (k_INPUT_WORD : ClassId) (ucs : Int32) (uff : Value) (uj : Int32) (h0 : Heap) (n0 : Nat) (Z0 : n0 ≤ h0.size) (O0 : Old Z n0 h0) (HW : own_W Z Z.heap a_INPUT_BIT a_OUTPUT_BIT a_OUTPUT_WORD a_INPUT_WORD a_MEMORY_WORD p_INPUT_BIT v_INPUT_BIT p_OUTPUT_WORD v_OUTPUT_WORD p_OUTPUT_BIT v_OUTPUT_BIT p_MEMORY_WORD v_MEMORY_WORD p_INPUT_WORD v_INPUT_WORD a_DigitOnes k_INPUT_BIT k_OUTPUT_WORD k_OUTPUT_BIT k_MEMORY_WORD k_INPUT_WORD ucs uff) :
    MetFree l (⟨"com/example/hotrung/hotrung/image/AreaIsOutputPinLaw", "pick", "(I)Lcom/example/hotrung/hotrung/image/Address$Area;"⟩ : MethodName) (head1 (Jvm.Cond.code (⟨"com/example/hotrung/hotrung/image/AreaIsOutputPinLaw", "pick", "(I)Lcom/example/hotrung/hotrung/image/Address$Area;"⟩ : MethodName) method_2_code 1 (some (.object "com/example/hotrung/hotrung/image/Address$Area")) :: ws) ({ frames := 0, cells := 0, slots := 0, locals := 0 } : Room)) (fun a U => a = #[(.int uj)] ∧ Z.Warmed39 U.vm ∧ U.heap = h0) (fun _ _ _ _ _ => True) (fun _ U o U' => ∃ v L, o = .returned v ∧ (own_P (.ref (own_pick uj a_INPUT_BIT a_OUTPUT_BIT a_INPUT_WORD a_OUTPUT_WORD a_MEMORY_WORD)) h0 n0) v U'.heap L ∧ FrameEnd U o U' L 0 0) := by
  refine MetFree.of_bodySF pn_rm_pick hisR ?_
  intro p e s m args below meth c s₁ Bd hml0 hP hK
  obtain ⟨rfl, hZ, hh⟩ := hP
  have hx := Bd.exec
  have hby := Bd.bytes
  have hml : c.maxLocals = 1 := hml0
  have hown : s.vm.findClass "com/example/hotrung/hotrung/image/AreaIsOutputPinLaw" = some m.cls := findClass_of_methodNamed Bd.named
  have hnm := (name_of_methodNamed Bd.named Bd.method).1
  have hrt := Bd.returns
  have hlk := Bd.notSynchronized
  have X0 : Stand p l e ({ frames := 0, cells := 0, slots := 0, locals := 0 } : Room) s m #[(.int uj)] below meth c s₁ [] 0 0 := Stand.of_body Bd
  have e0 : s₁.heap = h0 := by rw [← hh, Bd.state]; rfl
  have N0 := Fr.nil n0
  have HW' := HW
  obtain ⟨S_INPUT_BIT, -, S_OUTPUT_BIT, -, S_OUTPUT_WORD, -, S_INPUT_WORD, -, S_MEMORY_WORD, -, -, -, -, -, -, -, -, -, -, -, -, -, -, -, -, -, -, -, -, -, -, -, -, -, -, -, -, -, -, -, -, -, -, -, -, -⟩ := HW'
  refine own_done (B := s₁.setTop (mkF m 0 #[VI uj] [])) (fun t k => castTop (ef_rm_pick m uj) k) ?_
  refine own_by (B := s₁.setTop (mkF m 1 #[VI uj] [(.int uj)])) (fun _ k => XS.iloadN X0.here hx rfl (hb hby d1_0) rfl  k) ?_
  by_cases hc1 : uj = (0 : Int32)
  · refine own_by (B := s₁.setTop (mkF m 4 #[VI uj] [])) (fun _ k => XS.ifNo X0.here hx rfl (hb hby d1_1) rfl (XT.i0_ne_f hc1) k) ?_
    obtain ⟨T2, X2, e2, st2⟩ := getS2 X0 hx hZ hown (host := "") (Or.inl (own_hw 5 hw rfl)) Via.refl e0 (S_INPUT_BIT.ext O0.2) (g := (mkF m 4 #[VI uj] [])) rfl (hb hby d1_4)
    refine own_by (B := T2.setTop (mkF m 7 #[VI uj] [(.ref a_INPUT_BIT)])) st2 ?_
    exact own_retA X2 hx hrt rfl rfl hlk (hb hby d1_7) (by decide) (by decide) ⟨(by unfold own_pick; rw [if_pos hc1]), N0, e2⟩
  · refine own_by (B := s₁.setTop (mkF m 8 #[VI uj] [])) (fun _ k => XS.ifYes X0.here hx rfl (pc0 := 1) (pc' := 8) rfl (hb hby d1_1) rfl (XT.i0_ne_t hc1) (by decide) (by decide) k) ?_
    refine own_by (B := s₁.setTop (mkF m 9 #[VI uj] [(.int uj)])) (fun _ k => XS.iloadN X0.here hx rfl (hb hby d1_8) rfl  k) ?_
    refine own_by (B := s₁.setTop (mkF m 10 #[VI uj] [(.int 1), (.int uj)])) (fun _ k => XS.iconst X0.here hx rfl (hb hby d1_9) k) ?_
    by_cases hc3 : uj = (1 : Int32)
    · refine own_by (B := s₁.setTop (mkF m 13 #[VI uj] [])) (fun _ k => XS.icmpNo X0.here hx rfl (hb hby d1_10) rfl (XT.ii_ne_f hc3) k) ?_
      obtain ⟨T4, X4, e4, st4⟩ := getS2 X0 hx hZ hown (host := "") (Or.inl (own_hw 220 hw rfl)) Via.refl e0 (S_OUTPUT_BIT.ext O0.2) (g := (mkF m 13 #[VI uj] [])) rfl (hb hby d1_13)
      refine own_by (B := T4.setTop (mkF m 16 #[VI uj] [(.ref a_OUTPUT_BIT)])) st4 ?_
      exact own_retA X4 hx hrt rfl rfl hlk (hb hby d1_16) (by decide) (by decide) ⟨(by unfold own_pick; rw [if_neg hc1, if_pos hc3]), N0, e4⟩
    · refine own_by (B := s₁.setTop (mkF m 17 #[VI uj] [])) (fun _ k => XS.icmpYes X0.here hx rfl (pc0 := 10) (pc' := 17) rfl (hb hby d1_10) rfl (XT.ii_ne_t hc3) (by decide) (by decide) k) ?_
      refine own_by (B := s₁.setTop (mkF m 18 #[VI uj] [(.int uj)])) (fun _ k => XS.iloadN X0.here hx rfl (hb hby d1_17) rfl  k) ?_
      refine own_by (B := s₁.setTop (mkF m 19 #[VI uj] [(.int 2), (.int uj)])) (fun _ k => XS.iconst X0.here hx rfl (hb hby d1_18) k) ?_
      by_cases hc5 : uj = (2 : Int32)
      · refine own_by (B := s₁.setTop (mkF m 22 #[VI uj] [])) (fun _ k => XS.icmpNo X0.here hx rfl (hb hby d1_19) rfl (XT.ii_ne_f hc5) k) ?_
        obtain ⟨T6, X6, e6, st6⟩ := getS2 X0 hx hZ hown (host := "") (Or.inl (own_hw 223 hw rfl)) Via.refl e0 (S_INPUT_WORD.ext O0.2) (g := (mkF m 22 #[VI uj] [])) rfl (hb hby d1_22)
        refine own_by (B := T6.setTop (mkF m 25 #[VI uj] [(.ref a_INPUT_WORD)])) st6 ?_
        exact own_retA X6 hx hrt rfl rfl hlk (hb hby d1_25) (by decide) (by decide) ⟨(by unfold own_pick; rw [if_neg hc1, if_neg hc3, if_pos hc5]), N0, e6⟩
      · refine own_by (B := s₁.setTop (mkF m 26 #[VI uj] [])) (fun _ k => XS.icmpYes X0.here hx rfl (pc0 := 19) (pc' := 26) rfl (hb hby d1_19) rfl (XT.ii_ne_t hc5) (by decide) (by decide) k) ?_
        refine own_by (B := s₁.setTop (mkF m 27 #[VI uj] [(.int uj)])) (fun _ k => XS.iloadN X0.here hx rfl (hb hby d1_26) rfl  k) ?_
        refine own_by (B := s₁.setTop (mkF m 28 #[VI uj] [(.int 3), (.int uj)])) (fun _ k => XS.iconst X0.here hx rfl (hb hby d1_27) k) ?_
        by_cases hc7 : uj = (3 : Int32)
        · refine own_by (B := s₁.setTop (mkF m 31 #[VI uj] [])) (fun _ k => XS.icmpNo X0.here hx rfl (hb hby d1_28) rfl (XT.ii_ne_f hc7) k) ?_
          obtain ⟨T8, X8, e8, st8⟩ := getS2 X0 hx hZ hown (host := "") (Or.inl (own_hw 212 hw rfl)) Via.refl e0 (S_OUTPUT_WORD.ext O0.2) (g := (mkF m 31 #[VI uj] [])) rfl (hb hby d1_31)
          refine own_by (B := T8.setTop (mkF m 34 #[VI uj] [(.ref a_OUTPUT_WORD)])) st8 ?_
          exact own_retA X8 hx hrt rfl rfl hlk (hb hby d1_34) (by decide) (by decide) ⟨(by unfold own_pick; rw [if_neg hc1, if_neg hc3, if_neg hc5, if_pos hc7]), N0, e8⟩
        · refine own_by (B := s₁.setTop (mkF m 35 #[VI uj] [])) (fun _ k => XS.icmpYes X0.here hx rfl (pc0 := 28) (pc' := 35) rfl (hb hby d1_28) rfl (XT.ii_ne_t hc7) (by decide) (by decide) k) ?_
          obtain ⟨T9, X9, e9, st9⟩ := getS2 X0 hx hZ hown (host := "") (Or.inl (own_hw 221 hw rfl)) Via.refl e0 (S_MEMORY_WORD.ext O0.2) (g := (mkF m 35 #[VI uj] [])) rfl (hb hby d1_35)
          refine own_by (B := T9.setTop (mkF m 38 #[VI uj] [(.ref a_MEMORY_WORD)])) st9 ?_
          exact own_retA X9 hx hrt rfl rfl hlk (hb hby d1_38) (by decide) (by decide) ⟨(by unfold own_pick; rw [if_neg hc1, if_neg hc3, if_neg hc5, if_neg hc7]), N0, e9⟩

def own_isBit (uo : Nat) (a_INPUT_BIT : Nat) (a_OUTPUT_BIT : Nat) : Int32 := if uo = a_INPUT_BIT then (1 : Int32) else if uo = a_OUTPUT_BIT then (1 : Int32) else (0 : Int32)

theorem d6_0 : decode prog_31_method_5_code 0 = .ok (.aload_n 0, 1) := by decide +kernel
theorem d6_1 : decode prog_31_method_5_code 1 = .ok (.getstatic 3, 3) := by decide +kernel
theorem d6_4 : decode prog_31_method_5_code 4 = .ok (.if_acmp .eq 10, 3) := by decide +kernel
theorem d6_7 : decode prog_31_method_5_code 7 = .ok (.aload_n 0, 1) := by decide +kernel
theorem d6_8 : decode prog_31_method_5_code 8 = .ok (.getstatic 7, 3) := by decide +kernel
theorem d6_11 : decode prog_31_method_5_code 11 = .ok (.if_acmp .ne 7, 3) := by decide +kernel
theorem d6_14 : decode prog_31_method_5_code 14 = .ok (.iconst 1, 1) := by decide +kernel
theorem d6_15 : decode prog_31_method_5_code 15 = .ok (.goto 4, 3) := by decide +kernel
theorem d6_18 : decode prog_31_method_5_code 18 = .ok (.iconst 0, 1) := by decide +kernel
theorem d6_19 : decode prog_31_method_5_code 19 = .ok (.ireturn, 1) := by decide +kernel
theorem pn_rm_isBit : plainFor (⟨"com/example/hotrung/hotrung/image/Address$Area", "isBit", "()Z"⟩ : MethodName) = true := by first | exact plainFor_of_name (by first | (simp [plainName, overriddenIn]; done) | decide +kernel) | exact Jvm.Free.JP.mathPlain rfl (by decide +kernel) | decide +kernel
theorem ef_rm_isBit (m : MethodId) (x0 : Nat) : entryFrame m #[(.ref x0)] 1 = mkF m 0 #[VR x0] [] := by first | (simp [entryFrame, mkF, argsToLocals, Value.category]; done) | rfl
set_option maxRecDepth 65536 in
set_option maxHeartbeats 40000000 in
theorem rm_isBit (l : Launch) (Z : State) (a0 : Array Value) (hw : ∀ d ∈ tables_1, d.before a0 Z = true) (ws : List Jvm.Cond) (a_INPUT_BIT a_OUTPUT_BIT a_OUTPUT_WORD a_INPUT_WORD a_MEMORY_WORD p_INPUT_BIT v_INPUT_BIT p_OUTPUT_WORD v_OUTPUT_WORD p_OUTPUT_BIT v_OUTPUT_BIT p_MEMORY_WORD v_MEMORY_WORD p_INPUT_WORD v_INPUT_WORD a_DigitOnes : Nat) (k_INPUT_BIT : ClassId) (k_OUTPUT_WORD : ClassId) (k_OUTPUT_BIT : ClassId) (k_MEMORY_WORD : ClassId) (k_INPUT_WORD : ClassId) (ucs : Int32) (uff : Value) (uo : Nat) (h0 : Heap) (n0 : Nat) (Z0 : n0 ≤ h0.size) (O0 : Old Z n0 h0) (HW : own_W Z Z.heap a_INPUT_BIT a_OUTPUT_BIT a_OUTPUT_WORD a_INPUT_WORD a_MEMORY_WORD p_INPUT_BIT v_INPUT_BIT p_OUTPUT_WORD v_OUTPUT_WORD p_OUTPUT_BIT v_OUTPUT_BIT p_MEMORY_WORD v_MEMORY_WORD p_INPUT_WORD v_INPUT_WORD a_DigitOnes k_INPUT_BIT k_OUTPUT_WORD k_OUTPUT_BIT k_MEMORY_WORD k_INPUT_WORD ucs uff) :
    MetFree l (⟨"com/example/hotrung/hotrung/image/Address$Area", "isBit", "()Z"⟩ : MethodName) (head1 (Jvm.Cond.code (⟨"com/example/hotrung/hotrung/image/Address$Area", "isBit", "()Z"⟩ : MethodName) prog_31_method_5_code 1 (some .boolean) :: ws) ({ frames := 0, cells := 0, slots := 0, locals := 0 } : Room)) (fun a U => a = #[(.ref uo)] ∧ Z.Warmed39 U.vm ∧ U.heap = h0) (fun _ _ _ _ _ => True) (fun _ U o U' => ∃ v L, o = .returned v ∧ (own_P (.int (own_isBit uo a_INPUT_BIT a_OUTPUT_BIT)) h0 n0) v U'.heap L ∧ FrameEnd U o U' L 0 0) := by
  refine MetFree.of_bodySF pn_rm_isBit hisR ?_
  intro p e s m args below meth c s₁ Bd hml0 hP hK
  obtain ⟨rfl, hZ, hh⟩ := hP
  have hx := Bd.exec
  have hby := Bd.bytes
  have hml : c.maxLocals = 1 := hml0
  have hown : s.vm.findClass "com/example/hotrung/hotrung/image/Address$Area" = some m.cls := findClass_of_methodNamed Bd.named
  have hnm := (name_of_methodNamed Bd.named Bd.method).1
  have hrt := Bd.returns
  have hlk := Bd.notSynchronized
  have X0 : Stand p l e ({ frames := 0, cells := 0, slots := 0, locals := 0 } : Room) s m #[(.ref uo)] below meth c s₁ [] 0 0 := Stand.of_body Bd
  have e0 : s₁.heap = h0 := by rw [← hh, Bd.state]; rfl
  have N0 := Fr.nil n0
  have HW' := HW
  obtain ⟨S_INPUT_BIT, -, S_OUTPUT_BIT, -, -, -, -, -, -, -, -, -, -, -, -, -, -, -, -, -, -, -, -, -, -, -, -, -, -, -, -, -, -, -, -, -, -, -, -, -, -, -, -, -, -, -⟩ := HW'
  refine own_done (B := s₁.setTop (mkF m 0 #[VR uo] [])) (fun t k => castTop (ef_rm_isBit m uo) k) ?_
  refine own_by (B := s₁.setTop (mkF m 1 #[VR uo] [(.ref uo)])) (fun _ k => XS.aloadN X0.here hx rfl (hb hby d6_0) rfl rfl  k) ?_
  obtain ⟨T1, X1, e1, st1⟩ := getS2 X0 hx hZ hown (host := "") (Or.inl (own_hw 36 hw rfl)) Via.refl e0 (S_INPUT_BIT.ext O0.2) (g := (mkF m 1 #[VR uo] [(.ref uo)])) rfl (hb hby d6_1)
  refine own_by (B := T1.setTop (mkF m 4 #[VR uo] [(.ref a_INPUT_BIT), (.ref uo)])) st1 ?_
  by_cases hc2 : uo = a_INPUT_BIT
  · refine own_by (B := T1.setTop (mkF m 14 #[VR uo] [])) (fun _ k => XT.acmpYes X1.here hx rfl (pc0 := 4) (pc' := 14) rfl (hb hby d6_4) rfl rfl rfl (XT.aa_eq_t (congrArg Value.ref hc2)) (by decide) (by decide) k) ?_
    refine own_by (B := T1.setTop (mkF m 15 #[VR uo] [(.int 1)])) (fun _ k => XS.iconst X1.here hx rfl (hb hby d6_14) k) ?_
    refine own_by (B := T1.setTop (mkF m 19 #[VR uo] [(.int 1)])) (fun _ k => XS.goto X1.here hx rfl (pc0 := 15) (pc' := 19) rfl (hb hby d6_15) (by decide) (by decide) k) ?_
    exact own_retZ X1 hx hrt hlk rfl (hb hby d6_19) (by decide) (by decide) ⟨(by unfold own_isBit; rw [if_pos hc2]), N0, e1⟩
  · refine own_by (B := T1.setTop (mkF m 7 #[VR uo] [])) (fun _ k => XT.acmpNo X1.here hx rfl (hb hby d6_4) rfl rfl rfl (XT.aa_eq_f (fun q => hc2 (Value.ref.inj q))) k) ?_
    refine own_by (B := T1.setTop (mkF m 8 #[VR uo] [(.ref uo)])) (fun _ k => XS.aloadN X1.here hx rfl (hb hby d6_7) rfl rfl  k) ?_
    obtain ⟨T3, X3, e3, st3⟩ := getS2 X1 hx hZ hown (host := "") (Or.inl (own_hw 208 hw rfl)) Via.refl e1 (S_OUTPUT_BIT.ext O0.2) (g := (mkF m 8 #[VR uo] [(.ref uo)])) rfl (hb hby d6_8)
    refine own_by (B := T3.setTop (mkF m 11 #[VR uo] [(.ref a_OUTPUT_BIT), (.ref uo)])) st3 ?_
    by_cases hc4 : uo = a_OUTPUT_BIT
    · refine own_by (B := T3.setTop (mkF m 14 #[VR uo] [])) (fun _ k => XT.acmpNo X3.here hx rfl (hb hby d6_11) rfl rfl rfl (XT.aa_ne_f (congrArg Value.ref hc4)) k) ?_
      refine own_by (B := T3.setTop (mkF m 15 #[VR uo] [(.int 1)])) (fun _ k => XS.iconst X3.here hx rfl (hb hby d6_14) k) ?_
      refine own_by (B := T3.setTop (mkF m 19 #[VR uo] [(.int 1)])) (fun _ k => XS.goto X3.here hx rfl (pc0 := 15) (pc' := 19) rfl (hb hby d6_15) (by decide) (by decide) k) ?_
      exact own_retZ X3 hx hrt hlk rfl (hb hby d6_19) (by decide) (by decide) ⟨(by unfold own_isBit; rw [if_neg hc2, if_pos hc4]), N0, e3⟩
    · refine own_by (B := T3.setTop (mkF m 18 #[VR uo] [])) (fun _ k => XT.acmpYes X3.here hx rfl (pc0 := 11) (pc' := 18) rfl (hb hby d6_11) rfl rfl rfl (XT.aa_ne_t (fun q => hc4 (Value.ref.inj q))) (by decide) (by decide) k) ?_
      refine own_by (B := T3.setTop (mkF m 19 #[VR uo] [(.int 0)])) (fun _ k => XS.iconst X3.here hx rfl (hb hby d6_18) k) ?_
      exact own_retZ X3 hx hrt hlk rfl (hb hby d6_19) (by decide) (by decide) ⟨(by unfold own_isBit; rw [if_neg hc2, if_neg hc4]), N0, e3⟩

def own_isOutput (uo : Nat) (a_OUTPUT_BIT : Nat) (a_OUTPUT_WORD : Nat) : Int32 := if uo = a_OUTPUT_BIT then (1 : Int32) else if uo = a_OUTPUT_WORD then (1 : Int32) else (0 : Int32)

theorem d37_0 : decode prog_31_method_7_code 0 = .ok (.aload_n 0, 1) := by decide +kernel
theorem d37_1 : decode prog_31_method_7_code 1 = .ok (.getstatic 7, 3) := by decide +kernel
theorem d37_4 : decode prog_31_method_7_code 4 = .ok (.if_acmp .eq 10, 3) := by decide +kernel
theorem d37_7 : decode prog_31_method_7_code 7 = .ok (.aload_n 0, 1) := by decide +kernel
theorem d37_8 : decode prog_31_method_7_code 8 = .ok (.getstatic 13, 3) := by decide +kernel
theorem d37_11 : decode prog_31_method_7_code 11 = .ok (.if_acmp .ne 7, 3) := by decide +kernel
theorem d37_14 : decode prog_31_method_7_code 14 = .ok (.iconst 1, 1) := by decide +kernel
theorem d37_15 : decode prog_31_method_7_code 15 = .ok (.goto 4, 3) := by decide +kernel
theorem d37_18 : decode prog_31_method_7_code 18 = .ok (.iconst 0, 1) := by decide +kernel
theorem d37_19 : decode prog_31_method_7_code 19 = .ok (.ireturn, 1) := by decide +kernel
theorem pn_rm_isOutput : plainFor (⟨"com/example/hotrung/hotrung/image/Address$Area", "isOutput", "()Z"⟩ : MethodName) = true := by first | exact plainFor_of_name (by first | (simp [plainName, overriddenIn]; done) | decide +kernel) | exact Jvm.Free.JP.mathPlain rfl (by decide +kernel) | decide +kernel
theorem ef_rm_isOutput (m : MethodId) (x0 : Nat) : entryFrame m #[(.ref x0)] 1 = mkF m 0 #[VR x0] [] := by first | (simp [entryFrame, mkF, argsToLocals, Value.category]; done) | rfl
set_option maxRecDepth 65536 in
set_option maxHeartbeats 40000000 in
theorem rm_isOutput (l : Launch) (Z : State) (a0 : Array Value) (hw : ∀ d ∈ tables_1, d.before a0 Z = true) (ws : List Jvm.Cond) (a_INPUT_BIT a_OUTPUT_BIT a_OUTPUT_WORD a_INPUT_WORD a_MEMORY_WORD p_INPUT_BIT v_INPUT_BIT p_OUTPUT_WORD v_OUTPUT_WORD p_OUTPUT_BIT v_OUTPUT_BIT p_MEMORY_WORD v_MEMORY_WORD p_INPUT_WORD v_INPUT_WORD a_DigitOnes : Nat) (k_INPUT_BIT : ClassId) (k_OUTPUT_WORD : ClassId) (k_OUTPUT_BIT : ClassId) (k_MEMORY_WORD : ClassId) (k_INPUT_WORD : ClassId) (ucs : Int32) (uff : Value) (uo : Nat) (h0 : Heap) (n0 : Nat) (Z0 : n0 ≤ h0.size) (O0 : Old Z n0 h0) (HW : own_W Z Z.heap a_INPUT_BIT a_OUTPUT_BIT a_OUTPUT_WORD a_INPUT_WORD a_MEMORY_WORD p_INPUT_BIT v_INPUT_BIT p_OUTPUT_WORD v_OUTPUT_WORD p_OUTPUT_BIT v_OUTPUT_BIT p_MEMORY_WORD v_MEMORY_WORD p_INPUT_WORD v_INPUT_WORD a_DigitOnes k_INPUT_BIT k_OUTPUT_WORD k_OUTPUT_BIT k_MEMORY_WORD k_INPUT_WORD ucs uff) :
    MetFree l (⟨"com/example/hotrung/hotrung/image/Address$Area", "isOutput", "()Z"⟩ : MethodName) (head1 (Jvm.Cond.code (⟨"com/example/hotrung/hotrung/image/Address$Area", "isOutput", "()Z"⟩ : MethodName) prog_31_method_7_code 1 (some .boolean) :: ws) ({ frames := 0, cells := 0, slots := 0, locals := 0 } : Room)) (fun a U => a = #[(.ref uo)] ∧ Z.Warmed39 U.vm ∧ U.heap = h0) (fun _ _ _ _ _ => True) (fun _ U o U' => ∃ v L, o = .returned v ∧ (own_P (.int (own_isOutput uo a_OUTPUT_BIT a_OUTPUT_WORD)) h0 n0) v U'.heap L ∧ FrameEnd U o U' L 0 0) := by
  refine MetFree.of_bodySF pn_rm_isOutput hisR ?_
  intro p e s m args below meth c s₁ Bd hml0 hP hK
  obtain ⟨rfl, hZ, hh⟩ := hP
  have hx := Bd.exec
  have hby := Bd.bytes
  have hml : c.maxLocals = 1 := hml0
  have hown : s.vm.findClass "com/example/hotrung/hotrung/image/Address$Area" = some m.cls := findClass_of_methodNamed Bd.named
  have hnm := (name_of_methodNamed Bd.named Bd.method).1
  have hrt := Bd.returns
  have hlk := Bd.notSynchronized
  have X0 : Stand p l e ({ frames := 0, cells := 0, slots := 0, locals := 0 } : Room) s m #[(.ref uo)] below meth c s₁ [] 0 0 := Stand.of_body Bd
  have e0 : s₁.heap = h0 := by rw [← hh, Bd.state]; rfl
  have N0 := Fr.nil n0
  have HW' := HW
  obtain ⟨-, -, S_OUTPUT_BIT, -, S_OUTPUT_WORD, -, -, -, -, -, -, -, -, -, -, -, -, -, -, -, -, -, -, -, -, -, -, -, -, -, -, -, -, -, -, -, -, -, -, -, -, -, -, -, -, -⟩ := HW'
  refine own_done (B := s₁.setTop (mkF m 0 #[VR uo] [])) (fun t k => castTop (ef_rm_isOutput m uo) k) ?_
  refine own_by (B := s₁.setTop (mkF m 1 #[VR uo] [(.ref uo)])) (fun _ k => XS.aloadN X0.here hx rfl (hb hby d37_0) rfl rfl  k) ?_
  obtain ⟨T1, X1, e1, st1⟩ := getS2 X0 hx hZ hown (host := "") (Or.inl (own_hw 208 hw rfl)) Via.refl e0 (S_OUTPUT_BIT.ext O0.2) (g := (mkF m 1 #[VR uo] [(.ref uo)])) rfl (hb hby d37_1)
  refine own_by (B := T1.setTop (mkF m 4 #[VR uo] [(.ref a_OUTPUT_BIT), (.ref uo)])) st1 ?_
  by_cases hc2 : uo = a_OUTPUT_BIT
  · refine own_by (B := T1.setTop (mkF m 14 #[VR uo] [])) (fun _ k => XT.acmpYes X1.here hx rfl (pc0 := 4) (pc' := 14) rfl (hb hby d37_4) rfl rfl rfl (XT.aa_eq_t (congrArg Value.ref hc2)) (by decide) (by decide) k) ?_
    refine own_by (B := T1.setTop (mkF m 15 #[VR uo] [(.int 1)])) (fun _ k => XS.iconst X1.here hx rfl (hb hby d37_14) k) ?_
    refine own_by (B := T1.setTop (mkF m 19 #[VR uo] [(.int 1)])) (fun _ k => XS.goto X1.here hx rfl (pc0 := 15) (pc' := 19) rfl (hb hby d37_15) (by decide) (by decide) k) ?_
    exact own_retZ X1 hx hrt hlk rfl (hb hby d37_19) (by decide) (by decide) ⟨(by unfold own_isOutput; rw [if_pos hc2]), N0, e1⟩
  · refine own_by (B := T1.setTop (mkF m 7 #[VR uo] [])) (fun _ k => XT.acmpNo X1.here hx rfl (hb hby d37_4) rfl rfl rfl (XT.aa_eq_f (fun q => hc2 (Value.ref.inj q))) k) ?_
    refine own_by (B := T1.setTop (mkF m 8 #[VR uo] [(.ref uo)])) (fun _ k => XS.aloadN X1.here hx rfl (hb hby d37_7) rfl rfl  k) ?_
    obtain ⟨T3, X3, e3, st3⟩ := getS2 X1 hx hZ hown (host := "") (Or.inl (own_hw 210 hw rfl)) Via.refl e1 (S_OUTPUT_WORD.ext O0.2) (g := (mkF m 8 #[VR uo] [(.ref uo)])) rfl (hb hby d37_8)
    refine own_by (B := T3.setTop (mkF m 11 #[VR uo] [(.ref a_OUTPUT_WORD), (.ref uo)])) st3 ?_
    by_cases hc4 : uo = a_OUTPUT_WORD
    · refine own_by (B := T3.setTop (mkF m 14 #[VR uo] [])) (fun _ k => XT.acmpNo X3.here hx rfl (hb hby d37_11) rfl rfl rfl (XT.aa_ne_f (congrArg Value.ref hc4)) k) ?_
      refine own_by (B := T3.setTop (mkF m 15 #[VR uo] [(.int 1)])) (fun _ k => XS.iconst X3.here hx rfl (hb hby d37_14) k) ?_
      refine own_by (B := T3.setTop (mkF m 19 #[VR uo] [(.int 1)])) (fun _ k => XS.goto X3.here hx rfl (pc0 := 15) (pc' := 19) rfl (hb hby d37_15) (by decide) (by decide) k) ?_
      exact own_retZ X3 hx hrt hlk rfl (hb hby d37_19) (by decide) (by decide) ⟨(by unfold own_isOutput; rw [if_neg hc2, if_pos hc4]), N0, e3⟩
    · refine own_by (B := T3.setTop (mkF m 18 #[VR uo] [])) (fun _ k => XT.acmpYes X3.here hx rfl (pc0 := 11) (pc' := 18) rfl (hb hby d37_11) rfl rfl rfl (XT.aa_ne_t (fun q => hc4 (Value.ref.inj q))) (by decide) (by decide) k) ?_
      refine own_by (B := T3.setTop (mkF m 19 #[VR uo] [(.int 0)])) (fun _ k => XS.iconst X3.here hx rfl (hb hby d37_18) k) ?_
      exact own_retZ X3 hx hrt hlk rfl (hb hby d37_19) (by decide) (by decide) ⟨(by unfold own_isOutput; rw [if_neg hc2, if_neg hc4]), N0, e3⟩

def own_isInput (uo : Nat) (a_INPUT_BIT : Nat) (a_INPUT_WORD : Nat) : Int32 := if uo = a_INPUT_BIT then (1 : Int32) else if uo = a_INPUT_WORD then (1 : Int32) else (0 : Int32)

theorem d38_0 : decode prog_31_method_6_code 0 = .ok (.aload_n 0, 1) := by decide +kernel
theorem d38_1 : decode prog_31_method_6_code 1 = .ok (.getstatic 3, 3) := by decide +kernel
theorem d38_4 : decode prog_31_method_6_code 4 = .ok (.if_acmp .eq 10, 3) := by decide +kernel
theorem d38_7 : decode prog_31_method_6_code 7 = .ok (.aload_n 0, 1) := by decide +kernel
theorem d38_8 : decode prog_31_method_6_code 8 = .ok (.getstatic 10, 3) := by decide +kernel
theorem d38_11 : decode prog_31_method_6_code 11 = .ok (.if_acmp .ne 7, 3) := by decide +kernel
theorem d38_14 : decode prog_31_method_6_code 14 = .ok (.iconst 1, 1) := by decide +kernel
theorem d38_15 : decode prog_31_method_6_code 15 = .ok (.goto 4, 3) := by decide +kernel
theorem d38_18 : decode prog_31_method_6_code 18 = .ok (.iconst 0, 1) := by decide +kernel
theorem d38_19 : decode prog_31_method_6_code 19 = .ok (.ireturn, 1) := by decide +kernel
theorem pn_rm_isInput : plainFor (⟨"com/example/hotrung/hotrung/image/Address$Area", "isInput", "()Z"⟩ : MethodName) = true := by first | exact plainFor_of_name (by first | (simp [plainName, overriddenIn]; done) | decide +kernel) | exact Jvm.Free.JP.mathPlain rfl (by decide +kernel) | decide +kernel
theorem ef_rm_isInput (m : MethodId) (x0 : Nat) : entryFrame m #[(.ref x0)] 1 = mkF m 0 #[VR x0] [] := by first | (simp [entryFrame, mkF, argsToLocals, Value.category]; done) | rfl
set_option maxRecDepth 65536 in
set_option maxHeartbeats 40000000 in
theorem rm_isInput (l : Launch) (Z : State) (a0 : Array Value) (hw : ∀ d ∈ tables_1, d.before a0 Z = true) (ws : List Jvm.Cond) (a_INPUT_BIT a_OUTPUT_BIT a_OUTPUT_WORD a_INPUT_WORD a_MEMORY_WORD p_INPUT_BIT v_INPUT_BIT p_OUTPUT_WORD v_OUTPUT_WORD p_OUTPUT_BIT v_OUTPUT_BIT p_MEMORY_WORD v_MEMORY_WORD p_INPUT_WORD v_INPUT_WORD a_DigitOnes : Nat) (k_INPUT_BIT : ClassId) (k_OUTPUT_WORD : ClassId) (k_OUTPUT_BIT : ClassId) (k_MEMORY_WORD : ClassId) (k_INPUT_WORD : ClassId) (ucs : Int32) (uff : Value) (uo : Nat) (h0 : Heap) (n0 : Nat) (Z0 : n0 ≤ h0.size) (O0 : Old Z n0 h0) (HW : own_W Z Z.heap a_INPUT_BIT a_OUTPUT_BIT a_OUTPUT_WORD a_INPUT_WORD a_MEMORY_WORD p_INPUT_BIT v_INPUT_BIT p_OUTPUT_WORD v_OUTPUT_WORD p_OUTPUT_BIT v_OUTPUT_BIT p_MEMORY_WORD v_MEMORY_WORD p_INPUT_WORD v_INPUT_WORD a_DigitOnes k_INPUT_BIT k_OUTPUT_WORD k_OUTPUT_BIT k_MEMORY_WORD k_INPUT_WORD ucs uff) :
    MetFree l (⟨"com/example/hotrung/hotrung/image/Address$Area", "isInput", "()Z"⟩ : MethodName) (head1 (Jvm.Cond.code (⟨"com/example/hotrung/hotrung/image/Address$Area", "isInput", "()Z"⟩ : MethodName) prog_31_method_6_code 1 (some .boolean) :: ws) ({ frames := 0, cells := 0, slots := 0, locals := 0 } : Room)) (fun a U => a = #[(.ref uo)] ∧ Z.Warmed39 U.vm ∧ U.heap = h0) (fun _ _ _ _ _ => True) (fun _ U o U' => ∃ v L, o = .returned v ∧ (own_P (.int (own_isInput uo a_INPUT_BIT a_INPUT_WORD)) h0 n0) v U'.heap L ∧ FrameEnd U o U' L 0 0) := by
  refine MetFree.of_bodySF pn_rm_isInput hisR ?_
  intro p e s m args below meth c s₁ Bd hml0 hP hK
  obtain ⟨rfl, hZ, hh⟩ := hP
  have hx := Bd.exec
  have hby := Bd.bytes
  have hml : c.maxLocals = 1 := hml0
  have hown : s.vm.findClass "com/example/hotrung/hotrung/image/Address$Area" = some m.cls := findClass_of_methodNamed Bd.named
  have hnm := (name_of_methodNamed Bd.named Bd.method).1
  have hrt := Bd.returns
  have hlk := Bd.notSynchronized
  have X0 : Stand p l e ({ frames := 0, cells := 0, slots := 0, locals := 0 } : Room) s m #[(.ref uo)] below meth c s₁ [] 0 0 := Stand.of_body Bd
  have e0 : s₁.heap = h0 := by rw [← hh, Bd.state]; rfl
  have N0 := Fr.nil n0
  have HW' := HW
  obtain ⟨S_INPUT_BIT, -, -, -, -, -, S_INPUT_WORD, -, -, -, -, -, -, -, -, -, -, -, -, -, -, -, -, -, -, -, -, -, -, -, -, -, -, -, -, -, -, -, -, -, -, -, -, -, -, -⟩ := HW'
  refine own_done (B := s₁.setTop (mkF m 0 #[VR uo] [])) (fun t k => castTop (ef_rm_isInput m uo) k) ?_
  refine own_by (B := s₁.setTop (mkF m 1 #[VR uo] [(.ref uo)])) (fun _ k => XS.aloadN X0.here hx rfl (hb hby d38_0) rfl rfl  k) ?_
  obtain ⟨T1, X1, e1, st1⟩ := getS2 X0 hx hZ hown (host := "") (Or.inl (own_hw 36 hw rfl)) Via.refl e0 (S_INPUT_BIT.ext O0.2) (g := (mkF m 1 #[VR uo] [(.ref uo)])) rfl (hb hby d38_1)
  refine own_by (B := T1.setTop (mkF m 4 #[VR uo] [(.ref a_INPUT_BIT), (.ref uo)])) st1 ?_
  by_cases hc2 : uo = a_INPUT_BIT
  · refine own_by (B := T1.setTop (mkF m 14 #[VR uo] [])) (fun _ k => XT.acmpYes X1.here hx rfl (pc0 := 4) (pc' := 14) rfl (hb hby d38_4) rfl rfl rfl (XT.aa_eq_t (congrArg Value.ref hc2)) (by decide) (by decide) k) ?_
    refine own_by (B := T1.setTop (mkF m 15 #[VR uo] [(.int 1)])) (fun _ k => XS.iconst X1.here hx rfl (hb hby d38_14) k) ?_
    refine own_by (B := T1.setTop (mkF m 19 #[VR uo] [(.int 1)])) (fun _ k => XS.goto X1.here hx rfl (pc0 := 15) (pc' := 19) rfl (hb hby d38_15) (by decide) (by decide) k) ?_
    exact own_retZ X1 hx hrt hlk rfl (hb hby d38_19) (by decide) (by decide) ⟨(by unfold own_isInput; rw [if_pos hc2]), N0, e1⟩
  · refine own_by (B := T1.setTop (mkF m 7 #[VR uo] [])) (fun _ k => XT.acmpNo X1.here hx rfl (hb hby d38_4) rfl rfl rfl (XT.aa_eq_f (fun q => hc2 (Value.ref.inj q))) k) ?_
    refine own_by (B := T1.setTop (mkF m 8 #[VR uo] [(.ref uo)])) (fun _ k => XS.aloadN X1.here hx rfl (hb hby d38_7) rfl rfl  k) ?_
    obtain ⟨T3, X3, e3, st3⟩ := getS2 X1 hx hZ hown (host := "") (Or.inl (own_hw 218 hw rfl)) Via.refl e1 (S_INPUT_WORD.ext O0.2) (g := (mkF m 8 #[VR uo] [(.ref uo)])) rfl (hb hby d38_8)
    refine own_by (B := T3.setTop (mkF m 11 #[VR uo] [(.ref a_INPUT_WORD), (.ref uo)])) st3 ?_
    by_cases hc4 : uo = a_INPUT_WORD
    · refine own_by (B := T3.setTop (mkF m 14 #[VR uo] [])) (fun _ k => XT.acmpNo X3.here hx rfl (hb hby d38_11) rfl rfl rfl (XT.aa_ne_f (congrArg Value.ref hc4)) k) ?_
      refine own_by (B := T3.setTop (mkF m 15 #[VR uo] [(.int 1)])) (fun _ k => XS.iconst X3.here hx rfl (hb hby d38_14) k) ?_
      refine own_by (B := T3.setTop (mkF m 19 #[VR uo] [(.int 1)])) (fun _ k => XS.goto X3.here hx rfl (pc0 := 15) (pc' := 19) rfl (hb hby d38_15) (by decide) (by decide) k) ?_
      exact own_retZ X3 hx hrt hlk rfl (hb hby d38_19) (by decide) (by decide) ⟨(by unfold own_isInput; rw [if_neg hc2, if_pos hc4]), N0, e3⟩
    · refine own_by (B := T3.setTop (mkF m 18 #[VR uo] [])) (fun _ k => XT.acmpYes X3.here hx rfl (pc0 := 11) (pc' := 18) rfl (hb hby d38_11) rfl rfl rfl (XT.aa_ne_t (fun q => hc4 (Value.ref.inj q))) (by decide) (by decide) k) ?_
      refine own_by (B := T3.setTop (mkF m 19 #[VR uo] [(.int 0)])) (fun _ k => XS.iconst X3.here hx rfl (hb hby d38_18) k) ?_
      exact own_retZ X3 hx hrt hlk rfl (hb hby d38_19) (by decide) (by decide) ⟨(by unfold own_isInput; rw [if_neg hc2, if_neg hc4]), N0, e3⟩

theorem d3_0 : decode jdk_30_method_1_code 0 = .ok (.aload_n 0, 1) := by decide +kernel
theorem d3_1 : decode jdk_30_method_1_code 1 = .ok (.invokespecial 1, 3) := by decide +kernel
theorem d3_4 : decode jdk_30_method_1_code 4 = .ok (.return_, 1) := by decide +kernel
theorem pn_rmRec : plainFor (⟨"java/lang/Record", "<init>", "()V"⟩ : MethodName) = true := by first | exact plainFor_of_name (by first | (simp [plainName, overriddenIn]; done) | decide +kernel) | exact Jvm.Free.JP.mathPlain rfl (by decide +kernel) | decide +kernel
theorem ef_rmRec (m : MethodId) (x0 : Nat) : entryFrame m #[(.ref x0)] 1 = mkF m 0 #[VR x0] [] := by first | (simp [entryFrame, mkF, argsToLocals, Value.category]; done) | rfl
set_option maxRecDepth 65536 in
set_option maxHeartbeats 40000000 in
theorem rmRec (l : Launch) (Z : State) (a0 : Array Value) (hw : ∀ d ∈ tables_1, d.before a0 Z = true) (ws : List Jvm.Cond) (ua : Nat) (h0 : Heap) (n0 : Nat) (Z0 : n0 ≤ h0.size)  :
    MetFree l (⟨"java/lang/Record", "<init>", "()V"⟩ : MethodName) (head1 (Jvm.Cond.code (⟨"java/lang/Record", "<init>", "()V"⟩ : MethodName) jdk_30_method_1_code 1 none :: ws) ({ frames := 1, cells := 0, slots := 0, locals := 12 } : Room)) (fun a U => a = #[(.ref ua)] ∧ Z.Warmed39 U.vm ∧ U.heap = h0) (fun _ _ _ _ _ => True) (fun _ U o U' => ∃ v L, o = .returned v ∧ (own_PV h0 n0) v U'.heap L ∧ FrameEnd U o U' L 0 0) := by
  refine MetFree.of_bodySF pn_rmRec hisR ?_
  intro p e s m args below meth c s₁ Bd hml0 hP hK
  obtain ⟨rfl, hZ, hh⟩ := hP
  have hx := Bd.exec
  have hby := Bd.bytes
  have hml : c.maxLocals = 1 := hml0
  have hown : s.vm.findClass "java/lang/Record" = some m.cls := findClass_of_methodNamed Bd.named
  have hnm := (name_of_methodNamed Bd.named Bd.method).1
  have hrt := Bd.returns
  have hlk := Bd.notSynchronized
  have X0 : Stand p l e ({ frames := 1, cells := 0, slots := 0, locals := 12 } : Room) s m #[(.ref ua)] below meth c s₁ [] 0 0 := Stand.of_body Bd
  have e0 : s₁.heap = h0 := by rw [← hh, Bd.state]; rfl
  have N0 := Fr.nil n0
  have K0 := Keep.refl h0 []
  refine own_done (B := s₁.setTop (mkF m 0 #[VR ua] [])) (fun t k => castTop (ef_rmRec m ua) k) ?_
  refine own_by (B := s₁.setTop (mkF m 1 #[VR ua] [(.ref ua)])) (fun _ k => XS.aloadN X0.here hx rfl (hb hby d3_0) rfl rfl  k) ?_
  obtain ⟨T1, X1, e1, st1⟩ := initO X0 hx hZ hown (own_hw 19 hw rfl) (own_hw 20 hw rfl) (own_hw 21 hw rfl) e0 (g := (mkF m 1 #[VR ua] [(.ref ua)])) rfl (by rw [hml]; rfl) rfl (hb hby d3_1) (by decide) (W := 0) (by show 2 * 0 + _ ≤ _; exact Nat.le_of_eq rfl) (by decide)
  refine own_by (B := T1.setTop (mkF m 4 #[VR ua] [])) st1 ?_
  exact own_retV X1 hx hrt hlk (hb hby d3_4) (by decide) (by decide) ⟨rfl, N0, e1⟩

def own_QAd (Z : State) (ua : Nat) (uk : Nat) (uj : Int32) (h0 : Heap) (n0 : Nat) (v : Option Value) (h : Heap) (L : List Loc) : Prop := v = none ∧ Fr n0 L ∧ Keep h0 h [ua] ∧ Exa Z h ua "com/example/hotrung/hotrung/image/Address" ∧ Fld Z h ua "com/example/hotrung/hotrung/image/Address" "area" "Lcom/example/hotrung/hotrung/image/Address$Area;" (.ref uk) ∧ Fld Z h ua "com/example/hotrung/hotrung/image/Address" "cell" "I" (.int uj)

theorem d2_0 : decode prog_30_method_1_code 0 = .ok (.aload_n 0, 1) := by decide +kernel
theorem d2_1 : decode prog_30_method_1_code 1 = .ok (.invokespecial 1, 3) := by decide +kernel
theorem d2_4 : decode prog_30_method_1_code 4 = .ok (.aload_n 0, 1) := by decide +kernel
theorem d2_5 : decode prog_30_method_1_code 5 = .ok (.aload_n 1, 1) := by decide +kernel
theorem d2_6 : decode prog_30_method_1_code 6 = .ok (.putfield 7, 3) := by decide +kernel
theorem d2_9 : decode prog_30_method_1_code 9 = .ok (.aload_n 0, 1) := by decide +kernel
theorem d2_10 : decode prog_30_method_1_code 10 = .ok (.iload_n 2, 1) := by decide +kernel
theorem d2_11 : decode prog_30_method_1_code 11 = .ok (.putfield 13, 3) := by decide +kernel
theorem d2_14 : decode prog_30_method_1_code 14 = .ok (.return_, 1) := by decide +kernel
theorem pd_2___V : parseMethodDescriptor "()V" = some ⟨[], none⟩ := by decide +kernel
theorem pn_rmAd : plainFor (⟨"com/example/hotrung/hotrung/image/Address", "<init>", "(Lcom/example/hotrung/hotrung/image/Address$Area;I)V"⟩ : MethodName) = true := by first | exact plainFor_of_name (by first | (simp [plainName, overriddenIn]; done) | decide +kernel) | exact Jvm.Free.JP.mathPlain rfl (by decide +kernel) | decide +kernel
theorem ef_rmAd (m : MethodId) (x0 : Nat) (x1 : Nat) (x2 : Int32) : entryFrame m #[(.ref x0), (.ref x1), (.int x2)] 3 = mkF m 0 #[VR x0, VR x1, VI x2] [] := by first | (simp [entryFrame, mkF, argsToLocals, Value.category]; done) | rfl
set_option maxRecDepth 65536 in
set_option maxHeartbeats 40000000 in
theorem rmAd (l : Launch) (Z : State) (a0 : Array Value) (hw : ∀ d ∈ tables_1, d.before a0 Z = true) (ws : List Jvm.Cond) (ua : Nat) (uk : Nat) (uj : Int32) (h0 : Heap) (n0 : Nat) (Z0 : n0 ≤ h0.size) (O0 : Old Z n0 h0) (E_ua : Exa Z h0 ua "com/example/hotrung/hotrung/image/Address") (F_area : Fld Z h0 ua "com/example/hotrung/hotrung/image/Address" "area" "Lcom/example/hotrung/hotrung/image/Address$Area;" .null) (F_cell : Fld Z h0 ua "com/example/hotrung/hotrung/image/Address" "cell" "I" (.int 0)) (gn_ua : n0 ≤ ua) :
    MetFree l (⟨"com/example/hotrung/hotrung/image/Address", "<init>", "(Lcom/example/hotrung/hotrung/image/Address$Area;I)V"⟩ : MethodName) (head1 (Jvm.Cond.code (⟨"com/example/hotrung/hotrung/image/Address", "<init>", "(Lcom/example/hotrung/hotrung/image/Address$Area;I)V"⟩ : MethodName) prog_30_method_1_code 3 none :: ws) ({ frames := 2, cells := 0, slots := 0, locals := 24 } : Room)) (fun a U => a = #[(.ref ua), (.ref uk), (.int uj)] ∧ Z.Warmed39 U.vm ∧ U.heap = h0) (fun _ _ _ _ _ => True) (fun _ U o U' => ∃ v L, o = .returned v ∧ (own_QAd Z ua uk uj h0 n0) v U'.heap L ∧ FrameEnd U o U' L 0 0) := by
  refine MetFree.of_bodySF pn_rmAd hisR ?_
  intro p e s m args below meth c s₁ Bd hml0 hP hK
  obtain ⟨rfl, hZ, hh⟩ := hP
  have hx := Bd.exec
  have hby := Bd.bytes
  have hml : c.maxLocals = 3 := hml0
  have hown : s.vm.findClass "com/example/hotrung/hotrung/image/Address" = some m.cls := findClass_of_methodNamed Bd.named
  have hnm := (name_of_methodNamed Bd.named Bd.method).1
  have hrt := Bd.returns
  have hlk := Bd.notSynchronized
  have X0 : Stand p l e ({ frames := 2, cells := 0, slots := 0, locals := 24 } : Room) s m #[(.ref ua), (.ref uk), (.int uj)] below meth c s₁ [] 0 0 := Stand.of_body Bd
  have e0 : s₁.heap = h0 := by rw [← hh, Bd.state]; rfl
  have N0 := Fr.nil n0
  have K0 := Keep.refl h0 [ua]
  have lt_ua := own_lt E_ua.lt
  refine own_done (B := s₁.setTop (mkF m 0 #[VR ua, VR uk, VI uj] [])) (fun t k => castTop (ef_rmAd m ua uk uj) k) ?_
  refine own_by (B := s₁.setTop (mkF m 1 #[VR ua, VR uk, VI uj] [(.ref ua)])) (fun _ k => XS.aloadN X0.here hx rfl (hb hby d2_0) rfl rfl  k) ?_
  obtain ⟨_, _, ⟨T1, L1, k1, n1⟩, -, X1, ⟨Lc1, hQ1, l1, y1, z1⟩, st1⟩ := X0.specialBack hx (y := (⟨"java/lang/Record", "<init>", "()V"⟩ : MethodName)) rfl hown (mvT hZ (own_hw 14 hw rfl)) (mvT hZ (own_hw 15 hw rfl)) (mvT hZ (own_hw 18 hw rfl)) (by decide) (backOf (W := 0) (rmRec l Z a0 hw [] ua h0 n0 (own_old_le O0)) hZ (own_hw 18 hw rfl) (own_hw 17 hw rfl) (by decide) (by decide)) (g := (mkF m 1 #[VR ua, VR uk, VI uj] [(.ref ua)])) rfl (by rw [hml]; rfl) (Steps.refl _) (a := ua) (argsL := []) (rest := []) (lenOf pd_2___V rfl) rfl (by show 2 * 0 + _ ≤ _; exact Nat.le_of_eq rfl) (hb hby d2_1) (fun _ _ => ⟨rfl, e0, (by decide : 0 + 0 ≤ _), (by decide : 0 + 0 ≤ _)⟩)
  dsimp only [Pt.U, Pt.locs, Pt.cells, Pt.slots] at X1 l1 y1 z1 st1 hQ1
  subst l1 y1 z1
  obtain ⟨rfl, N1, e1⟩ := hQ1
  refine own_by (B := T1.setTop (mkF m 4 #[VR ua, VR uk, VI uj] [])) (fun _ k => st1.trans k) ?_
  have M1 := Fr.app N0 N1
  refine own_by (B := T1.setTop (mkF m 5 #[VR ua, VR uk, VI uj] [(.ref ua)])) (fun _ k => XS.aloadN X1.here hx rfl (hb hby d2_4) rfl rfl  k) ?_
  refine own_by (B := T1.setTop (mkF m 6 #[VR ua, VR uk, VI uj] [(.ref uk), (.ref ua)])) (fun _ k => XS.aloadN X1.here hx rfl (hb hby d2_5) rfl rfl  k) ?_
  obtain ⟨T2, h2, X2, e2, W2, st2⟩ := putF X1 hx hZ hown (host := "") (Or.inl (own_hw 22 hw rfl)) Via.refl e1 F_area E_ua (Or.inr ⟨(own_hw 23 hw rfl), rfl, hnm⟩) (own_hw 9 hw rfl) (ty := (.object "com/example/hotrung/hotrung/image/Address$Area")) (by decide) rfl rfl (g := (mkF m 6 #[VR ua, VR uk, VI uj] [(.ref uk), (.ref ua)])) rfl rfl (hb hby d2_6)
  have sz2 := W2.size
  have O2 := O0.wr W2 gn_ua
  have K2 := K0.wr W2 (Or.inl (List.mem_of_getElem? (i := 0) rfl))
  have N2 := Fr.snoc X2 M1 gn_ua
  have F2 := F_area.same W2
  refine own_by (B := T2.setTop (mkF m 9 #[VR ua, VR uk, VI uj] [])) st2 ?_
  refine own_by (B := T2.setTop (mkF m 10 #[VR ua, VR uk, VI uj] [(.ref ua)])) (fun _ k => XS.aloadN X2.here hx rfl (hb hby d2_9) rfl rfl  k) ?_
  refine own_by (B := T2.setTop (mkF m 11 #[VR ua, VR uk, VI uj] [(.int uj), (.ref ua)])) (fun _ k => XS.iloadN X2.here hx rfl (hb hby d2_10) rfl  k) ?_
  have c4 := (E_ua.wr W2)
  have c5 := (F_cell.other W2 (Or.inr (slot_ne (Or.inr (own_hw 25 hw rfl)) (Or.inr (own_hw 23 hw rfl)) (by decide) (t := .int) (t' := (.object "com/example/hotrung/hotrung/image/Address$Area")) (by decide) (by decide))))
  obtain ⟨T3, h3, X3, e3, W3, st3⟩ := putF X2 hx hZ hown (host := "") (Or.inl (own_hw 24 hw rfl)) Via.refl e2 c5 c4 (Or.inr ⟨(own_hw 25 hw rfl), rfl, hnm⟩) (own_hw 9 hw rfl) (ty := .int) (by decide) rfl rfl (g := (mkF m 11 #[VR ua, VR uk, VI uj] [(.int uj), (.ref ua)])) rfl rfl (hb hby d2_11)
  have sz3 := W3.size
  have O3 := O2.wr W3 gn_ua
  have K3 := K2.wr W3 (Or.inl (List.mem_of_getElem? (i := 0) rfl))
  have N3 := Fr.snoc X3 N2 gn_ua
  have F3 := c5.same W3
  refine own_by (B := T3.setTop (mkF m 14 #[VR ua, VR uk, VI uj] [])) st3 ?_
  have c6 := (F2.other W3 (Or.inr (slot_ne (Or.inr (own_hw 23 hw rfl)) (Or.inr (own_hw 25 hw rfl)) (by decide) (t := (.object "com/example/hotrung/hotrung/image/Address$Area")) (t' := .int) (by decide) (by decide))))
  have c7 := (c4.wr W3)
  exact own_retV X3 hx hrt hlk (hb hby d2_14) (by decide) (by decide) (by show own_QAd Z ua uk uj h0 n0 none T3.heap _; rw [e3]; exact ⟨rfl, N3, K3, c7, c6, F3⟩)

def own_EL : List (String × Nat) := consts_1
theorem own_mem : ("com/example/hotrung/hotrung/image/Address", 169) ∈ own_EL := by decide
section OwnRetAH
variable {p : Program} {l : Launch} {e : Env} {R : Room} {s : State} {m : MethodId} {args : Array Value} {below : List Frame} {meth : Method} {c : Code} {T : State} {locs : List Loc} {cells slots : Nat} {Q : Option Value → Heap → List Loc → Prop} {kc ks : Nat} {Z : State} {EL : List (String × Nat)}
theorem own_retAH {vm1 : Vm} (X : Stand p l e R (s.setVm vm1) m args below meth c T locs cells slots) (hx : p.tables.exec = Jvm.exec) {k1 : Nat} (hS : s.Since vm1 k1) (hk : k1 ≤ T.heap.size) {pc : Nat} {Ls : Array Slot} {w : Value} {t : FieldType} {rest : List Value} (hrt : meth.sig.returnType = some t) (ht : t.isReference = true) (hw : w.isRef = true) (hlk : meth.locks = false)
    (hd : decode c.code pc = .ok (.areturn, 1)) (hc : cells ≤ kc) (hs : slots ≤ ks) (hC : CHr Z EL s.vm s.heap T.vm T.heap) (hq : Q (some w) T.heap locs) :
    own_Go p.tables e below (own_KH Z EL s below Q kc ks) (T.setTop (mkF m pc Ls (w :: rest))) := by
  obtain ⟨fs, hr, hrun, hended, hW⟩ := Jvm.Stand.leaveW X hS hk (v := some w) (fun h => by rw [hrt] at h; cases h) hlk
  exact ⟨_, retOut X hx hrt (by rcases ref_cases hw with rfl | ⟨a, rfl⟩ <;> cases t <;> first | rfl | (cases ht)) (Or.inr (Or.inr (Or.inr (Or.inr ⟨rfl, ht, hw⟩)))) hd hr, some w, locs, hrun, hended, hq, hC, own_monoW hW hc hs⟩
end OwnRetAH

def own_Q_rmToINPUT_BIT (Z : State) (ua : Nat) (h0 : Heap) (n0 : Nat) (v : Option Value) (h : Heap) (L : List Loc) : Prop := ∃ (r0_ r1_ : Nat) (kr0_ : ClassId), v = some (.ref r0_) ∧ Fr n0 L ∧ Keep h0 h [] ∧ h0.size ≤ r0_ ∧ h0.size ≤ r1_ ∧ Exa Z h r0_ "java/lang/String" ∧ Fld Z h r0_ "java/lang/String" "value" "[B" (.ref r1_) ∧ Fld Z h r0_ "java/lang/String" "coder" "B" (.int 0) ∧ Arv Z h r1_ kr0_ .byte (6 : Int32) [(.int 37), (.int 73), (.int 88), (.int (nar .byte (48 : Int32))), (.int 46), (.int (nar .byte (48 : Int32)))] (.int 0)

theorem d5_0 : decode prog_30_method_5_code 0 = .ok (.aload_n 0, 1) := by decide +kernel
theorem d5_1 : decode prog_30_method_5_code 1 = .ok (.getfield 7, 3) := by decide +kernel
theorem d5_4 : decode prog_30_method_5_code 4 = .ok (.invokevirtual 71, 3) := by decide +kernel
theorem d5_7 : decode prog_30_method_5_code 7 = .ok (.ifCond .eq 51, 3) := by decide +kernel
theorem d5_10 : decode prog_30_method_5_code 10 = .ok (.new 80, 3) := by decide +kernel
theorem d5_13 : decode prog_30_method_5_code 13 = .ok (.dup, 1) := by decide +kernel
theorem d5_14 : decode prog_30_method_5_code 14 = .ok (.invokespecial 82, 3) := by decide +kernel
theorem d5_17 : decode prog_30_method_5_code 17 = .ok (.aload_n 0, 1) := by decide +kernel
theorem d5_18 : decode prog_30_method_5_code 18 = .ok (.getfield 7, 3) := by decide +kernel
theorem d5_21 : decode prog_30_method_5_code 21 = .ok (.getfield 162, 3) := by decide +kernel
theorem d5_24 : decode prog_30_method_5_code 24 = .ok (.invokevirtual 85, 3) := by decide +kernel
theorem d5_27 : decode prog_30_method_5_code 27 = .ok (.aload_n 0, 1) := by decide +kernel
theorem d5_28 : decode prog_30_method_5_code 28 = .ok (.getfield 13, 3) := by decide +kernel
theorem d5_31 : decode prog_30_method_5_code 31 = .ok (.bipush 8, 2) := by decide +kernel
theorem d5_33 : decode prog_30_method_5_code 33 = .ok (.idiv, 1) := by decide +kernel
theorem d5_34 : decode prog_30_method_5_code 34 = .ok (.invokevirtual 166, 3) := by decide +kernel
theorem d5_37 : decode prog_30_method_5_code 37 = .ok (.ldc 169, 2) := by decide +kernel
theorem d5_39 : decode prog_30_method_5_code 39 = .ok (.invokevirtual 85, 3) := by decide +kernel
theorem d5_42 : decode prog_30_method_5_code 42 = .ok (.aload_n 0, 1) := by decide +kernel
theorem d5_43 : decode prog_30_method_5_code 43 = .ok (.getfield 13, 3) := by decide +kernel
theorem d5_46 : decode prog_30_method_5_code 46 = .ok (.bipush 8, 2) := by decide +kernel
theorem d5_48 : decode prog_30_method_5_code 48 = .ok (.irem, 1) := by decide +kernel
theorem d5_49 : decode prog_30_method_5_code 49 = .ok (.invokevirtual 166, 3) := by decide +kernel
theorem d5_52 : decode prog_30_method_5_code 52 = .ok (.invokevirtual 91, 3) := by decide +kernel
theorem d5_55 : decode prog_30_method_5_code 55 = .ok (.goto 30, 3) := by decide +kernel
theorem d5_85 : decode prog_30_method_5_code 85 = .ok (.areturn, 1) := by decide +kernel
theorem pd_5___Z : parseMethodDescriptor "()Z" = some ⟨[], some .boolean⟩ := by decide +kernel
theorem pd_5___V : parseMethodDescriptor "()V" = some ⟨[], none⟩ := by decide +kernel
theorem pd_5__Ljava_lang_String__Ljava_lang_StringBuilder_ : parseMethodDescriptor "(Ljava/lang/String;)Ljava/lang/StringBuilder;" = some ⟨[(.object "java/lang/String")], some (.object "java/lang/StringBuilder")⟩ := by decide +kernel
theorem pd_5__I_Ljava_lang_StringBuilder_ : parseMethodDescriptor "(I)Ljava/lang/StringBuilder;" = some ⟨[.int], some (.object "java/lang/StringBuilder")⟩ := by decide +kernel
theorem pd_5___Ljava_lang_String_ : parseMethodDescriptor "()Ljava/lang/String;" = some ⟨[], some (.object "java/lang/String")⟩ := by decide +kernel
theorem pn_rmToINPUT_BIT : plainFor (⟨"com/example/hotrung/hotrung/image/Address", "toString", "()Ljava/lang/String;"⟩ : MethodName) = true := by first | exact plainFor_of_name (by first | (simp [plainName, overriddenIn]; done) | decide +kernel) | exact Jvm.Free.JP.mathPlain rfl (by decide +kernel) | decide +kernel
theorem ef_rmToINPUT_BIT (m : MethodId) (x0 : Nat) : entryFrame m #[(.ref x0)] 1 = mkF m 0 #[VR x0] [] := by first | (simp [entryFrame, mkF, argsToLocals, Value.category]; done) | rfl
set_option maxRecDepth 65536 in
set_option maxHeartbeats 40000000 in
theorem rmToINPUT_BIT (l : Launch) (Z : State) (a0 : Array Value) (hw : ∀ d ∈ tables_1, d.before a0 Z = true) (ws : List Jvm.Cond) (a_INPUT_BIT a_OUTPUT_BIT a_OUTPUT_WORD a_INPUT_WORD a_MEMORY_WORD p_INPUT_BIT v_INPUT_BIT p_OUTPUT_WORD v_OUTPUT_WORD p_OUTPUT_BIT v_OUTPUT_BIT p_MEMORY_WORD v_MEMORY_WORD p_INPUT_WORD v_INPUT_WORD a_DigitOnes : Nat) (k_INPUT_BIT : ClassId) (k_OUTPUT_WORD : ClassId) (k_OUTPUT_BIT : ClassId) (k_MEMORY_WORD : ClassId) (k_INPUT_WORD : ClassId) (ucs : Int32) (uff : Value) (ua : Nat) (h0 : Heap) (n0 : Nat) (Z0 : n0 ≤ h0.size) (O0 : Old Z n0 h0) (HW : own_W Z Z.heap a_INPUT_BIT a_OUTPUT_BIT a_OUTPUT_WORD a_INPUT_WORD a_MEMORY_WORD p_INPUT_BIT v_INPUT_BIT p_OUTPUT_WORD v_OUTPUT_WORD p_OUTPUT_BIT v_OUTPUT_BIT p_MEMORY_WORD v_MEMORY_WORD p_INPUT_WORD v_INPUT_WORD a_DigitOnes k_INPUT_BIT k_OUTPUT_WORD k_OUTPUT_BIT k_MEMORY_WORD k_INPUT_WORD ucs uff) (E_ua : Exa Z h0 ua "com/example/hotrung/hotrung/image/Address") (F_ua_area : Fld Z h0 ua "com/example/hotrung/hotrung/image/Address" "area" "Lcom/example/hotrung/hotrung/image/Address$Area;" (.ref a_INPUT_BIT)) (F_ua_cell : Fld Z h0 ua "com/example/hotrung/hotrung/image/Address" "cell" "I" (.int 0))   :
    MetFree l (⟨"com/example/hotrung/hotrung/image/Address", "toString", "()Ljava/lang/String;"⟩ : MethodName) (head1 (Jvm.Cond.code (⟨"com/example/hotrung/hotrung/image/Address", "toString", "()Ljava/lang/String;"⟩ : MethodName) prog_30_method_5_code 1 (some (.object "java/lang/String")) :: ws) ({ frames := 6, cells := 6, slots := 38, locals := 124 } : Room)) (fun a U => a = #[(.ref ua)] ∧ Z.Warmed39 U.vm ∧ U.heap = h0 ∧ CHv Z own_EL U.vm h0) (fun _ _ _ _ _ => True) (fun _ U o U' => ∃ v L, o = .returned v ∧ (own_Q_rmToINPUT_BIT Z ua h0 n0) v U'.heap L ∧ CHr Z own_EL U.vm U.heap U'.vm U'.heap ∧ ReturnedEndW U o U' L 6 38) := by
  refine MetFree.of_bodySF pn_rmToINPUT_BIT hisR ?_
  intro p e s m args below meth c s₁ Bd hml0 hP hK
  obtain ⟨rfl, hZ, hh, CH0⟩ := hP
  have hx := Bd.exec
  have hby := Bd.bytes
  have hml : c.maxLocals = 1 := hml0
  have hown : s.vm.findClass "com/example/hotrung/hotrung/image/Address" = some m.cls := findClass_of_methodNamed Bd.named
  have hnm := (name_of_methodNamed Bd.named Bd.method).1
  have hrt := Bd.returns
  have hlk := Bd.notSynchronized
  have X0 : Stand p l e ({ frames := 6, cells := 6, slots := 38, locals := 124 } : Room) s m #[(.ref ua)] below meth c s₁ [] 0 0 := Stand.of_body Bd
  have e0 : s₁.heap = h0 := by rw [← hh, Bd.state]; rfl
  have N0 := Fr.nil n0
  have K0 := Keep.refl h0 []
  have HW' := HW
  obtain ⟨-, E_INPUT_BIT, -, -, -, -, -, -, -, -, -, -, -, -, -, E_p_INPUT_BIT, F_INPUT_BIT_prefix, F_p_INPUT_BIT_value, F_p_INPUT_BIT_coder, V_v_INPUT_BIT, -, -, -, -, -, -, -, -, -, -, -, -, -, -, -, -, -, -, -, -, -, -, -, -, -, -⟩ := HW'
  have lt_E_ua := own_lt E_ua.lt
  have lt_p := own_lt (E_p_INPUT_BIT.ext O0.2).lt
  have lt_v := own_lt (V_v_INPUT_BIT.ext O0.2).lt
  have lt_x := own_lt (E_INPUT_BIT.ext O0.2).lt
  have hs0 : s.heap = h0 := hh
  have own_wS : ∀ a ∈ Bundle.stringAtoms, a.before a0 Z = true := by
    intro d hd
    simp only [Bundle.stringAtoms, List.mem_cons, List.not_mem_nil, or_false] at hd
    rcases hd with rfl | rfl | rfl | rfl | rfl | rfl | rfl
    · exact (own_hw 51 hw rfl)
    · exact (own_hw 134 hw rfl)
    · exact (own_hw 52 hw rfl)
    · exact (own_hw 75 hw rfl)
    · exact (own_hw 83 hw rfl)
    · exact (own_hw 135 hw rfl)
    · exact (own_hw 136 hw rfl)
  have own_hEL : EW Z a0 own_EL := EW.cons (own_hw 133 hw rfl) (by decide) EW.nil
  have CHr0 := CHr.refl CH0
  refine own_doneH (B := s₁.setTop (mkF m 0 #[VR ua] [])) (fun t k => castTop (ef_rmToINPUT_BIT m ua) k) ?_
  refine own_by (B := s₁.setTop (mkF m 1 #[VR ua] [(.ref ua)])) (fun _ k => XS.aloadN X0.here hx rfl (hb hby d5_0) rfl rfl  k) ?_
  obtain ⟨T1, X1, e1, st1⟩ := getF X0 hx hZ hown (host := "") (Or.inl (own_hw 22 hw rfl)) Via.refl e0 F_ua_area (g := (mkF m 1 #[VR ua] [(.ref ua)])) rfl rfl (hb hby d5_1)
  refine own_by (B := T1.setTop (mkF m 4 #[VR ua] [(.ref a_INPUT_BIT)])) st1 ?_
  obtain ⟨cq2, kq2, qa2, qb2, qc2⟩ := isOf hZ e1 (E_INPUT_BIT.ext O0.2)
  obtain ⟨_, _, ⟨T2, L2, k2, n2⟩, -, X2, ⟨Lc2, hQ2, l2, y2, z2⟩, st2⟩ := X1.virtualBack hx (y := (⟨"com/example/hotrung/hotrung/image/Address$Area", "isBit", "()Z"⟩ : MethodName)) (z := (⟨"com/example/hotrung/hotrung/image/Address$Area", "isBit", "()Z"⟩ : MethodName)) hown (mvT hZ (own_hw 31 hw rfl)) (mvT hZ (own_hw 32 hw rfl)) (notFace_of_selects (args := #[]) (mvT hZ (own_hw 34 hw rfl))) (mvT hZ (own_hw 34 hw rfl)) (mvT hZ (own_hw 33 hw rfl)) (by decide) (backOf (W := 0) (rm_isBit l Z a0 hw [] a_INPUT_BIT a_OUTPUT_BIT a_OUTPUT_WORD a_INPUT_WORD a_MEMORY_WORD p_INPUT_BIT v_INPUT_BIT p_OUTPUT_WORD v_OUTPUT_WORD p_OUTPUT_BIT v_OUTPUT_BIT p_MEMORY_WORD v_MEMORY_WORD p_INPUT_WORD v_INPUT_WORD a_DigitOnes k_INPUT_BIT k_OUTPUT_WORD k_OUTPUT_BIT k_MEMORY_WORD k_INPUT_WORD ucs uff a_INPUT_BIT h0 n0 (own_old_le O0) O0 HW) hZ (own_hw 35 hw rfl) (own_hw 6 hw rfl) (by decide) (by decide)) qa2 qc2 (g := (mkF m 4 #[VR ua] [(.ref a_INPUT_BIT)])) rfl (by rw [hml]; rfl) (Steps.refl _) (argsL := []) (rest := []) (lenOf pd_5___Z rfl) rfl (by show 2 * 0 + _ ≤ _; exact Nat.le_of_eq rfl) (hb hby d5_4) (fun _ _ => ⟨rfl, e1, (by decide : 0 + 0 ≤ _), (by decide : 0 + 0 ≤ _)⟩)
  dsimp only [Pt.U, Pt.locs, Pt.cells, Pt.slots] at X2 l2 y2 z2 st2 hQ2
  subst l2 y2 z2
  obtain ⟨rfl, N2, e2⟩ := hQ2
  refine own_by (B := T2.setTop (mkF m 7 #[VR ua] [(.int (own_isBit a_INPUT_BIT a_INPUT_BIT a_OUTPUT_BIT))])) (fun _ k => st2.trans k) ?_
  have M2 := Fr.app N0 N2
  rw [show (own_isBit a_INPUT_BIT a_INPUT_BIT a_OUTPUT_BIT) = (1 : Int32) from by unfold own_isBit; rw [if_pos rfl]]
  refine own_by (B := T2.setTop (mkF m 10 #[VR ua] [])) (fun _ k => XS.ifNo X2.here hx rfl (hb hby d5_7) rfl (XT.i0_eq_f (by decide)) k) ?_
  obtain ⟨T3, h3, X3, e3, E3, A3, D3, -, st3⟩ := newO X2 hx hZ hown (own_hw 37 hw rfl) (own_hw 38 hw rfl) (own_hw 39 hw rfl) e2 (g := (mkF m 10 #[VR ua] [])) rfl (hb hby d5_10) (by decide) (by decide)
  obtain ⟨b3, g3⟩ : ∃ z, z = h0.size := ⟨_, rfl⟩
  rw [← g3] at A3 D3 st3
  have sz3 := E3.1
  have gn3 : n0 ≤ b3 := g3 ▸ own_old_le O0
  have fz3 : h0.size ≤ b3 := g3 ▸ K0.1
  have lt3 := own_lt A3.lt
  have O3 := O0.ext E3
  have K3 := K0.ext E3
  have F3_value : Fld Z h3 b3 "java/lang/AbstractStringBuilder" "value" "[B" .null := D3 (Or.inl (own_hw 54 hw rfl)) (ty := (.array .byte)) (by decide)
  have F3_coder : Fld Z h3 b3 "java/lang/AbstractStringBuilder" "coder" "B" (.int 0) := D3 (Or.inl (own_hw 56 hw rfl)) (ty := .byte) (by decide)
  have F3_count : Fld Z h3 b3 "java/lang/AbstractStringBuilder" "count" "I" (.int 0) := D3 (Or.inl (own_hw 85 hw rfl)) (ty := .int) (by decide)
  refine own_by (B := T3.setTop (mkF m 13 #[VR ua] [(.ref b3)])) st3 ?_
  have sn3 : Safe Z own_EL s.vm h0 b3 := Safe.new (Nat.le_of_eq g3.symm)
  have sa4_b3 := Safe.ext E3 CHr0.1 sn3
  have CHc4 := CHr0.trans (CHr.ext E3 CHr0.1)
  refine own_by (B := T3.setTop (mkF m 14 #[VR ua] [(.ref b3), (.ref b3)])) (fun _ k => XS.dup X3.here hx rfl (hb hby d5_13) rfl rfl k) ?_
  obtain ⟨_, _, ⟨T5, L5, k5, n5⟩, -, X5, ⟨Lc5, hQ5, l5, y5, z5⟩, st5⟩ := X3.specialBack hx (y := (⟨"java/lang/StringBuilder", "<init>", "()V"⟩ : MethodName)) rfl hown (mvT hZ (own_hw 40 hw rfl)) (mvT hZ (own_hw 41 hw rfl)) (mvT hZ (own_hw 42 hw rfl)) (by decide) (backOf (W := 1) (rmSBi l Z a0 hw [] a_INPUT_BIT a_OUTPUT_BIT a_OUTPUT_WORD a_INPUT_WORD a_MEMORY_WORD p_INPUT_BIT v_INPUT_BIT p_OUTPUT_WORD v_OUTPUT_WORD p_OUTPUT_BIT v_OUTPUT_BIT p_MEMORY_WORD v_MEMORY_WORD p_INPUT_WORD v_INPUT_WORD a_DigitOnes k_INPUT_BIT k_OUTPUT_WORD k_OUTPUT_BIT k_MEMORY_WORD k_INPUT_WORD ucs uff b3 h3 n0 (own_old_le O3) O3 HW A3 F3_value F3_coder F3_count gn3) hZ (own_hw 42 hw rfl) (own_hw 39 hw rfl) (by decide) (by decide)) (g := (mkF m 14 #[VR ua] [(.ref b3), (.ref b3)])) rfl (by rw [hml]; rfl) (Steps.refl _) (a := b3) (argsL := []) (rest := [(.ref b3)]) (lenOf pd_5___V rfl) rfl (by show 2 * 0 + _ ≤ _; exact Nat.le_of_eq rfl) (hb hby d5_14) (fun _ _ => ⟨rfl, e3, (by decide : 1 + 1 ≤ _), (by decide : 4 + 16 ≤ _)⟩)
  dsimp only [Pt.U, Pt.locs, Pt.cells, Pt.slots] at X5 l5 y5 z5 st5 hQ5
  subst l5 y5 z5
  obtain ⟨r0_N5, kr0_N5, rfl, NC5, KC5, hb0_N5, Q0_N5, Q1_N5, Q2_N5, Q3_N5, Q4_N5⟩ := hQ5
  refine own_by (B := T5.setTop (mkF m 17 #[VR ua] [(.ref b3)])) (fun _ k => st5.trans k) ?_
  have sn5 : Safe Z own_EL s.vm h3 r0_N5 := Safe.new hb0_N5
  have gnr0_N5 : n0 ≤ r0_N5 := Nat.le_trans (own_old_le O3) hb0_N5
  have fzr0_N5 : h0.size ≤ r0_N5 := Nat.le_trans K3.1 hb0_N5
  obtain ⟨h5, e5⟩ : ∃ z, T5.heap = z := ⟨_, rfl⟩
  rw [e5] at KC5 Q0_N5 Q1_N5 Q2_N5 Q3_N5 Q4_N5
  have sz5 := KC5.1
  have O5 := O3.keep KC5 (allS gn3 all0)
  have K5 := K3.trans KC5 (allS (Or.inr fz3) all0)
  have N5 := Fr.app M2 NC5
  have ltq4_5 := own_lt Q4_N5.lt
  have sfq6 : ∀ x ∈ [b3], Safe Z own_EL s.vm h3 x := (sfS sa4_b3 sf0)
  have sa6_b3 := Safe.keep KC5 sfq6 CHc4.1 sa4_b3
  have sa6_r0_N5 := Safe.keep KC5 sfq6 CHc4.1 sn5
  have CHc6 := CHc4.trans (CHr.keep KC5 sfq6 CHc4.1)
  refine own_by (B := T5.setTop (mkF m 18 #[VR ua] [(.ref ua), (.ref b3)])) (fun _ k => XS.aloadN X5.here hx rfl (hb hby d5_17) rfl rfl  k) ?_
  have c7 := ((F_ua_area.ext E3).keep KC5 (ninS (own_ne (by omega)) nin0))
  obtain ⟨T8, X8, e8, st8⟩ := getF X5 hx hZ hown (host := "") (Or.inl (own_hw 22 hw rfl)) Via.refl e5 c7 (g := (mkF m 18 #[VR ua] [(.ref ua), (.ref b3)])) rfl rfl (hb hby d5_18)
  refine own_by (B := T8.setTop (mkF m 21 #[VR ua] [(.ref a_INPUT_BIT), (.ref b3)])) st8 ?_
  have c9 := (((F_INPUT_BIT_prefix.ext O0.2).ext E3).keep KC5 (ninS (own_ne (by omega)) nin0))
  refine own_by (B := T8.setTop (mkF m 24 #[VR ua] [(.ref p_INPUT_BIT), (.ref b3)])) (fun _ k => own_getR X8 hx hZ hown (own_hw 57 hw rfl) e8 c9 (g := (mkF m 21 #[VR ua] [(.ref a_INPUT_BIT), (.ref b3)])) rfl rfl (hb hby d5_21) _ k) ?_
  have c11 := (((E_p_INPUT_BIT.ext O0.2).ext E3).keep KC5)
  have c12 := (((F_p_INPUT_BIT_value.ext O0.2).ext E3).keep KC5 (ninS (own_ne (by omega)) nin0))
  have c13 := (((F_p_INPUT_BIT_coder.ext O0.2).ext E3).keep KC5 (ninS (own_ne (by omega)) nin0))
  have c14 := (((V_v_INPUT_BIT.ext O0.2).ext E3).keep KC5 (ninS (own_ne (by omega)) nin0))
  obtain ⟨cq15, kq15, qa15, qb15, qc15⟩ := isOf hZ e8 Q0_N5
  obtain ⟨_, _, ⟨T15, L15, k15, n15⟩, -, X15, ⟨Lc15, hQ15, l15, y15, z15⟩, st15⟩ := X8.virtualBack hx (y := (⟨"java/lang/StringBuilder", "append", "(Ljava/lang/String;)Ljava/lang/StringBuilder;"⟩ : MethodName)) (z := (⟨"java/lang/StringBuilder", "append", "(Ljava/lang/String;)Ljava/lang/StringBuilder;"⟩ : MethodName)) hown (mvT hZ (own_hw 59 hw rfl)) (mvT hZ (own_hw 60 hw rfl)) (notFace_of_selects (args := #[]) (mvT hZ (own_hw 62 hw rfl))) (mvT hZ (own_hw 62 hw rfl)) (mvT hZ (own_hw 61 hw rfl)) (by decide) (backOf (W := 0) (rmAp0_3 l Z a0 hw [] a_INPUT_BIT a_OUTPUT_BIT a_OUTPUT_WORD a_INPUT_WORD a_MEMORY_WORD p_INPUT_BIT v_INPUT_BIT p_OUTPUT_WORD v_OUTPUT_WORD p_OUTPUT_BIT v_OUTPUT_BIT p_MEMORY_WORD v_MEMORY_WORD p_INPUT_WORD v_INPUT_WORD a_DigitOnes k_INPUT_BIT k_OUTPUT_WORD k_OUTPUT_BIT k_MEMORY_WORD k_INPUT_WORD ucs uff b3 r0_N5 kr0_N5 p_INPUT_BIT v_INPUT_BIT k_INPUT_BIT (37 : Int32) (73 : Int32) (88 : Int32) h5 n0 (own_old_le O5) O5 HW Q0_N5 Q1_N5 Q2_N5 Q3_N5 Q4_N5 c11 c12 c13 c14 gn3 gnr0_N5) hZ (own_hw 63 hw rfl) (own_hw 39 hw rfl) (by decide) (by decide)) qa15 qc15 (g := (mkF m 24 #[VR ua] [(.ref p_INPUT_BIT), (.ref b3)])) rfl (by rw [hml]; rfl) (Steps.refl _) (argsL := [(.ref p_INPUT_BIT)]) (rest := []) (lenOf pd_5__Ljava_lang_String__Ljava_lang_StringBuilder_ rfl) rfl (by show 2 * 0 + _ ≤ _; exact Nat.le_of_eq rfl) (hb hby d5_24) (fun _ _ => ⟨rfl, e8, (by decide : 2 + 0 ≤ _), (by decide : 20 + 0 ≤ _)⟩)
  dsimp only [Pt.U, Pt.locs, Pt.cells, Pt.slots] at X15 l15 y15 z15 st15 hQ15
  subst l15 y15 z15
  obtain ⟨rfl, NC15, KC15, Q0_N15, Q1_N15, Q2_N15, Q3_N15, Q4_N15⟩ := hQ15
  refine own_by (B := T15.setTop (mkF m 27 #[VR ua] [(.ref b3)])) (fun _ k => st15.trans k) ?_
  obtain ⟨h15, e15⟩ : ∃ z, T15.heap = z := ⟨_, rfl⟩
  rw [e15] at KC15 Q0_N15 Q1_N15 Q2_N15 Q3_N15 Q4_N15
  have sz15 := KC15.1
  have O15 := O5.keep KC15 (allS gn3 (allS gnr0_N5 all0))
  have K15 := K5.trans KC15 (allS (Or.inr fz3) (allS (Or.inr fzr0_N5) all0))
  have N15 := Fr.app N5 NC15
  have sfq16 : ∀ x ∈ [b3, r0_N5], Safe Z own_EL s.vm h5 x := (sfS sa6_b3 (sfS sa6_r0_N5 sf0))
  have sa16_b3 := Safe.keep KC15 sfq16 CHc6.1 sa6_b3
  have sa16_r0_N5 := Safe.keep KC15 sfq16 CHc6.1 sa6_r0_N5
  have CHc16 := CHc6.trans (CHr.keep KC15 sfq16 CHc6.1)
  refine own_by (B := T15.setTop (mkF m 28 #[VR ua] [(.ref ua), (.ref b3)])) (fun _ k => XS.aloadN X15.here hx rfl (hb hby d5_27) rfl rfl  k) ?_
  have c17 := (((F_ua_cell.ext E3).keep KC5 (ninS (own_ne (by omega)) nin0)).keep KC15 (ninS (own_ne (by omega)) (ninS (own_ne (by omega)) nin0)))
  obtain ⟨T18, X18, e18, st18⟩ := getF X15 hx hZ hown (host := "") (Or.inl (own_hw 24 hw rfl)) Via.refl e15 c17 (g := (mkF m 28 #[VR ua] [(.ref ua), (.ref b3)])) rfl rfl (hb hby d5_28)
  refine own_by (B := T18.setTop (mkF m 31 #[VR ua] [(.int 0), (.ref b3)])) st18 ?_
  refine own_by (B := T18.setTop (mkF m 33 #[VR ua] [(.int 8), (.int 0), (.ref b3)])) (fun _ k => XS.bipush X18.here hx rfl (hb hby d5_31) k) ?_
  refine own_by (B := T18.setTop (mkF m 34 #[VR ua] [(.int 0), (.ref b3)])) (fun _ k => XS.idiv X18.here hx rfl (hb hby d5_33) rfl (by decide) k) ?_
  obtain ⟨cq19, kq19, qa19, qb19, qc19⟩ := isOf hZ e18 Q0_N15
  obtain ⟨_, _, ⟨T19, L19, k19, n19⟩, -, X19, ⟨Lc19, hQ19, l19, y19, z19⟩, st19⟩ := X18.virtualBack hx (y := (⟨"java/lang/StringBuilder", "append", "(I)Ljava/lang/StringBuilder;"⟩ : MethodName)) (z := (⟨"java/lang/StringBuilder", "append", "(I)Ljava/lang/StringBuilder;"⟩ : MethodName)) hown (mvT hZ (own_hw 111 hw rfl)) (mvT hZ (own_hw 112 hw rfl)) (notFace_of_selects (args := #[]) (mvT hZ (own_hw 114 hw rfl))) (mvT hZ (own_hw 114 hw rfl)) (mvT hZ (own_hw 113 hw rfl)) (by decide) (backOf (W := 0) (rmAi3 l Z a0 hw [] a_INPUT_BIT a_OUTPUT_BIT a_OUTPUT_WORD a_INPUT_WORD a_MEMORY_WORD p_INPUT_BIT v_INPUT_BIT p_OUTPUT_WORD v_OUTPUT_WORD p_OUTPUT_BIT v_OUTPUT_BIT p_MEMORY_WORD v_MEMORY_WORD p_INPUT_WORD v_INPUT_WORD a_DigitOnes k_INPUT_BIT k_OUTPUT_WORD k_OUTPUT_BIT k_MEMORY_WORD k_INPUT_WORD ucs uff b3 r0_N5 kr0_N5 (37 : Int32) (73 : Int32) (88 : Int32) h15 n0 (own_old_le O15) O15 HW Q0_N15 Q1_N15 Q2_N15 Q3_N15 Q4_N15 gn3 gnr0_N5) hZ (own_hw 115 hw rfl) (own_hw 39 hw rfl) (by decide) (by decide)) qa19 qc19 (g := (mkF m 34 #[VR ua] [(.int 0), (.ref b3)])) rfl (by rw [hml]; rfl) (Steps.refl _) (argsL := [(.int 0)]) (rest := []) (lenOf pd_5__I_Ljava_lang_StringBuilder_ rfl) rfl (by show 2 * 0 + _ ≤ _; exact Nat.le_of_eq rfl) (hb hby d5_34) (fun _ _ => ⟨rfl, e18, (by decide : 2 + 0 ≤ _), (by decide : 20 + 0 ≤ _)⟩)
  dsimp only [Pt.U, Pt.locs, Pt.cells, Pt.slots] at X19 l19 y19 z19 st19 hQ19
  subst l19 y19 z19
  obtain ⟨rfl, NC19, KC19, Q0_N19, Q1_N19, Q2_N19, Q3_N19, Q4_N19⟩ := hQ19
  refine own_by (B := T19.setTop (mkF m 37 #[VR ua] [(.ref b3)])) (fun _ k => st19.trans k) ?_
  obtain ⟨h19, e19⟩ : ∃ z, T19.heap = z := ⟨_, rfl⟩
  rw [e19] at KC19 Q0_N19 Q1_N19 Q2_N19 Q3_N19 Q4_N19
  have sz19 := KC19.1
  have O19 := O15.keep KC19 (allS gn3 (allS gnr0_N5 all0))
  have K19 := K15.trans KC19 (allS (Or.inr fz3) (allS (Or.inr fzr0_N5) all0))
  have N19 := Fr.app N15 NC19
  have sfq20 : ∀ x ∈ [b3, r0_N5], Safe Z own_EL s.vm h15 x := (sfS sa16_b3 (sfS sa16_r0_N5 sf0))
  have sa20_b3 := Safe.keep KC19 sfq20 CHc16.1 sa16_b3
  have sa20_r0_N5 := Safe.keep KC19 sfq20 CHc16.1 sa16_r0_N5
  have CHc20 := CHc16.trans (CHr.keep KC19 sfq20 CHc16.1)
  obtain ⟨al21, T21, h21, ks21, bl21, kl21, X21, e21, E21, hS21, hk21, hZ, hown, El21, Fc21, Fv21, Vl21, -, -, CR21, -, -, st21⟩ := ldcCH (s := s) (vm0 := s.vm) X19 hx hZ hown (text := ".") (own_hw 133 hw rfl) own_wS e19 (k0 := 0) ((State.WarmedH.refl s).since 0) (Nat.zero_le _) own_hEL own_mem (EL := own_EL) CHc20.1 (vs := [(.int 46)]) (z := (1 : Int32)) ⟨by decide, by decide +kernel⟩ (by decide) rfl (g := (mkF m 37 #[VR ua] [(.ref b3)])) rfl (hb hby d5_37) (n := 4) (by decide) (by decide) (by decide) (by decide)
  have sl21_b3 := CR21.safe Q0_N19.lt sa20_b3
  have sl21_r0_N5 := CR21.safe Q4_N19.lt sa20_r0_N5
  have CHc21 := CHc20.trans CR21
  have sz21 := E21.1
  have O21 := O19.ext E21
  have K21 := K19.ext E21
  have ltl21 := own_lt El21.lt
  have ltm21 := own_lt Vl21.lt
  refine own_by (B := T21.setTop (mkF m 39 #[VR ua] [(.ref al21), (.ref b3)])) st21 ?_
  have c22 := (Q0_N19.ext E21)
  have c23 := (Q1_N19.ext E21)
  have c24 := (Q2_N19.ext E21)
  have c25 := (Q3_N19.ext E21)
  have c26 := (Q4_N19.ext E21)
  obtain ⟨cq27, kq27, qa27, qb27, qc27⟩ := isOf hZ e21 c22
  obtain ⟨_, _, ⟨T27, L27, k27, n27⟩, -, X27, ⟨Lc27, hQ27, l27, y27, z27⟩, st27⟩ := X21.virtualBack hx (y := (⟨"java/lang/StringBuilder", "append", "(Ljava/lang/String;)Ljava/lang/StringBuilder;"⟩ : MethodName)) (z := (⟨"java/lang/StringBuilder", "append", "(Ljava/lang/String;)Ljava/lang/StringBuilder;"⟩ : MethodName)) hown (mvT hZ (own_hw 59 hw rfl)) (mvT hZ (own_hw 60 hw rfl)) (notFace_of_selects (args := #[]) (mvT hZ (own_hw 62 hw rfl))) (mvT hZ (own_hw 62 hw rfl)) (mvT hZ (own_hw 61 hw rfl)) (by decide) (backOf (W := 0) (rmAp4_1 l Z a0 hw [] a_INPUT_BIT a_OUTPUT_BIT a_OUTPUT_WORD a_INPUT_WORD a_MEMORY_WORD p_INPUT_BIT v_INPUT_BIT p_OUTPUT_WORD v_OUTPUT_WORD p_OUTPUT_BIT v_OUTPUT_BIT p_MEMORY_WORD v_MEMORY_WORD p_INPUT_WORD v_INPUT_WORD a_DigitOnes k_INPUT_BIT k_OUTPUT_WORD k_OUTPUT_BIT k_MEMORY_WORD k_INPUT_WORD ucs uff b3 r0_N5 kr0_N5 al21 bl21 kl21 (37 : Int32) (73 : Int32) (88 : Int32) (nar .byte (48 : Int32)) (46 : Int32) h21 n0 (own_old_le O21) O21 HW c22 c23 c24 c25 c26 El21 Fv21 Fc21 Vl21 gn3 gnr0_N5) hZ (own_hw 63 hw rfl) (own_hw 39 hw rfl) (by decide) (by decide)) qa27 qc27 (g := (mkF m 39 #[VR ua] [(.ref al21), (.ref b3)])) rfl (by rw [hml]; rfl) (Steps.refl _) (argsL := [(.ref al21)]) (rest := []) (lenOf pd_5__Ljava_lang_String__Ljava_lang_StringBuilder_ rfl) rfl (by show 2 * 0 + _ ≤ _; exact Nat.le_of_eq rfl) (hb hby d5_39) (fun _ _ => ⟨rfl, e21, (by decide : 4 + 0 ≤ _), (by decide : 28 + 0 ≤ _)⟩)
  dsimp only [Pt.U, Pt.locs, Pt.cells, Pt.slots] at X27 l27 y27 z27 st27 hQ27
  subst l27 y27 z27
  obtain ⟨rfl, NC27, KC27, Q0_N27, Q1_N27, Q2_N27, Q3_N27, Q4_N27⟩ := hQ27
  refine own_by (B := T27.setTop (mkF m 42 #[VR ua] [(.ref b3)])) (fun _ k => st27.trans k) ?_
  obtain ⟨h27, e27⟩ : ∃ z, T27.heap = z := ⟨_, rfl⟩
  rw [e27] at KC27 Q0_N27 Q1_N27 Q2_N27 Q3_N27 Q4_N27
  have sz27 := KC27.1
  have O27 := O21.keep KC27 (allS gn3 (allS gnr0_N5 all0))
  have K27 := K21.trans KC27 (allS (Or.inr fz3) (allS (Or.inr fzr0_N5) all0))
  have N27 := Fr.app N19 NC27
  have sfq28 : ∀ x ∈ [b3, r0_N5], Safe Z own_EL T21.vm h21 x := (sfS sl21_b3 (sfS sl21_r0_N5 sf0))
  have sa28_b3 := Safe.keep KC27 sfq28 CHc21.1 sl21_b3
  have sa28_r0_N5 := Safe.keep KC27 sfq28 CHc21.1 sl21_r0_N5
  have CHc28 := CHc21.trans (CHr.keep KC27 sfq28 CHc21.1)
  refine own_by (B := T27.setTop (mkF m 43 #[VR ua] [(.ref ua), (.ref b3)])) (fun _ k => XS.aloadN X27.here hx rfl (hb hby d5_42) rfl rfl  k) ?_
  have c29 := (((c17.keep KC19 (ninS (own_ne (by omega)) (ninS (own_ne (by omega)) nin0))).ext E21).keep KC27 (ninS (own_ne (by omega)) (ninS (own_ne (by omega)) nin0)))
  obtain ⟨T30, X30, e30, st30⟩ := getF X27 hx hZ hown (host := "") (Or.inl (own_hw 24 hw rfl)) Via.refl e27 c29 (g := (mkF m 43 #[VR ua] [(.ref ua), (.ref b3)])) rfl rfl (hb hby d5_43)
  refine own_by (B := T30.setTop (mkF m 46 #[VR ua] [(.int 0), (.ref b3)])) st30 ?_
  refine own_by (B := T30.setTop (mkF m 48 #[VR ua] [(.int 8), (.int 0), (.ref b3)])) (fun _ k => XS.bipush X30.here hx rfl (hb hby d5_46) k) ?_
  refine own_by (B := T30.setTop (mkF m 49 #[VR ua] [(.int 0), (.ref b3)])) (fun _ k => iremM (g := (mkF m 48 #[VR ua] [(.int 8), (.int 0), (.ref b3)])) X30 hx rfl (hb hby d5_48) rfl (by decide) k) ?_
  obtain ⟨cq31, kq31, qa31, qb31, qc31⟩ := isOf hZ e30 Q0_N27
  obtain ⟨_, _, ⟨T31, L31, k31, n31⟩, -, X31, ⟨Lc31, hQ31, l31, y31, z31⟩, st31⟩ := X30.virtualBack hx (y := (⟨"java/lang/StringBuilder", "append", "(I)Ljava/lang/StringBuilder;"⟩ : MethodName)) (z := (⟨"java/lang/StringBuilder", "append", "(I)Ljava/lang/StringBuilder;"⟩ : MethodName)) hown (mvT hZ (own_hw 111 hw rfl)) (mvT hZ (own_hw 112 hw rfl)) (notFace_of_selects (args := #[]) (mvT hZ (own_hw 114 hw rfl))) (mvT hZ (own_hw 114 hw rfl)) (mvT hZ (own_hw 113 hw rfl)) (by decide) (backOf (W := 0) (rmAi5 l Z a0 hw [] a_INPUT_BIT a_OUTPUT_BIT a_OUTPUT_WORD a_INPUT_WORD a_MEMORY_WORD p_INPUT_BIT v_INPUT_BIT p_OUTPUT_WORD v_OUTPUT_WORD p_OUTPUT_BIT v_OUTPUT_BIT p_MEMORY_WORD v_MEMORY_WORD p_INPUT_WORD v_INPUT_WORD a_DigitOnes k_INPUT_BIT k_OUTPUT_WORD k_OUTPUT_BIT k_MEMORY_WORD k_INPUT_WORD ucs uff b3 r0_N5 kr0_N5 (37 : Int32) (73 : Int32) (88 : Int32) (nar .byte (48 : Int32)) (46 : Int32) h27 n0 (own_old_le O27) O27 HW Q0_N27 Q1_N27 Q2_N27 Q3_N27 Q4_N27 gn3 gnr0_N5) hZ (own_hw 115 hw rfl) (own_hw 39 hw rfl) (by decide) (by decide)) qa31 qc31 (g := (mkF m 49 #[VR ua] [(.int 0), (.ref b3)])) rfl (by rw [hml]; rfl) (Steps.refl _) (argsL := [(.int 0)]) (rest := []) (lenOf pd_5__I_Ljava_lang_StringBuilder_ rfl) rfl (by show 2 * 0 + _ ≤ _; exact Nat.le_of_eq rfl) (hb hby d5_49) (fun _ _ => ⟨rfl, e30, (by decide : 4 + 0 ≤ _), (by decide : 28 + 0 ≤ _)⟩)
  dsimp only [Pt.U, Pt.locs, Pt.cells, Pt.slots] at X31 l31 y31 z31 st31 hQ31
  subst l31 y31 z31
  obtain ⟨rfl, NC31, KC31, Q0_N31, Q1_N31, Q2_N31, Q3_N31, Q4_N31⟩ := hQ31
  refine own_by (B := T31.setTop (mkF m 52 #[VR ua] [(.ref b3)])) (fun _ k => st31.trans k) ?_
  obtain ⟨h31, e31⟩ : ∃ z, T31.heap = z := ⟨_, rfl⟩
  rw [e31] at KC31 Q0_N31 Q1_N31 Q2_N31 Q3_N31 Q4_N31
  have sz31 := KC31.1
  have O31 := O27.keep KC31 (allS gn3 (allS gnr0_N5 all0))
  have K31 := K27.trans KC31 (allS (Or.inr fz3) (allS (Or.inr fzr0_N5) all0))
  have N31 := Fr.app N27 NC31
  have sfq32 : ∀ x ∈ [b3, r0_N5], Safe Z own_EL T21.vm h27 x := (sfS sa28_b3 (sfS sa28_r0_N5 sf0))
  have sa32_b3 := Safe.keep KC31 sfq32 CHc28.1 sa28_b3
  have sa32_r0_N5 := Safe.keep KC31 sfq32 CHc28.1 sa28_r0_N5
  have CHc32 := CHc28.trans (CHr.keep KC31 sfq32 CHc28.1)
  obtain ⟨cq33, kq33, qa33, qb33, qc33⟩ := isOf hZ e31 Q0_N31
  obtain ⟨_, _, ⟨T33, L33, k33, n33⟩, -, X33, ⟨Lc33, hQ33, l33, y33, z33⟩, st33⟩ := X31.virtualBack hx (y := (⟨"java/lang/StringBuilder", "toString", "()Ljava/lang/String;"⟩ : MethodName)) (z := (⟨"java/lang/StringBuilder", "toString", "()Ljava/lang/String;"⟩ : MethodName)) hown (mvT hZ (own_hw 137 hw rfl)) (mvT hZ (own_hw 138 hw rfl)) (notFace_of_selects (args := #[]) (mvT hZ (own_hw 140 hw rfl))) (mvT hZ (own_hw 140 hw rfl)) (mvT hZ (own_hw 139 hw rfl)) (by decide) (backOf (W := 0) (rmTs6 l Z a0 hw [] a_INPUT_BIT a_OUTPUT_BIT a_OUTPUT_WORD a_INPUT_WORD a_MEMORY_WORD p_INPUT_BIT v_INPUT_BIT p_OUTPUT_WORD v_OUTPUT_WORD p_OUTPUT_BIT v_OUTPUT_BIT p_MEMORY_WORD v_MEMORY_WORD p_INPUT_WORD v_INPUT_WORD a_DigitOnes k_INPUT_BIT k_OUTPUT_WORD k_OUTPUT_BIT k_MEMORY_WORD k_INPUT_WORD ucs uff b3 r0_N5 kr0_N5 (37 : Int32) (73 : Int32) (88 : Int32) (nar .byte (48 : Int32)) (46 : Int32) (nar .byte (48 : Int32)) h31 n0 (own_old_le O31) O31 HW Q0_N31 Q1_N31 Q2_N31 Q3_N31 Q4_N31) hZ (own_hw 141 hw rfl) (own_hw 39 hw rfl) (by decide) (by decide)) qa33 qc33 (g := (mkF m 52 #[VR ua] [(.ref b3)])) rfl (by rw [hml]; rfl) (Steps.refl _) (argsL := []) (rest := []) (lenOf pd_5___Ljava_lang_String_ rfl) rfl (by show 2 * 0 + _ ≤ _; exact Nat.le_of_eq rfl) (hb hby d5_52) (fun _ _ => ⟨rfl, e31, (by decide : 4 + 2 ≤ _), (by decide : 28 + 10 ≤ _)⟩)
  dsimp only [Pt.U, Pt.locs, Pt.cells, Pt.slots] at X33 l33 y33 z33 st33 hQ33
  subst l33 y33 z33
  obtain ⟨r0_N33, r1_N33, kr0_N33, rfl, NC33, KC33, hb0_N33, hb1_N33, Q0_N33, Q1_N33, Q2_N33, Q3_N33⟩ := hQ33
  refine own_by (B := T33.setTop (mkF m 55 #[VR ua] [(.ref r0_N33)])) (fun _ k => st33.trans k) ?_
  have gnr0_N33 : n0 ≤ r0_N33 := Nat.le_trans (own_old_le O31) hb0_N33
  have fzr0_N33 : h0.size ≤ r0_N33 := Nat.le_trans K31.1 hb0_N33
  have gnr1_N33 : n0 ≤ r1_N33 := Nat.le_trans (own_old_le O31) hb1_N33
  have fzr1_N33 : h0.size ≤ r1_N33 := Nat.le_trans K31.1 hb1_N33
  obtain ⟨h33, e33⟩ : ∃ z, T33.heap = z := ⟨_, rfl⟩
  rw [e33] at KC33 Q0_N33 Q1_N33 Q2_N33 Q3_N33
  have sz33 := KC33.1
  have O33 := O31.keep KC33 all0
  have K33 := K31.trans KC33 all0
  have N33 := Fr.app N31 NC33
  have ltq0_33 := own_lt Q0_N33.lt
  have ltq3_33 := own_lt Q3_N33.lt
  have sa34_b3 := Safe.keep KC33 sf0 CHc32.1 sa32_b3
  have sa34_r0_N5 := Safe.keep KC33 sf0 CHc32.1 sa32_r0_N5
  have CHc34 := CHc32.trans (CHr.keep KC33 sf0 CHc32.1)
  refine own_by (B := T33.setTop (mkF m 85 #[VR ua] [(.ref r0_N33)])) (fun _ k => XS.goto X33.here hx rfl (pc0 := 55) (pc' := 85) rfl (hb hby d5_55) (by decide) (by decide) k) ?_
  exact own_retAH (s := s) X33 hx hS21 (by rw [e33]; have := hk21; omega) hrt rfl rfl hlk (hb hby d5_85) (by decide) (by decide) (by rw [e33, hs0]; exact CHc34.trans (CHv.at (s := s) X33 hZ own_hEL CHc34.1)) (by show own_Q_rmToINPUT_BIT Z ua h0 n0 _ T33.heap _; rw [e33]; exact ⟨r0_N33, r1_N33, kr0_N33, rfl, N33, K33, fzr0_N33, fzr1_N33, Q0_N33, Q1_N33, Q2_N33, Q3_N33⟩)

def own_Q_rmToOUTPUT_BIT (Z : State) (ua : Nat) (h0 : Heap) (n0 : Nat) (v : Option Value) (h : Heap) (L : List Loc) : Prop := ∃ (r0_ r1_ : Nat) (kr0_ : ClassId), v = some (.ref r0_) ∧ Fr n0 L ∧ Keep h0 h [] ∧ h0.size ≤ r0_ ∧ h0.size ≤ r1_ ∧ Exa Z h r0_ "java/lang/String" ∧ Fld Z h r0_ "java/lang/String" "value" "[B" (.ref r1_) ∧ Fld Z h r0_ "java/lang/String" "coder" "B" (.int 0) ∧ Arv Z h r1_ kr0_ .byte (6 : Int32) [(.int 37), (.int 81), (.int 88), (.int (nar .byte (48 : Int32))), (.int 46), (.int (nar .byte (48 : Int32)))] (.int 0)

theorem pn_rmToOUTPUT_BIT : plainFor (⟨"com/example/hotrung/hotrung/image/Address", "toString", "()Ljava/lang/String;"⟩ : MethodName) = true := by first | exact plainFor_of_name (by first | (simp [plainName, overriddenIn]; done) | decide +kernel) | exact Jvm.Free.JP.mathPlain rfl (by decide +kernel) | decide +kernel
theorem ef_rmToOUTPUT_BIT (m : MethodId) (x0 : Nat) : entryFrame m #[(.ref x0)] 1 = mkF m 0 #[VR x0] [] := by first | (simp [entryFrame, mkF, argsToLocals, Value.category]; done) | rfl
set_option maxRecDepth 65536 in
set_option maxHeartbeats 40000000 in
theorem rmToOUTPUT_BIT (l : Launch) (Z : State) (a0 : Array Value) (hw : ∀ d ∈ tables_1, d.before a0 Z = true) (ws : List Jvm.Cond) (a_INPUT_BIT a_OUTPUT_BIT a_OUTPUT_WORD a_INPUT_WORD a_MEMORY_WORD p_INPUT_BIT v_INPUT_BIT p_OUTPUT_WORD v_OUTPUT_WORD p_OUTPUT_BIT v_OUTPUT_BIT p_MEMORY_WORD v_MEMORY_WORD p_INPUT_WORD v_INPUT_WORD a_DigitOnes : Nat) (k_INPUT_BIT : ClassId) (k_OUTPUT_WORD : ClassId) (k_OUTPUT_BIT : ClassId) (k_MEMORY_WORD : ClassId) (k_INPUT_WORD : ClassId) (ucs : Int32) (uff : Value) (ua : Nat) (h0 : Heap) (n0 : Nat) (Z0 : n0 ≤ h0.size) (O0 : Old Z n0 h0) (HW : own_W Z Z.heap a_INPUT_BIT a_OUTPUT_BIT a_OUTPUT_WORD a_INPUT_WORD a_MEMORY_WORD p_INPUT_BIT v_INPUT_BIT p_OUTPUT_WORD v_OUTPUT_WORD p_OUTPUT_BIT v_OUTPUT_BIT p_MEMORY_WORD v_MEMORY_WORD p_INPUT_WORD v_INPUT_WORD a_DigitOnes k_INPUT_BIT k_OUTPUT_WORD k_OUTPUT_BIT k_MEMORY_WORD k_INPUT_WORD ucs uff) (E_ua : Exa Z h0 ua "com/example/hotrung/hotrung/image/Address") (F_ua_area : Fld Z h0 ua "com/example/hotrung/hotrung/image/Address" "area" "Lcom/example/hotrung/hotrung/image/Address$Area;" (.ref a_OUTPUT_BIT)) (F_ua_cell : Fld Z h0 ua "com/example/hotrung/hotrung/image/Address" "cell" "I" (.int 0))   :
    MetFree l (⟨"com/example/hotrung/hotrung/image/Address", "toString", "()Ljava/lang/String;"⟩ : MethodName) (head1 (Jvm.Cond.code (⟨"com/example/hotrung/hotrung/image/Address", "toString", "()Ljava/lang/String;"⟩ : MethodName) prog_30_method_5_code 1 (some (.object "java/lang/String")) :: ws) ({ frames := 6, cells := 6, slots := 38, locals := 124 } : Room)) (fun a U => a = #[(.ref ua)] ∧ Z.Warmed39 U.vm ∧ U.heap = h0 ∧ CHv Z own_EL U.vm h0) (fun _ _ _ _ _ => True) (fun _ U o U' => ∃ v L, o = .returned v ∧ (own_Q_rmToOUTPUT_BIT Z ua h0 n0) v U'.heap L ∧ CHr Z own_EL U.vm U.heap U'.vm U'.heap ∧ ReturnedEndW U o U' L 6 38) := by
  refine MetFree.of_bodySF pn_rmToOUTPUT_BIT hisR ?_
  intro p e s m args below meth c s₁ Bd hml0 hP hK
  obtain ⟨rfl, hZ, hh, CH0⟩ := hP
  have hx := Bd.exec
  have hby := Bd.bytes
  have hml : c.maxLocals = 1 := hml0
  have hown : s.vm.findClass "com/example/hotrung/hotrung/image/Address" = some m.cls := findClass_of_methodNamed Bd.named
  have hnm := (name_of_methodNamed Bd.named Bd.method).1
  have hrt := Bd.returns
  have hlk := Bd.notSynchronized
  have X0 : Stand p l e ({ frames := 6, cells := 6, slots := 38, locals := 124 } : Room) s m #[(.ref ua)] below meth c s₁ [] 0 0 := Stand.of_body Bd
  have e0 : s₁.heap = h0 := by rw [← hh, Bd.state]; rfl
  have N0 := Fr.nil n0
  have K0 := Keep.refl h0 []
  have HW' := HW
  obtain ⟨-, -, -, E_OUTPUT_BIT, -, -, -, -, -, -, F_INPUT_BIT_ordinal, F_OUTPUT_BIT_ordinal, -, -, -, -, -, -, -, -, -, -, -, -, -, E_p_OUTPUT_BIT, F_OUTPUT_BIT_prefix, F_p_OUTPUT_BIT_value, F_p_OUTPUT_BIT_coder, V_v_OUTPUT_BIT, -, -, -, -, -, -, -, -, -, -, -, -, -, -, -, -⟩ := HW'
  have lt_E_ua := own_lt E_ua.lt
  have lt_p := own_lt (E_p_OUTPUT_BIT.ext O0.2).lt
  have lt_v := own_lt (V_v_OUTPUT_BIT.ext O0.2).lt
  have lt_x := own_lt (E_OUTPUT_BIT.ext O0.2).lt
  have hs0 : s.heap = h0 := hh
  have own_wS : ∀ a ∈ Bundle.stringAtoms, a.before a0 Z = true := by
    intro d hd
    simp only [Bundle.stringAtoms, List.mem_cons, List.not_mem_nil, or_false] at hd
    rcases hd with rfl | rfl | rfl | rfl | rfl | rfl | rfl
    · exact (own_hw 51 hw rfl)
    · exact (own_hw 134 hw rfl)
    · exact (own_hw 52 hw rfl)
    · exact (own_hw 75 hw rfl)
    · exact (own_hw 83 hw rfl)
    · exact (own_hw 135 hw rfl)
    · exact (own_hw 136 hw rfl)
  have own_hEL : EW Z a0 own_EL := EW.cons (own_hw 133 hw rfl) (by decide) EW.nil
  have CHr0 := CHr.refl CH0
  refine own_doneH (B := s₁.setTop (mkF m 0 #[VR ua] [])) (fun t k => castTop (ef_rmToOUTPUT_BIT m ua) k) ?_
  refine own_by (B := s₁.setTop (mkF m 1 #[VR ua] [(.ref ua)])) (fun _ k => XS.aloadN X0.here hx rfl (hb hby d5_0) rfl rfl  k) ?_
  obtain ⟨T1, X1, e1, st1⟩ := getF X0 hx hZ hown (host := "") (Or.inl (own_hw 22 hw rfl)) Via.refl e0 F_ua_area (g := (mkF m 1 #[VR ua] [(.ref ua)])) rfl rfl (hb hby d5_1)
  refine own_by (B := T1.setTop (mkF m 4 #[VR ua] [(.ref a_OUTPUT_BIT)])) st1 ?_
  obtain ⟨cq2, kq2, qa2, qb2, qc2⟩ := isOf hZ e1 (E_OUTPUT_BIT.ext O0.2)
  obtain ⟨_, _, ⟨T2, L2, k2, n2⟩, -, X2, ⟨Lc2, hQ2, l2, y2, z2⟩, st2⟩ := X1.virtualBack hx (y := (⟨"com/example/hotrung/hotrung/image/Address$Area", "isBit", "()Z"⟩ : MethodName)) (z := (⟨"com/example/hotrung/hotrung/image/Address$Area", "isBit", "()Z"⟩ : MethodName)) hown (mvT hZ (own_hw 31 hw rfl)) (mvT hZ (own_hw 32 hw rfl)) (notFace_of_selects (args := #[]) (mvT hZ (own_hw 34 hw rfl))) (mvT hZ (own_hw 34 hw rfl)) (mvT hZ (own_hw 33 hw rfl)) (by decide) (backOf (W := 0) (rm_isBit l Z a0 hw [] a_INPUT_BIT a_OUTPUT_BIT a_OUTPUT_WORD a_INPUT_WORD a_MEMORY_WORD p_INPUT_BIT v_INPUT_BIT p_OUTPUT_WORD v_OUTPUT_WORD p_OUTPUT_BIT v_OUTPUT_BIT p_MEMORY_WORD v_MEMORY_WORD p_INPUT_WORD v_INPUT_WORD a_DigitOnes k_INPUT_BIT k_OUTPUT_WORD k_OUTPUT_BIT k_MEMORY_WORD k_INPUT_WORD ucs uff a_OUTPUT_BIT h0 n0 (own_old_le O0) O0 HW) hZ (own_hw 35 hw rfl) (own_hw 6 hw rfl) (by decide) (by decide)) qa2 qc2 (g := (mkF m 4 #[VR ua] [(.ref a_OUTPUT_BIT)])) rfl (by rw [hml]; rfl) (Steps.refl _) (argsL := []) (rest := []) (lenOf pd_5___Z rfl) rfl (by show 2 * 0 + _ ≤ _; exact Nat.le_of_eq rfl) (hb hby d5_4) (fun _ _ => ⟨rfl, e1, (by decide : 0 + 0 ≤ _), (by decide : 0 + 0 ≤ _)⟩)
  dsimp only [Pt.U, Pt.locs, Pt.cells, Pt.slots] at X2 l2 y2 z2 st2 hQ2
  subst l2 y2 z2
  obtain ⟨rfl, N2, e2⟩ := hQ2
  refine own_by (B := T2.setTop (mkF m 7 #[VR ua] [(.int (own_isBit a_OUTPUT_BIT a_INPUT_BIT a_OUTPUT_BIT))])) (fun _ k => st2.trans k) ?_
  have M2 := Fr.app N0 N2
  rw [show (own_isBit a_OUTPUT_BIT a_INPUT_BIT a_OUTPUT_BIT) = (1 : Int32) from by unfold own_isBit; rw [if_neg (Fld.ne F_OUTPUT_BIT_ordinal F_INPUT_BIT_ordinal (by decide)), if_pos rfl]]
  refine own_by (B := T2.setTop (mkF m 10 #[VR ua] [])) (fun _ k => XS.ifNo X2.here hx rfl (hb hby d5_7) rfl (XT.i0_eq_f (by decide)) k) ?_
  obtain ⟨T3, h3, X3, e3, E3, A3, D3, -, st3⟩ := newO X2 hx hZ hown (own_hw 37 hw rfl) (own_hw 38 hw rfl) (own_hw 39 hw rfl) e2 (g := (mkF m 10 #[VR ua] [])) rfl (hb hby d5_10) (by decide) (by decide)
  obtain ⟨b3, g3⟩ : ∃ z, z = h0.size := ⟨_, rfl⟩
  rw [← g3] at A3 D3 st3
  have sz3 := E3.1
  have gn3 : n0 ≤ b3 := g3 ▸ own_old_le O0
  have fz3 : h0.size ≤ b3 := g3 ▸ K0.1
  have lt3 := own_lt A3.lt
  have O3 := O0.ext E3
  have K3 := K0.ext E3
  have F3_value : Fld Z h3 b3 "java/lang/AbstractStringBuilder" "value" "[B" .null := D3 (Or.inl (own_hw 54 hw rfl)) (ty := (.array .byte)) (by decide)
  have F3_coder : Fld Z h3 b3 "java/lang/AbstractStringBuilder" "coder" "B" (.int 0) := D3 (Or.inl (own_hw 56 hw rfl)) (ty := .byte) (by decide)
  have F3_count : Fld Z h3 b3 "java/lang/AbstractStringBuilder" "count" "I" (.int 0) := D3 (Or.inl (own_hw 85 hw rfl)) (ty := .int) (by decide)
  refine own_by (B := T3.setTop (mkF m 13 #[VR ua] [(.ref b3)])) st3 ?_
  have sn3 : Safe Z own_EL s.vm h0 b3 := Safe.new (Nat.le_of_eq g3.symm)
  have sa4_b3 := Safe.ext E3 CHr0.1 sn3
  have CHc4 := CHr0.trans (CHr.ext E3 CHr0.1)
  refine own_by (B := T3.setTop (mkF m 14 #[VR ua] [(.ref b3), (.ref b3)])) (fun _ k => XS.dup X3.here hx rfl (hb hby d5_13) rfl rfl k) ?_
  obtain ⟨_, _, ⟨T5, L5, k5, n5⟩, -, X5, ⟨Lc5, hQ5, l5, y5, z5⟩, st5⟩ := X3.specialBack hx (y := (⟨"java/lang/StringBuilder", "<init>", "()V"⟩ : MethodName)) rfl hown (mvT hZ (own_hw 40 hw rfl)) (mvT hZ (own_hw 41 hw rfl)) (mvT hZ (own_hw 42 hw rfl)) (by decide) (backOf (W := 1) (rmSBi l Z a0 hw [] a_INPUT_BIT a_OUTPUT_BIT a_OUTPUT_WORD a_INPUT_WORD a_MEMORY_WORD p_INPUT_BIT v_INPUT_BIT p_OUTPUT_WORD v_OUTPUT_WORD p_OUTPUT_BIT v_OUTPUT_BIT p_MEMORY_WORD v_MEMORY_WORD p_INPUT_WORD v_INPUT_WORD a_DigitOnes k_INPUT_BIT k_OUTPUT_WORD k_OUTPUT_BIT k_MEMORY_WORD k_INPUT_WORD ucs uff b3 h3 n0 (own_old_le O3) O3 HW A3 F3_value F3_coder F3_count gn3) hZ (own_hw 42 hw rfl) (own_hw 39 hw rfl) (by decide) (by decide)) (g := (mkF m 14 #[VR ua] [(.ref b3), (.ref b3)])) rfl (by rw [hml]; rfl) (Steps.refl _) (a := b3) (argsL := []) (rest := [(.ref b3)]) (lenOf pd_5___V rfl) rfl (by show 2 * 0 + _ ≤ _; exact Nat.le_of_eq rfl) (hb hby d5_14) (fun _ _ => ⟨rfl, e3, (by decide : 1 + 1 ≤ _), (by decide : 4 + 16 ≤ _)⟩)
  dsimp only [Pt.U, Pt.locs, Pt.cells, Pt.slots] at X5 l5 y5 z5 st5 hQ5
  subst l5 y5 z5
  obtain ⟨r0_N5, kr0_N5, rfl, NC5, KC5, hb0_N5, Q0_N5, Q1_N5, Q2_N5, Q3_N5, Q4_N5⟩ := hQ5
  refine own_by (B := T5.setTop (mkF m 17 #[VR ua] [(.ref b3)])) (fun _ k => st5.trans k) ?_
  have sn5 : Safe Z own_EL s.vm h3 r0_N5 := Safe.new hb0_N5
  have gnr0_N5 : n0 ≤ r0_N5 := Nat.le_trans (own_old_le O3) hb0_N5
  have fzr0_N5 : h0.size ≤ r0_N5 := Nat.le_trans K3.1 hb0_N5
  obtain ⟨h5, e5⟩ : ∃ z, T5.heap = z := ⟨_, rfl⟩
  rw [e5] at KC5 Q0_N5 Q1_N5 Q2_N5 Q3_N5 Q4_N5
  have sz5 := KC5.1
  have O5 := O3.keep KC5 (allS gn3 all0)
  have K5 := K3.trans KC5 (allS (Or.inr fz3) all0)
  have N5 := Fr.app M2 NC5
  have ltq4_5 := own_lt Q4_N5.lt
  have sfq6 : ∀ x ∈ [b3], Safe Z own_EL s.vm h3 x := (sfS sa4_b3 sf0)
  have sa6_b3 := Safe.keep KC5 sfq6 CHc4.1 sa4_b3
  have sa6_r0_N5 := Safe.keep KC5 sfq6 CHc4.1 sn5
  have CHc6 := CHc4.trans (CHr.keep KC5 sfq6 CHc4.1)
  refine own_by (B := T5.setTop (mkF m 18 #[VR ua] [(.ref ua), (.ref b3)])) (fun _ k => XS.aloadN X5.here hx rfl (hb hby d5_17) rfl rfl  k) ?_
  have c7 := ((F_ua_area.ext E3).keep KC5 (ninS (own_ne (by omega)) nin0))
  obtain ⟨T8, X8, e8, st8⟩ := getF X5 hx hZ hown (host := "") (Or.inl (own_hw 22 hw rfl)) Via.refl e5 c7 (g := (mkF m 18 #[VR ua] [(.ref ua), (.ref b3)])) rfl rfl (hb hby d5_18)
  refine own_by (B := T8.setTop (mkF m 21 #[VR ua] [(.ref a_OUTPUT_BIT), (.ref b3)])) st8 ?_
  have c9 := (((F_OUTPUT_BIT_prefix.ext O0.2).ext E3).keep KC5 (ninS (own_ne (by omega)) nin0))
  refine own_by (B := T8.setTop (mkF m 24 #[VR ua] [(.ref p_OUTPUT_BIT), (.ref b3)])) (fun _ k => own_getR X8 hx hZ hown (own_hw 57 hw rfl) e8 c9 (g := (mkF m 21 #[VR ua] [(.ref a_OUTPUT_BIT), (.ref b3)])) rfl rfl (hb hby d5_21) _ k) ?_
  have c11 := (((E_p_OUTPUT_BIT.ext O0.2).ext E3).keep KC5)
  have c12 := (((F_p_OUTPUT_BIT_value.ext O0.2).ext E3).keep KC5 (ninS (own_ne (by omega)) nin0))
  have c13 := (((F_p_OUTPUT_BIT_coder.ext O0.2).ext E3).keep KC5 (ninS (own_ne (by omega)) nin0))
  have c14 := (((V_v_OUTPUT_BIT.ext O0.2).ext E3).keep KC5 (ninS (own_ne (by omega)) nin0))
  obtain ⟨cq15, kq15, qa15, qb15, qc15⟩ := isOf hZ e8 Q0_N5
  obtain ⟨_, _, ⟨T15, L15, k15, n15⟩, -, X15, ⟨Lc15, hQ15, l15, y15, z15⟩, st15⟩ := X8.virtualBack hx (y := (⟨"java/lang/StringBuilder", "append", "(Ljava/lang/String;)Ljava/lang/StringBuilder;"⟩ : MethodName)) (z := (⟨"java/lang/StringBuilder", "append", "(Ljava/lang/String;)Ljava/lang/StringBuilder;"⟩ : MethodName)) hown (mvT hZ (own_hw 59 hw rfl)) (mvT hZ (own_hw 60 hw rfl)) (notFace_of_selects (args := #[]) (mvT hZ (own_hw 62 hw rfl))) (mvT hZ (own_hw 62 hw rfl)) (mvT hZ (own_hw 61 hw rfl)) (by decide) (backOf (W := 0) (rmAp0_3 l Z a0 hw [] a_INPUT_BIT a_OUTPUT_BIT a_OUTPUT_WORD a_INPUT_WORD a_MEMORY_WORD p_INPUT_BIT v_INPUT_BIT p_OUTPUT_WORD v_OUTPUT_WORD p_OUTPUT_BIT v_OUTPUT_BIT p_MEMORY_WORD v_MEMORY_WORD p_INPUT_WORD v_INPUT_WORD a_DigitOnes k_INPUT_BIT k_OUTPUT_WORD k_OUTPUT_BIT k_MEMORY_WORD k_INPUT_WORD ucs uff b3 r0_N5 kr0_N5 p_OUTPUT_BIT v_OUTPUT_BIT k_OUTPUT_BIT (37 : Int32) (81 : Int32) (88 : Int32) h5 n0 (own_old_le O5) O5 HW Q0_N5 Q1_N5 Q2_N5 Q3_N5 Q4_N5 c11 c12 c13 c14 gn3 gnr0_N5) hZ (own_hw 63 hw rfl) (own_hw 39 hw rfl) (by decide) (by decide)) qa15 qc15 (g := (mkF m 24 #[VR ua] [(.ref p_OUTPUT_BIT), (.ref b3)])) rfl (by rw [hml]; rfl) (Steps.refl _) (argsL := [(.ref p_OUTPUT_BIT)]) (rest := []) (lenOf pd_5__Ljava_lang_String__Ljava_lang_StringBuilder_ rfl) rfl (by show 2 * 0 + _ ≤ _; exact Nat.le_of_eq rfl) (hb hby d5_24) (fun _ _ => ⟨rfl, e8, (by decide : 2 + 0 ≤ _), (by decide : 20 + 0 ≤ _)⟩)
  dsimp only [Pt.U, Pt.locs, Pt.cells, Pt.slots] at X15 l15 y15 z15 st15 hQ15
  subst l15 y15 z15
  obtain ⟨rfl, NC15, KC15, Q0_N15, Q1_N15, Q2_N15, Q3_N15, Q4_N15⟩ := hQ15
  refine own_by (B := T15.setTop (mkF m 27 #[VR ua] [(.ref b3)])) (fun _ k => st15.trans k) ?_
  obtain ⟨h15, e15⟩ : ∃ z, T15.heap = z := ⟨_, rfl⟩
  rw [e15] at KC15 Q0_N15 Q1_N15 Q2_N15 Q3_N15 Q4_N15
  have sz15 := KC15.1
  have O15 := O5.keep KC15 (allS gn3 (allS gnr0_N5 all0))
  have K15 := K5.trans KC15 (allS (Or.inr fz3) (allS (Or.inr fzr0_N5) all0))
  have N15 := Fr.app N5 NC15
  have sfq16 : ∀ x ∈ [b3, r0_N5], Safe Z own_EL s.vm h5 x := (sfS sa6_b3 (sfS sa6_r0_N5 sf0))
  have sa16_b3 := Safe.keep KC15 sfq16 CHc6.1 sa6_b3
  have sa16_r0_N5 := Safe.keep KC15 sfq16 CHc6.1 sa6_r0_N5
  have CHc16 := CHc6.trans (CHr.keep KC15 sfq16 CHc6.1)
  refine own_by (B := T15.setTop (mkF m 28 #[VR ua] [(.ref ua), (.ref b3)])) (fun _ k => XS.aloadN X15.here hx rfl (hb hby d5_27) rfl rfl  k) ?_
  have c17 := (((F_ua_cell.ext E3).keep KC5 (ninS (own_ne (by omega)) nin0)).keep KC15 (ninS (own_ne (by omega)) (ninS (own_ne (by omega)) nin0)))
  obtain ⟨T18, X18, e18, st18⟩ := getF X15 hx hZ hown (host := "") (Or.inl (own_hw 24 hw rfl)) Via.refl e15 c17 (g := (mkF m 28 #[VR ua] [(.ref ua), (.ref b3)])) rfl rfl (hb hby d5_28)
  refine own_by (B := T18.setTop (mkF m 31 #[VR ua] [(.int 0), (.ref b3)])) st18 ?_
  refine own_by (B := T18.setTop (mkF m 33 #[VR ua] [(.int 8), (.int 0), (.ref b3)])) (fun _ k => XS.bipush X18.here hx rfl (hb hby d5_31) k) ?_
  refine own_by (B := T18.setTop (mkF m 34 #[VR ua] [(.int 0), (.ref b3)])) (fun _ k => XS.idiv X18.here hx rfl (hb hby d5_33) rfl (by decide) k) ?_
  obtain ⟨cq19, kq19, qa19, qb19, qc19⟩ := isOf hZ e18 Q0_N15
  obtain ⟨_, _, ⟨T19, L19, k19, n19⟩, -, X19, ⟨Lc19, hQ19, l19, y19, z19⟩, st19⟩ := X18.virtualBack hx (y := (⟨"java/lang/StringBuilder", "append", "(I)Ljava/lang/StringBuilder;"⟩ : MethodName)) (z := (⟨"java/lang/StringBuilder", "append", "(I)Ljava/lang/StringBuilder;"⟩ : MethodName)) hown (mvT hZ (own_hw 111 hw rfl)) (mvT hZ (own_hw 112 hw rfl)) (notFace_of_selects (args := #[]) (mvT hZ (own_hw 114 hw rfl))) (mvT hZ (own_hw 114 hw rfl)) (mvT hZ (own_hw 113 hw rfl)) (by decide) (backOf (W := 0) (rmAi3 l Z a0 hw [] a_INPUT_BIT a_OUTPUT_BIT a_OUTPUT_WORD a_INPUT_WORD a_MEMORY_WORD p_INPUT_BIT v_INPUT_BIT p_OUTPUT_WORD v_OUTPUT_WORD p_OUTPUT_BIT v_OUTPUT_BIT p_MEMORY_WORD v_MEMORY_WORD p_INPUT_WORD v_INPUT_WORD a_DigitOnes k_INPUT_BIT k_OUTPUT_WORD k_OUTPUT_BIT k_MEMORY_WORD k_INPUT_WORD ucs uff b3 r0_N5 kr0_N5 (37 : Int32) (81 : Int32) (88 : Int32) h15 n0 (own_old_le O15) O15 HW Q0_N15 Q1_N15 Q2_N15 Q3_N15 Q4_N15 gn3 gnr0_N5) hZ (own_hw 115 hw rfl) (own_hw 39 hw rfl) (by decide) (by decide)) qa19 qc19 (g := (mkF m 34 #[VR ua] [(.int 0), (.ref b3)])) rfl (by rw [hml]; rfl) (Steps.refl _) (argsL := [(.int 0)]) (rest := []) (lenOf pd_5__I_Ljava_lang_StringBuilder_ rfl) rfl (by show 2 * 0 + _ ≤ _; exact Nat.le_of_eq rfl) (hb hby d5_34) (fun _ _ => ⟨rfl, e18, (by decide : 2 + 0 ≤ _), (by decide : 20 + 0 ≤ _)⟩)
  dsimp only [Pt.U, Pt.locs, Pt.cells, Pt.slots] at X19 l19 y19 z19 st19 hQ19
  subst l19 y19 z19
  obtain ⟨rfl, NC19, KC19, Q0_N19, Q1_N19, Q2_N19, Q3_N19, Q4_N19⟩ := hQ19
  refine own_by (B := T19.setTop (mkF m 37 #[VR ua] [(.ref b3)])) (fun _ k => st19.trans k) ?_
  obtain ⟨h19, e19⟩ : ∃ z, T19.heap = z := ⟨_, rfl⟩
  rw [e19] at KC19 Q0_N19 Q1_N19 Q2_N19 Q3_N19 Q4_N19
  have sz19 := KC19.1
  have O19 := O15.keep KC19 (allS gn3 (allS gnr0_N5 all0))
  have K19 := K15.trans KC19 (allS (Or.inr fz3) (allS (Or.inr fzr0_N5) all0))
  have N19 := Fr.app N15 NC19
  have sfq20 : ∀ x ∈ [b3, r0_N5], Safe Z own_EL s.vm h15 x := (sfS sa16_b3 (sfS sa16_r0_N5 sf0))
  have sa20_b3 := Safe.keep KC19 sfq20 CHc16.1 sa16_b3
  have sa20_r0_N5 := Safe.keep KC19 sfq20 CHc16.1 sa16_r0_N5
  have CHc20 := CHc16.trans (CHr.keep KC19 sfq20 CHc16.1)
  obtain ⟨al21, T21, h21, ks21, bl21, kl21, X21, e21, E21, hS21, hk21, hZ, hown, El21, Fc21, Fv21, Vl21, -, -, CR21, -, -, st21⟩ := ldcCH (s := s) (vm0 := s.vm) X19 hx hZ hown (text := ".") (own_hw 133 hw rfl) own_wS e19 (k0 := 0) ((State.WarmedH.refl s).since 0) (Nat.zero_le _) own_hEL own_mem (EL := own_EL) CHc20.1 (vs := [(.int 46)]) (z := (1 : Int32)) ⟨by decide, by decide +kernel⟩ (by decide) rfl (g := (mkF m 37 #[VR ua] [(.ref b3)])) rfl (hb hby d5_37) (n := 4) (by decide) (by decide) (by decide) (by decide)
  have sl21_b3 := CR21.safe Q0_N19.lt sa20_b3
  have sl21_r0_N5 := CR21.safe Q4_N19.lt sa20_r0_N5
  have CHc21 := CHc20.trans CR21
  have sz21 := E21.1
  have O21 := O19.ext E21
  have K21 := K19.ext E21
  have ltl21 := own_lt El21.lt
  have ltm21 := own_lt Vl21.lt
  refine own_by (B := T21.setTop (mkF m 39 #[VR ua] [(.ref al21), (.ref b3)])) st21 ?_
  have c22 := (Q0_N19.ext E21)
  have c23 := (Q1_N19.ext E21)
  have c24 := (Q2_N19.ext E21)
  have c25 := (Q3_N19.ext E21)
  have c26 := (Q4_N19.ext E21)
  obtain ⟨cq27, kq27, qa27, qb27, qc27⟩ := isOf hZ e21 c22
  obtain ⟨_, _, ⟨T27, L27, k27, n27⟩, -, X27, ⟨Lc27, hQ27, l27, y27, z27⟩, st27⟩ := X21.virtualBack hx (y := (⟨"java/lang/StringBuilder", "append", "(Ljava/lang/String;)Ljava/lang/StringBuilder;"⟩ : MethodName)) (z := (⟨"java/lang/StringBuilder", "append", "(Ljava/lang/String;)Ljava/lang/StringBuilder;"⟩ : MethodName)) hown (mvT hZ (own_hw 59 hw rfl)) (mvT hZ (own_hw 60 hw rfl)) (notFace_of_selects (args := #[]) (mvT hZ (own_hw 62 hw rfl))) (mvT hZ (own_hw 62 hw rfl)) (mvT hZ (own_hw 61 hw rfl)) (by decide) (backOf (W := 0) (rmAp4_1 l Z a0 hw [] a_INPUT_BIT a_OUTPUT_BIT a_OUTPUT_WORD a_INPUT_WORD a_MEMORY_WORD p_INPUT_BIT v_INPUT_BIT p_OUTPUT_WORD v_OUTPUT_WORD p_OUTPUT_BIT v_OUTPUT_BIT p_MEMORY_WORD v_MEMORY_WORD p_INPUT_WORD v_INPUT_WORD a_DigitOnes k_INPUT_BIT k_OUTPUT_WORD k_OUTPUT_BIT k_MEMORY_WORD k_INPUT_WORD ucs uff b3 r0_N5 kr0_N5 al21 bl21 kl21 (37 : Int32) (81 : Int32) (88 : Int32) (nar .byte (48 : Int32)) (46 : Int32) h21 n0 (own_old_le O21) O21 HW c22 c23 c24 c25 c26 El21 Fv21 Fc21 Vl21 gn3 gnr0_N5) hZ (own_hw 63 hw rfl) (own_hw 39 hw rfl) (by decide) (by decide)) qa27 qc27 (g := (mkF m 39 #[VR ua] [(.ref al21), (.ref b3)])) rfl (by rw [hml]; rfl) (Steps.refl _) (argsL := [(.ref al21)]) (rest := []) (lenOf pd_5__Ljava_lang_String__Ljava_lang_StringBuilder_ rfl) rfl (by show 2 * 0 + _ ≤ _; exact Nat.le_of_eq rfl) (hb hby d5_39) (fun _ _ => ⟨rfl, e21, (by decide : 4 + 0 ≤ _), (by decide : 28 + 0 ≤ _)⟩)
  dsimp only [Pt.U, Pt.locs, Pt.cells, Pt.slots] at X27 l27 y27 z27 st27 hQ27
  subst l27 y27 z27
  obtain ⟨rfl, NC27, KC27, Q0_N27, Q1_N27, Q2_N27, Q3_N27, Q4_N27⟩ := hQ27
  refine own_by (B := T27.setTop (mkF m 42 #[VR ua] [(.ref b3)])) (fun _ k => st27.trans k) ?_
  obtain ⟨h27, e27⟩ : ∃ z, T27.heap = z := ⟨_, rfl⟩
  rw [e27] at KC27 Q0_N27 Q1_N27 Q2_N27 Q3_N27 Q4_N27
  have sz27 := KC27.1
  have O27 := O21.keep KC27 (allS gn3 (allS gnr0_N5 all0))
  have K27 := K21.trans KC27 (allS (Or.inr fz3) (allS (Or.inr fzr0_N5) all0))
  have N27 := Fr.app N19 NC27
  have sfq28 : ∀ x ∈ [b3, r0_N5], Safe Z own_EL T21.vm h21 x := (sfS sl21_b3 (sfS sl21_r0_N5 sf0))
  have sa28_b3 := Safe.keep KC27 sfq28 CHc21.1 sl21_b3
  have sa28_r0_N5 := Safe.keep KC27 sfq28 CHc21.1 sl21_r0_N5
  have CHc28 := CHc21.trans (CHr.keep KC27 sfq28 CHc21.1)
  refine own_by (B := T27.setTop (mkF m 43 #[VR ua] [(.ref ua), (.ref b3)])) (fun _ k => XS.aloadN X27.here hx rfl (hb hby d5_42) rfl rfl  k) ?_
  have c29 := (((c17.keep KC19 (ninS (own_ne (by omega)) (ninS (own_ne (by omega)) nin0))).ext E21).keep KC27 (ninS (own_ne (by omega)) (ninS (own_ne (by omega)) nin0)))
  obtain ⟨T30, X30, e30, st30⟩ := getF X27 hx hZ hown (host := "") (Or.inl (own_hw 24 hw rfl)) Via.refl e27 c29 (g := (mkF m 43 #[VR ua] [(.ref ua), (.ref b3)])) rfl rfl (hb hby d5_43)
  refine own_by (B := T30.setTop (mkF m 46 #[VR ua] [(.int 0), (.ref b3)])) st30 ?_
  refine own_by (B := T30.setTop (mkF m 48 #[VR ua] [(.int 8), (.int 0), (.ref b3)])) (fun _ k => XS.bipush X30.here hx rfl (hb hby d5_46) k) ?_
  refine own_by (B := T30.setTop (mkF m 49 #[VR ua] [(.int 0), (.ref b3)])) (fun _ k => iremM (g := (mkF m 48 #[VR ua] [(.int 8), (.int 0), (.ref b3)])) X30 hx rfl (hb hby d5_48) rfl (by decide) k) ?_
  obtain ⟨cq31, kq31, qa31, qb31, qc31⟩ := isOf hZ e30 Q0_N27
  obtain ⟨_, _, ⟨T31, L31, k31, n31⟩, -, X31, ⟨Lc31, hQ31, l31, y31, z31⟩, st31⟩ := X30.virtualBack hx (y := (⟨"java/lang/StringBuilder", "append", "(I)Ljava/lang/StringBuilder;"⟩ : MethodName)) (z := (⟨"java/lang/StringBuilder", "append", "(I)Ljava/lang/StringBuilder;"⟩ : MethodName)) hown (mvT hZ (own_hw 111 hw rfl)) (mvT hZ (own_hw 112 hw rfl)) (notFace_of_selects (args := #[]) (mvT hZ (own_hw 114 hw rfl))) (mvT hZ (own_hw 114 hw rfl)) (mvT hZ (own_hw 113 hw rfl)) (by decide) (backOf (W := 0) (rmAi5 l Z a0 hw [] a_INPUT_BIT a_OUTPUT_BIT a_OUTPUT_WORD a_INPUT_WORD a_MEMORY_WORD p_INPUT_BIT v_INPUT_BIT p_OUTPUT_WORD v_OUTPUT_WORD p_OUTPUT_BIT v_OUTPUT_BIT p_MEMORY_WORD v_MEMORY_WORD p_INPUT_WORD v_INPUT_WORD a_DigitOnes k_INPUT_BIT k_OUTPUT_WORD k_OUTPUT_BIT k_MEMORY_WORD k_INPUT_WORD ucs uff b3 r0_N5 kr0_N5 (37 : Int32) (81 : Int32) (88 : Int32) (nar .byte (48 : Int32)) (46 : Int32) h27 n0 (own_old_le O27) O27 HW Q0_N27 Q1_N27 Q2_N27 Q3_N27 Q4_N27 gn3 gnr0_N5) hZ (own_hw 115 hw rfl) (own_hw 39 hw rfl) (by decide) (by decide)) qa31 qc31 (g := (mkF m 49 #[VR ua] [(.int 0), (.ref b3)])) rfl (by rw [hml]; rfl) (Steps.refl _) (argsL := [(.int 0)]) (rest := []) (lenOf pd_5__I_Ljava_lang_StringBuilder_ rfl) rfl (by show 2 * 0 + _ ≤ _; exact Nat.le_of_eq rfl) (hb hby d5_49) (fun _ _ => ⟨rfl, e30, (by decide : 4 + 0 ≤ _), (by decide : 28 + 0 ≤ _)⟩)
  dsimp only [Pt.U, Pt.locs, Pt.cells, Pt.slots] at X31 l31 y31 z31 st31 hQ31
  subst l31 y31 z31
  obtain ⟨rfl, NC31, KC31, Q0_N31, Q1_N31, Q2_N31, Q3_N31, Q4_N31⟩ := hQ31
  refine own_by (B := T31.setTop (mkF m 52 #[VR ua] [(.ref b3)])) (fun _ k => st31.trans k) ?_
  obtain ⟨h31, e31⟩ : ∃ z, T31.heap = z := ⟨_, rfl⟩
  rw [e31] at KC31 Q0_N31 Q1_N31 Q2_N31 Q3_N31 Q4_N31
  have sz31 := KC31.1
  have O31 := O27.keep KC31 (allS gn3 (allS gnr0_N5 all0))
  have K31 := K27.trans KC31 (allS (Or.inr fz3) (allS (Or.inr fzr0_N5) all0))
  have N31 := Fr.app N27 NC31
  have sfq32 : ∀ x ∈ [b3, r0_N5], Safe Z own_EL T21.vm h27 x := (sfS sa28_b3 (sfS sa28_r0_N5 sf0))
  have sa32_b3 := Safe.keep KC31 sfq32 CHc28.1 sa28_b3
  have sa32_r0_N5 := Safe.keep KC31 sfq32 CHc28.1 sa28_r0_N5
  have CHc32 := CHc28.trans (CHr.keep KC31 sfq32 CHc28.1)
  obtain ⟨cq33, kq33, qa33, qb33, qc33⟩ := isOf hZ e31 Q0_N31
  obtain ⟨_, _, ⟨T33, L33, k33, n33⟩, -, X33, ⟨Lc33, hQ33, l33, y33, z33⟩, st33⟩ := X31.virtualBack hx (y := (⟨"java/lang/StringBuilder", "toString", "()Ljava/lang/String;"⟩ : MethodName)) (z := (⟨"java/lang/StringBuilder", "toString", "()Ljava/lang/String;"⟩ : MethodName)) hown (mvT hZ (own_hw 137 hw rfl)) (mvT hZ (own_hw 138 hw rfl)) (notFace_of_selects (args := #[]) (mvT hZ (own_hw 140 hw rfl))) (mvT hZ (own_hw 140 hw rfl)) (mvT hZ (own_hw 139 hw rfl)) (by decide) (backOf (W := 0) (rmTs6 l Z a0 hw [] a_INPUT_BIT a_OUTPUT_BIT a_OUTPUT_WORD a_INPUT_WORD a_MEMORY_WORD p_INPUT_BIT v_INPUT_BIT p_OUTPUT_WORD v_OUTPUT_WORD p_OUTPUT_BIT v_OUTPUT_BIT p_MEMORY_WORD v_MEMORY_WORD p_INPUT_WORD v_INPUT_WORD a_DigitOnes k_INPUT_BIT k_OUTPUT_WORD k_OUTPUT_BIT k_MEMORY_WORD k_INPUT_WORD ucs uff b3 r0_N5 kr0_N5 (37 : Int32) (81 : Int32) (88 : Int32) (nar .byte (48 : Int32)) (46 : Int32) (nar .byte (48 : Int32)) h31 n0 (own_old_le O31) O31 HW Q0_N31 Q1_N31 Q2_N31 Q3_N31 Q4_N31) hZ (own_hw 141 hw rfl) (own_hw 39 hw rfl) (by decide) (by decide)) qa33 qc33 (g := (mkF m 52 #[VR ua] [(.ref b3)])) rfl (by rw [hml]; rfl) (Steps.refl _) (argsL := []) (rest := []) (lenOf pd_5___Ljava_lang_String_ rfl) rfl (by show 2 * 0 + _ ≤ _; exact Nat.le_of_eq rfl) (hb hby d5_52) (fun _ _ => ⟨rfl, e31, (by decide : 4 + 2 ≤ _), (by decide : 28 + 10 ≤ _)⟩)
  dsimp only [Pt.U, Pt.locs, Pt.cells, Pt.slots] at X33 l33 y33 z33 st33 hQ33
  subst l33 y33 z33
  obtain ⟨r0_N33, r1_N33, kr0_N33, rfl, NC33, KC33, hb0_N33, hb1_N33, Q0_N33, Q1_N33, Q2_N33, Q3_N33⟩ := hQ33
  refine own_by (B := T33.setTop (mkF m 55 #[VR ua] [(.ref r0_N33)])) (fun _ k => st33.trans k) ?_
  have gnr0_N33 : n0 ≤ r0_N33 := Nat.le_trans (own_old_le O31) hb0_N33
  have fzr0_N33 : h0.size ≤ r0_N33 := Nat.le_trans K31.1 hb0_N33
  have gnr1_N33 : n0 ≤ r1_N33 := Nat.le_trans (own_old_le O31) hb1_N33
  have fzr1_N33 : h0.size ≤ r1_N33 := Nat.le_trans K31.1 hb1_N33
  obtain ⟨h33, e33⟩ : ∃ z, T33.heap = z := ⟨_, rfl⟩
  rw [e33] at KC33 Q0_N33 Q1_N33 Q2_N33 Q3_N33
  have sz33 := KC33.1
  have O33 := O31.keep KC33 all0
  have K33 := K31.trans KC33 all0
  have N33 := Fr.app N31 NC33
  have ltq0_33 := own_lt Q0_N33.lt
  have ltq3_33 := own_lt Q3_N33.lt
  have sa34_b3 := Safe.keep KC33 sf0 CHc32.1 sa32_b3
  have sa34_r0_N5 := Safe.keep KC33 sf0 CHc32.1 sa32_r0_N5
  have CHc34 := CHc32.trans (CHr.keep KC33 sf0 CHc32.1)
  refine own_by (B := T33.setTop (mkF m 85 #[VR ua] [(.ref r0_N33)])) (fun _ k => XS.goto X33.here hx rfl (pc0 := 55) (pc' := 85) rfl (hb hby d5_55) (by decide) (by decide) k) ?_
  exact own_retAH (s := s) X33 hx hS21 (by rw [e33]; have := hk21; omega) hrt rfl rfl hlk (hb hby d5_85) (by decide) (by decide) (by rw [e33, hs0]; exact CHc34.trans (CHv.at (s := s) X33 hZ own_hEL CHc34.1)) (by show own_Q_rmToOUTPUT_BIT Z ua h0 n0 _ T33.heap _; rw [e33]; exact ⟨r0_N33, r1_N33, kr0_N33, rfl, N33, K33, fzr0_N33, fzr1_N33, Q0_N33, Q1_N33, Q2_N33, Q3_N33⟩)

def own_Q_rmToINPUT_WORD (Z : State) (ua : Nat) (h0 : Heap) (n0 : Nat) (v : Option Value) (h : Heap) (L : List Loc) : Prop := ∃ (r0_ r1_ : Nat) (kr0_ : ClassId), v = some (.ref r0_) ∧ Fr n0 L ∧ Keep h0 h [] ∧ h0.size ≤ r0_ ∧ h0.size ≤ r1_ ∧ Exa Z h r0_ "java/lang/String" ∧ Fld Z h r0_ "java/lang/String" "value" "[B" (.ref r1_) ∧ Fld Z h r0_ "java/lang/String" "coder" "B" (.int 0) ∧ Arv Z h r1_ kr0_ .byte (4 : Int32) [(.int 37), (.int 73), (.int 87), (.int (nar .byte (48 : Int32)))] (.int 0)

theorem d5_58 : decode prog_30_method_5_code 58 = .ok (.new 80, 3) := by decide +kernel
theorem d5_61 : decode prog_30_method_5_code 61 = .ok (.dup, 1) := by decide +kernel
theorem d5_62 : decode prog_30_method_5_code 62 = .ok (.invokespecial 82, 3) := by decide +kernel
theorem d5_65 : decode prog_30_method_5_code 65 = .ok (.aload_n 0, 1) := by decide +kernel
theorem d5_66 : decode prog_30_method_5_code 66 = .ok (.getfield 7, 3) := by decide +kernel
theorem d5_69 : decode prog_30_method_5_code 69 = .ok (.getfield 162, 3) := by decide +kernel
theorem d5_72 : decode prog_30_method_5_code 72 = .ok (.invokevirtual 85, 3) := by decide +kernel
theorem d5_75 : decode prog_30_method_5_code 75 = .ok (.aload_n 0, 1) := by decide +kernel
theorem d5_76 : decode prog_30_method_5_code 76 = .ok (.getfield 13, 3) := by decide +kernel
theorem d5_79 : decode prog_30_method_5_code 79 = .ok (.invokevirtual 166, 3) := by decide +kernel
theorem d5_82 : decode prog_30_method_5_code 82 = .ok (.invokevirtual 91, 3) := by decide +kernel
theorem pn_rmToINPUT_WORD : plainFor (⟨"com/example/hotrung/hotrung/image/Address", "toString", "()Ljava/lang/String;"⟩ : MethodName) = true := by first | exact plainFor_of_name (by first | (simp [plainName, overriddenIn]; done) | decide +kernel) | exact Jvm.Free.JP.mathPlain rfl (by decide +kernel) | decide +kernel
theorem ef_rmToINPUT_WORD (m : MethodId) (x0 : Nat) : entryFrame m #[(.ref x0)] 1 = mkF m 0 #[VR x0] [] := by first | (simp [entryFrame, mkF, argsToLocals, Value.category]; done) | rfl
set_option maxRecDepth 65536 in
set_option maxHeartbeats 40000000 in
theorem rmToINPUT_WORD (l : Launch) (Z : State) (a0 : Array Value) (hw : ∀ d ∈ tables_1, d.before a0 Z = true) (ws : List Jvm.Cond) (a_INPUT_BIT a_OUTPUT_BIT a_OUTPUT_WORD a_INPUT_WORD a_MEMORY_WORD p_INPUT_BIT v_INPUT_BIT p_OUTPUT_WORD v_OUTPUT_WORD p_OUTPUT_BIT v_OUTPUT_BIT p_MEMORY_WORD v_MEMORY_WORD p_INPUT_WORD v_INPUT_WORD a_DigitOnes : Nat) (k_INPUT_BIT : ClassId) (k_OUTPUT_WORD : ClassId) (k_OUTPUT_BIT : ClassId) (k_MEMORY_WORD : ClassId) (k_INPUT_WORD : ClassId) (ucs : Int32) (uff : Value) (ua : Nat) (h0 : Heap) (n0 : Nat) (Z0 : n0 ≤ h0.size) (O0 : Old Z n0 h0) (HW : own_W Z Z.heap a_INPUT_BIT a_OUTPUT_BIT a_OUTPUT_WORD a_INPUT_WORD a_MEMORY_WORD p_INPUT_BIT v_INPUT_BIT p_OUTPUT_WORD v_OUTPUT_WORD p_OUTPUT_BIT v_OUTPUT_BIT p_MEMORY_WORD v_MEMORY_WORD p_INPUT_WORD v_INPUT_WORD a_DigitOnes k_INPUT_BIT k_OUTPUT_WORD k_OUTPUT_BIT k_MEMORY_WORD k_INPUT_WORD ucs uff) (E_ua : Exa Z h0 ua "com/example/hotrung/hotrung/image/Address") (F_ua_area : Fld Z h0 ua "com/example/hotrung/hotrung/image/Address" "area" "Lcom/example/hotrung/hotrung/image/Address$Area;" (.ref a_INPUT_WORD)) (F_ua_cell : Fld Z h0 ua "com/example/hotrung/hotrung/image/Address" "cell" "I" (.int 0))   :
    MetFree l (⟨"com/example/hotrung/hotrung/image/Address", "toString", "()Ljava/lang/String;"⟩ : MethodName) (head1 (Jvm.Cond.code (⟨"com/example/hotrung/hotrung/image/Address", "toString", "()Ljava/lang/String;"⟩ : MethodName) prog_30_method_5_code 1 (some (.object "java/lang/String")) :: ws) ({ frames := 6, cells := 4, slots := 28, locals := 124 } : Room)) (fun a U => a = #[(.ref ua)] ∧ Z.Warmed39 U.vm ∧ U.heap = h0) (fun _ _ _ _ _ => True) (fun _ U o U' => ∃ v L, o = .returned v ∧ (own_Q_rmToINPUT_WORD Z ua h0 n0) v U'.heap L ∧ FrameEnd U o U' L 4 28) := by
  refine MetFree.of_bodySF pn_rmToINPUT_WORD hisR ?_
  intro p e s m args below meth c s₁ Bd hml0 hP hK
  obtain ⟨rfl, hZ, hh⟩ := hP
  have hx := Bd.exec
  have hby := Bd.bytes
  have hml : c.maxLocals = 1 := hml0
  have hown : s.vm.findClass "com/example/hotrung/hotrung/image/Address" = some m.cls := findClass_of_methodNamed Bd.named
  have hnm := (name_of_methodNamed Bd.named Bd.method).1
  have hrt := Bd.returns
  have hlk := Bd.notSynchronized
  have X0 : Stand p l e ({ frames := 6, cells := 4, slots := 28, locals := 124 } : Room) s m #[(.ref ua)] below meth c s₁ [] 0 0 := Stand.of_body Bd
  have e0 : s₁.heap = h0 := by rw [← hh, Bd.state]; rfl
  have N0 := Fr.nil n0
  have K0 := Keep.refl h0 []
  have HW' := HW
  obtain ⟨-, -, -, -, -, -, -, E_INPUT_WORD, -, -, F_INPUT_BIT_ordinal, F_OUTPUT_BIT_ordinal, -, F_INPUT_WORD_ordinal, -, -, -, -, -, -, -, -, -, -, -, -, -, -, -, -, -, -, -, -, -, E_p_INPUT_WORD, F_INPUT_WORD_prefix, F_p_INPUT_WORD_value, F_p_INPUT_WORD_coder, V_v_INPUT_WORD, -, -, -, -, -, -⟩ := HW'
  have lt_E_ua := own_lt E_ua.lt
  have lt_p := own_lt (E_p_INPUT_WORD.ext O0.2).lt
  have lt_v := own_lt (V_v_INPUT_WORD.ext O0.2).lt
  have lt_x := own_lt (E_INPUT_WORD.ext O0.2).lt
  refine own_done (B := s₁.setTop (mkF m 0 #[VR ua] [])) (fun t k => castTop (ef_rmToINPUT_WORD m ua) k) ?_
  refine own_by (B := s₁.setTop (mkF m 1 #[VR ua] [(.ref ua)])) (fun _ k => XS.aloadN X0.here hx rfl (hb hby d5_0) rfl rfl  k) ?_
  obtain ⟨T1, X1, e1, st1⟩ := getF X0 hx hZ hown (host := "") (Or.inl (own_hw 22 hw rfl)) Via.refl e0 F_ua_area (g := (mkF m 1 #[VR ua] [(.ref ua)])) rfl rfl (hb hby d5_1)
  refine own_by (B := T1.setTop (mkF m 4 #[VR ua] [(.ref a_INPUT_WORD)])) st1 ?_
  obtain ⟨cq2, kq2, qa2, qb2, qc2⟩ := isOf hZ e1 (E_INPUT_WORD.ext O0.2)
  obtain ⟨_, _, ⟨T2, L2, k2, n2⟩, -, X2, ⟨Lc2, hQ2, l2, y2, z2⟩, st2⟩ := X1.virtualBack hx (y := (⟨"com/example/hotrung/hotrung/image/Address$Area", "isBit", "()Z"⟩ : MethodName)) (z := (⟨"com/example/hotrung/hotrung/image/Address$Area", "isBit", "()Z"⟩ : MethodName)) hown (mvT hZ (own_hw 31 hw rfl)) (mvT hZ (own_hw 32 hw rfl)) (notFace_of_selects (args := #[]) (mvT hZ (own_hw 34 hw rfl))) (mvT hZ (own_hw 34 hw rfl)) (mvT hZ (own_hw 33 hw rfl)) (by decide) (backOf (W := 0) (rm_isBit l Z a0 hw [] a_INPUT_BIT a_OUTPUT_BIT a_OUTPUT_WORD a_INPUT_WORD a_MEMORY_WORD p_INPUT_BIT v_INPUT_BIT p_OUTPUT_WORD v_OUTPUT_WORD p_OUTPUT_BIT v_OUTPUT_BIT p_MEMORY_WORD v_MEMORY_WORD p_INPUT_WORD v_INPUT_WORD a_DigitOnes k_INPUT_BIT k_OUTPUT_WORD k_OUTPUT_BIT k_MEMORY_WORD k_INPUT_WORD ucs uff a_INPUT_WORD h0 n0 (own_old_le O0) O0 HW) hZ (own_hw 35 hw rfl) (own_hw 6 hw rfl) (by decide) (by decide)) qa2 qc2 (g := (mkF m 4 #[VR ua] [(.ref a_INPUT_WORD)])) rfl (by rw [hml]; rfl) (Steps.refl _) (argsL := []) (rest := []) (lenOf pd_5___Z rfl) rfl (by show 2 * 0 + _ ≤ _; exact Nat.le_of_eq rfl) (hb hby d5_4) (fun _ _ => ⟨rfl, e1, (by decide : 0 + 0 ≤ _), (by decide : 0 + 0 ≤ _)⟩)
  dsimp only [Pt.U, Pt.locs, Pt.cells, Pt.slots] at X2 l2 y2 z2 st2 hQ2
  subst l2 y2 z2
  obtain ⟨rfl, N2, e2⟩ := hQ2
  refine own_by (B := T2.setTop (mkF m 7 #[VR ua] [(.int (own_isBit a_INPUT_WORD a_INPUT_BIT a_OUTPUT_BIT))])) (fun _ k => st2.trans k) ?_
  have M2 := Fr.app N0 N2
  rw [show (own_isBit a_INPUT_WORD a_INPUT_BIT a_OUTPUT_BIT) = (0 : Int32) from by unfold own_isBit; rw [if_neg (Fld.ne F_INPUT_WORD_ordinal F_INPUT_BIT_ordinal (by decide)), if_neg (Fld.ne F_INPUT_WORD_ordinal F_OUTPUT_BIT_ordinal (by decide))]]
  refine own_by (B := T2.setTop (mkF m 58 #[VR ua] [])) (fun _ k => XS.ifYes X2.here hx rfl (pc0 := 7) (pc' := 58) rfl (hb hby d5_7) rfl (XT.i0_eq_t (by decide)) (by decide) (by decide) k) ?_
  obtain ⟨T3, h3, X3, e3, E3, A3, D3, -, st3⟩ := newO X2 hx hZ hown (own_hw 37 hw rfl) (own_hw 38 hw rfl) (own_hw 39 hw rfl) e2 (g := (mkF m 58 #[VR ua] [])) rfl (hb hby d5_58) (by decide) (by decide)
  obtain ⟨b3, g3⟩ : ∃ z, z = h0.size := ⟨_, rfl⟩
  rw [← g3] at A3 D3 st3
  have sz3 := E3.1
  have gn3 : n0 ≤ b3 := g3 ▸ own_old_le O0
  have fz3 : h0.size ≤ b3 := g3 ▸ K0.1
  have lt3 := own_lt A3.lt
  have O3 := O0.ext E3
  have K3 := K0.ext E3
  have F3_value : Fld Z h3 b3 "java/lang/AbstractStringBuilder" "value" "[B" .null := D3 (Or.inl (own_hw 54 hw rfl)) (ty := (.array .byte)) (by decide)
  have F3_coder : Fld Z h3 b3 "java/lang/AbstractStringBuilder" "coder" "B" (.int 0) := D3 (Or.inl (own_hw 56 hw rfl)) (ty := .byte) (by decide)
  have F3_count : Fld Z h3 b3 "java/lang/AbstractStringBuilder" "count" "I" (.int 0) := D3 (Or.inl (own_hw 85 hw rfl)) (ty := .int) (by decide)
  refine own_by (B := T3.setTop (mkF m 61 #[VR ua] [(.ref b3)])) st3 ?_
  refine own_by (B := T3.setTop (mkF m 62 #[VR ua] [(.ref b3), (.ref b3)])) (fun _ k => XS.dup X3.here hx rfl (hb hby d5_61) rfl rfl k) ?_
  obtain ⟨_, _, ⟨T4, L4, k4, n4⟩, -, X4, ⟨Lc4, hQ4, l4, y4, z4⟩, st4⟩ := X3.specialBack hx (y := (⟨"java/lang/StringBuilder", "<init>", "()V"⟩ : MethodName)) rfl hown (mvT hZ (own_hw 40 hw rfl)) (mvT hZ (own_hw 41 hw rfl)) (mvT hZ (own_hw 42 hw rfl)) (by decide) (backOf (W := 1) (rmSBi l Z a0 hw [] a_INPUT_BIT a_OUTPUT_BIT a_OUTPUT_WORD a_INPUT_WORD a_MEMORY_WORD p_INPUT_BIT v_INPUT_BIT p_OUTPUT_WORD v_OUTPUT_WORD p_OUTPUT_BIT v_OUTPUT_BIT p_MEMORY_WORD v_MEMORY_WORD p_INPUT_WORD v_INPUT_WORD a_DigitOnes k_INPUT_BIT k_OUTPUT_WORD k_OUTPUT_BIT k_MEMORY_WORD k_INPUT_WORD ucs uff b3 h3 n0 (own_old_le O3) O3 HW A3 F3_value F3_coder F3_count gn3) hZ (own_hw 42 hw rfl) (own_hw 39 hw rfl) (by decide) (by decide)) (g := (mkF m 62 #[VR ua] [(.ref b3), (.ref b3)])) rfl (by rw [hml]; rfl) (Steps.refl _) (a := b3) (argsL := []) (rest := [(.ref b3)]) (lenOf pd_5___V rfl) rfl (by show 2 * 0 + _ ≤ _; exact Nat.le_of_eq rfl) (hb hby d5_62) (fun _ _ => ⟨rfl, e3, (by decide : 1 + 1 ≤ _), (by decide : 4 + 16 ≤ _)⟩)
  dsimp only [Pt.U, Pt.locs, Pt.cells, Pt.slots] at X4 l4 y4 z4 st4 hQ4
  subst l4 y4 z4
  obtain ⟨r0_N4, kr0_N4, rfl, NC4, KC4, hb0_N4, Q0_N4, Q1_N4, Q2_N4, Q3_N4, Q4_N4⟩ := hQ4
  refine own_by (B := T4.setTop (mkF m 65 #[VR ua] [(.ref b3)])) (fun _ k => st4.trans k) ?_
  have gnr0_N4 : n0 ≤ r0_N4 := Nat.le_trans (own_old_le O3) hb0_N4
  have fzr0_N4 : h0.size ≤ r0_N4 := Nat.le_trans K3.1 hb0_N4
  obtain ⟨h4, e4⟩ : ∃ z, T4.heap = z := ⟨_, rfl⟩
  rw [e4] at KC4 Q0_N4 Q1_N4 Q2_N4 Q3_N4 Q4_N4
  have sz4 := KC4.1
  have O4 := O3.keep KC4 (allS gn3 all0)
  have K4 := K3.trans KC4 (allS (Or.inr fz3) all0)
  have N4 := Fr.app M2 NC4
  have ltq4_4 := own_lt Q4_N4.lt
  refine own_by (B := T4.setTop (mkF m 66 #[VR ua] [(.ref ua), (.ref b3)])) (fun _ k => XS.aloadN X4.here hx rfl (hb hby d5_65) rfl rfl  k) ?_
  have c5 := ((F_ua_area.ext E3).keep KC4 (ninS (own_ne (by omega)) nin0))
  obtain ⟨T6, X6, e6, st6⟩ := getF X4 hx hZ hown (host := "") (Or.inl (own_hw 22 hw rfl)) Via.refl e4 c5 (g := (mkF m 66 #[VR ua] [(.ref ua), (.ref b3)])) rfl rfl (hb hby d5_66)
  refine own_by (B := T6.setTop (mkF m 69 #[VR ua] [(.ref a_INPUT_WORD), (.ref b3)])) st6 ?_
  have c7 := (((F_INPUT_WORD_prefix.ext O0.2).ext E3).keep KC4 (ninS (own_ne (by omega)) nin0))
  refine own_by (B := T6.setTop (mkF m 72 #[VR ua] [(.ref p_INPUT_WORD), (.ref b3)])) (fun _ k => own_getR X6 hx hZ hown (own_hw 57 hw rfl) e6 c7 (g := (mkF m 69 #[VR ua] [(.ref a_INPUT_WORD), (.ref b3)])) rfl rfl (hb hby d5_69) _ k) ?_
  have c9 := (((E_p_INPUT_WORD.ext O0.2).ext E3).keep KC4)
  have c10 := (((F_p_INPUT_WORD_value.ext O0.2).ext E3).keep KC4 (ninS (own_ne (by omega)) nin0))
  have c11 := (((F_p_INPUT_WORD_coder.ext O0.2).ext E3).keep KC4 (ninS (own_ne (by omega)) nin0))
  have c12 := (((V_v_INPUT_WORD.ext O0.2).ext E3).keep KC4 (ninS (own_ne (by omega)) nin0))
  obtain ⟨cq13, kq13, qa13, qb13, qc13⟩ := isOf hZ e6 Q0_N4
  obtain ⟨_, _, ⟨T13, L13, k13, n13⟩, -, X13, ⟨Lc13, hQ13, l13, y13, z13⟩, st13⟩ := X6.virtualBack hx (y := (⟨"java/lang/StringBuilder", "append", "(Ljava/lang/String;)Ljava/lang/StringBuilder;"⟩ : MethodName)) (z := (⟨"java/lang/StringBuilder", "append", "(Ljava/lang/String;)Ljava/lang/StringBuilder;"⟩ : MethodName)) hown (mvT hZ (own_hw 59 hw rfl)) (mvT hZ (own_hw 60 hw rfl)) (notFace_of_selects (args := #[]) (mvT hZ (own_hw 62 hw rfl))) (mvT hZ (own_hw 62 hw rfl)) (mvT hZ (own_hw 61 hw rfl)) (by decide) (backOf (W := 0) (rmAp0_3 l Z a0 hw [] a_INPUT_BIT a_OUTPUT_BIT a_OUTPUT_WORD a_INPUT_WORD a_MEMORY_WORD p_INPUT_BIT v_INPUT_BIT p_OUTPUT_WORD v_OUTPUT_WORD p_OUTPUT_BIT v_OUTPUT_BIT p_MEMORY_WORD v_MEMORY_WORD p_INPUT_WORD v_INPUT_WORD a_DigitOnes k_INPUT_BIT k_OUTPUT_WORD k_OUTPUT_BIT k_MEMORY_WORD k_INPUT_WORD ucs uff b3 r0_N4 kr0_N4 p_INPUT_WORD v_INPUT_WORD k_INPUT_WORD (37 : Int32) (73 : Int32) (87 : Int32) h4 n0 (own_old_le O4) O4 HW Q0_N4 Q1_N4 Q2_N4 Q3_N4 Q4_N4 c9 c10 c11 c12 gn3 gnr0_N4) hZ (own_hw 63 hw rfl) (own_hw 39 hw rfl) (by decide) (by decide)) qa13 qc13 (g := (mkF m 72 #[VR ua] [(.ref p_INPUT_WORD), (.ref b3)])) rfl (by rw [hml]; rfl) (Steps.refl _) (argsL := [(.ref p_INPUT_WORD)]) (rest := []) (lenOf pd_5__Ljava_lang_String__Ljava_lang_StringBuilder_ rfl) rfl (by show 2 * 0 + _ ≤ _; exact Nat.le_of_eq rfl) (hb hby d5_72) (fun _ _ => ⟨rfl, e6, (by decide : 2 + 0 ≤ _), (by decide : 20 + 0 ≤ _)⟩)
  dsimp only [Pt.U, Pt.locs, Pt.cells, Pt.slots] at X13 l13 y13 z13 st13 hQ13
  subst l13 y13 z13
  obtain ⟨rfl, NC13, KC13, Q0_N13, Q1_N13, Q2_N13, Q3_N13, Q4_N13⟩ := hQ13
  refine own_by (B := T13.setTop (mkF m 75 #[VR ua] [(.ref b3)])) (fun _ k => st13.trans k) ?_
  obtain ⟨h13, e13⟩ : ∃ z, T13.heap = z := ⟨_, rfl⟩
  rw [e13] at KC13 Q0_N13 Q1_N13 Q2_N13 Q3_N13 Q4_N13
  have sz13 := KC13.1
  have O13 := O4.keep KC13 (allS gn3 (allS gnr0_N4 all0))
  have K13 := K4.trans KC13 (allS (Or.inr fz3) (allS (Or.inr fzr0_N4) all0))
  have N13 := Fr.app N4 NC13
  refine own_by (B := T13.setTop (mkF m 76 #[VR ua] [(.ref ua), (.ref b3)])) (fun _ k => XS.aloadN X13.here hx rfl (hb hby d5_75) rfl rfl  k) ?_
  have c14 := (((F_ua_cell.ext E3).keep KC4 (ninS (own_ne (by omega)) nin0)).keep KC13 (ninS (own_ne (by omega)) (ninS (own_ne (by omega)) nin0)))
  obtain ⟨T15, X15, e15, st15⟩ := getF X13 hx hZ hown (host := "") (Or.inl (own_hw 24 hw rfl)) Via.refl e13 c14 (g := (mkF m 76 #[VR ua] [(.ref ua), (.ref b3)])) rfl rfl (hb hby d5_76)
  refine own_by (B := T15.setTop (mkF m 79 #[VR ua] [(.int 0), (.ref b3)])) st15 ?_
  obtain ⟨cq16, kq16, qa16, qb16, qc16⟩ := isOf hZ e15 Q0_N13
  obtain ⟨_, _, ⟨T16, L16, k16, n16⟩, -, X16, ⟨Lc16, hQ16, l16, y16, z16⟩, st16⟩ := X15.virtualBack hx (y := (⟨"java/lang/StringBuilder", "append", "(I)Ljava/lang/StringBuilder;"⟩ : MethodName)) (z := (⟨"java/lang/StringBuilder", "append", "(I)Ljava/lang/StringBuilder;"⟩ : MethodName)) hown (mvT hZ (own_hw 111 hw rfl)) (mvT hZ (own_hw 112 hw rfl)) (notFace_of_selects (args := #[]) (mvT hZ (own_hw 114 hw rfl))) (mvT hZ (own_hw 114 hw rfl)) (mvT hZ (own_hw 113 hw rfl)) (by decide) (backOf (W := 0) (rmAi3 l Z a0 hw [] a_INPUT_BIT a_OUTPUT_BIT a_OUTPUT_WORD a_INPUT_WORD a_MEMORY_WORD p_INPUT_BIT v_INPUT_BIT p_OUTPUT_WORD v_OUTPUT_WORD p_OUTPUT_BIT v_OUTPUT_BIT p_MEMORY_WORD v_MEMORY_WORD p_INPUT_WORD v_INPUT_WORD a_DigitOnes k_INPUT_BIT k_OUTPUT_WORD k_OUTPUT_BIT k_MEMORY_WORD k_INPUT_WORD ucs uff b3 r0_N4 kr0_N4 (37 : Int32) (73 : Int32) (87 : Int32) h13 n0 (own_old_le O13) O13 HW Q0_N13 Q1_N13 Q2_N13 Q3_N13 Q4_N13 gn3 gnr0_N4) hZ (own_hw 115 hw rfl) (own_hw 39 hw rfl) (by decide) (by decide)) qa16 qc16 (g := (mkF m 79 #[VR ua] [(.int 0), (.ref b3)])) rfl (by rw [hml]; rfl) (Steps.refl _) (argsL := [(.int 0)]) (rest := []) (lenOf pd_5__I_Ljava_lang_StringBuilder_ rfl) rfl (by show 2 * 0 + _ ≤ _; exact Nat.le_of_eq rfl) (hb hby d5_79) (fun _ _ => ⟨rfl, e15, (by decide : 2 + 0 ≤ _), (by decide : 20 + 0 ≤ _)⟩)
  dsimp only [Pt.U, Pt.locs, Pt.cells, Pt.slots] at X16 l16 y16 z16 st16 hQ16
  subst l16 y16 z16
  obtain ⟨rfl, NC16, KC16, Q0_N16, Q1_N16, Q2_N16, Q3_N16, Q4_N16⟩ := hQ16
  refine own_by (B := T16.setTop (mkF m 82 #[VR ua] [(.ref b3)])) (fun _ k => st16.trans k) ?_
  obtain ⟨h16, e16⟩ : ∃ z, T16.heap = z := ⟨_, rfl⟩
  rw [e16] at KC16 Q0_N16 Q1_N16 Q2_N16 Q3_N16 Q4_N16
  have sz16 := KC16.1
  have O16 := O13.keep KC16 (allS gn3 (allS gnr0_N4 all0))
  have K16 := K13.trans KC16 (allS (Or.inr fz3) (allS (Or.inr fzr0_N4) all0))
  have N16 := Fr.app N13 NC16
  obtain ⟨cq17, kq17, qa17, qb17, qc17⟩ := isOf hZ e16 Q0_N16
  obtain ⟨_, _, ⟨T17, L17, k17, n17⟩, -, X17, ⟨Lc17, hQ17, l17, y17, z17⟩, st17⟩ := X16.virtualBack hx (y := (⟨"java/lang/StringBuilder", "toString", "()Ljava/lang/String;"⟩ : MethodName)) (z := (⟨"java/lang/StringBuilder", "toString", "()Ljava/lang/String;"⟩ : MethodName)) hown (mvT hZ (own_hw 137 hw rfl)) (mvT hZ (own_hw 138 hw rfl)) (notFace_of_selects (args := #[]) (mvT hZ (own_hw 140 hw rfl))) (mvT hZ (own_hw 140 hw rfl)) (mvT hZ (own_hw 139 hw rfl)) (by decide) (backOf (W := 0) (rmTs4 l Z a0 hw [] a_INPUT_BIT a_OUTPUT_BIT a_OUTPUT_WORD a_INPUT_WORD a_MEMORY_WORD p_INPUT_BIT v_INPUT_BIT p_OUTPUT_WORD v_OUTPUT_WORD p_OUTPUT_BIT v_OUTPUT_BIT p_MEMORY_WORD v_MEMORY_WORD p_INPUT_WORD v_INPUT_WORD a_DigitOnes k_INPUT_BIT k_OUTPUT_WORD k_OUTPUT_BIT k_MEMORY_WORD k_INPUT_WORD ucs uff b3 r0_N4 kr0_N4 (37 : Int32) (73 : Int32) (87 : Int32) (nar .byte (48 : Int32)) h16 n0 (own_old_le O16) O16 HW Q0_N16 Q1_N16 Q2_N16 Q3_N16 Q4_N16) hZ (own_hw 141 hw rfl) (own_hw 39 hw rfl) (by decide) (by decide)) qa17 qc17 (g := (mkF m 82 #[VR ua] [(.ref b3)])) rfl (by rw [hml]; rfl) (Steps.refl _) (argsL := []) (rest := []) (lenOf pd_5___Ljava_lang_String_ rfl) rfl (by show 2 * 0 + _ ≤ _; exact Nat.le_of_eq rfl) (hb hby d5_82) (fun _ _ => ⟨rfl, e16, (by decide : 2 + 2 ≤ _), (by decide : 20 + 8 ≤ _)⟩)
  dsimp only [Pt.U, Pt.locs, Pt.cells, Pt.slots] at X17 l17 y17 z17 st17 hQ17
  subst l17 y17 z17
  obtain ⟨r0_N17, r1_N17, kr0_N17, rfl, NC17, KC17, hb0_N17, hb1_N17, Q0_N17, Q1_N17, Q2_N17, Q3_N17⟩ := hQ17
  refine own_by (B := T17.setTop (mkF m 85 #[VR ua] [(.ref r0_N17)])) (fun _ k => st17.trans k) ?_
  have gnr0_N17 : n0 ≤ r0_N17 := Nat.le_trans (own_old_le O16) hb0_N17
  have fzr0_N17 : h0.size ≤ r0_N17 := Nat.le_trans K16.1 hb0_N17
  have gnr1_N17 : n0 ≤ r1_N17 := Nat.le_trans (own_old_le O16) hb1_N17
  have fzr1_N17 : h0.size ≤ r1_N17 := Nat.le_trans K16.1 hb1_N17
  obtain ⟨h17, e17⟩ : ∃ z, T17.heap = z := ⟨_, rfl⟩
  rw [e17] at KC17 Q0_N17 Q1_N17 Q2_N17 Q3_N17
  have sz17 := KC17.1
  have O17 := O16.keep KC17 all0
  have K17 := K16.trans KC17 all0
  have N17 := Fr.app N16 NC17
  have ltq0_17 := own_lt Q0_N17.lt
  have ltq3_17 := own_lt Q3_N17.lt
  exact own_retA X17 hx hrt rfl rfl hlk (hb hby d5_85) (by decide) (by decide) (by show own_Q_rmToINPUT_WORD Z ua h0 n0 _ T17.heap _; rw [e17]; exact ⟨r0_N17, r1_N17, kr0_N17, rfl, N17, K17, fzr0_N17, fzr1_N17, Q0_N17, Q1_N17, Q2_N17, Q3_N17⟩)

def own_Q_rmToOUTPUT_WORD (Z : State) (ua : Nat) (h0 : Heap) (n0 : Nat) (v : Option Value) (h : Heap) (L : List Loc) : Prop := ∃ (r0_ r1_ : Nat) (kr0_ : ClassId), v = some (.ref r0_) ∧ Fr n0 L ∧ Keep h0 h [] ∧ h0.size ≤ r0_ ∧ h0.size ≤ r1_ ∧ Exa Z h r0_ "java/lang/String" ∧ Fld Z h r0_ "java/lang/String" "value" "[B" (.ref r1_) ∧ Fld Z h r0_ "java/lang/String" "coder" "B" (.int 0) ∧ Arv Z h r1_ kr0_ .byte (4 : Int32) [(.int 37), (.int 81), (.int 87), (.int (nar .byte (48 : Int32)))] (.int 0)

theorem pn_rmToOUTPUT_WORD : plainFor (⟨"com/example/hotrung/hotrung/image/Address", "toString", "()Ljava/lang/String;"⟩ : MethodName) = true := by first | exact plainFor_of_name (by first | (simp [plainName, overriddenIn]; done) | decide +kernel) | exact Jvm.Free.JP.mathPlain rfl (by decide +kernel) | decide +kernel
theorem ef_rmToOUTPUT_WORD (m : MethodId) (x0 : Nat) : entryFrame m #[(.ref x0)] 1 = mkF m 0 #[VR x0] [] := by first | (simp [entryFrame, mkF, argsToLocals, Value.category]; done) | rfl
set_option maxRecDepth 65536 in
set_option maxHeartbeats 40000000 in
theorem rmToOUTPUT_WORD (l : Launch) (Z : State) (a0 : Array Value) (hw : ∀ d ∈ tables_1, d.before a0 Z = true) (ws : List Jvm.Cond) (a_INPUT_BIT a_OUTPUT_BIT a_OUTPUT_WORD a_INPUT_WORD a_MEMORY_WORD p_INPUT_BIT v_INPUT_BIT p_OUTPUT_WORD v_OUTPUT_WORD p_OUTPUT_BIT v_OUTPUT_BIT p_MEMORY_WORD v_MEMORY_WORD p_INPUT_WORD v_INPUT_WORD a_DigitOnes : Nat) (k_INPUT_BIT : ClassId) (k_OUTPUT_WORD : ClassId) (k_OUTPUT_BIT : ClassId) (k_MEMORY_WORD : ClassId) (k_INPUT_WORD : ClassId) (ucs : Int32) (uff : Value) (ua : Nat) (h0 : Heap) (n0 : Nat) (Z0 : n0 ≤ h0.size) (O0 : Old Z n0 h0) (HW : own_W Z Z.heap a_INPUT_BIT a_OUTPUT_BIT a_OUTPUT_WORD a_INPUT_WORD a_MEMORY_WORD p_INPUT_BIT v_INPUT_BIT p_OUTPUT_WORD v_OUTPUT_WORD p_OUTPUT_BIT v_OUTPUT_BIT p_MEMORY_WORD v_MEMORY_WORD p_INPUT_WORD v_INPUT_WORD a_DigitOnes k_INPUT_BIT k_OUTPUT_WORD k_OUTPUT_BIT k_MEMORY_WORD k_INPUT_WORD ucs uff) (E_ua : Exa Z h0 ua "com/example/hotrung/hotrung/image/Address") (F_ua_area : Fld Z h0 ua "com/example/hotrung/hotrung/image/Address" "area" "Lcom/example/hotrung/hotrung/image/Address$Area;" (.ref a_OUTPUT_WORD)) (F_ua_cell : Fld Z h0 ua "com/example/hotrung/hotrung/image/Address" "cell" "I" (.int 0))   :
    MetFree l (⟨"com/example/hotrung/hotrung/image/Address", "toString", "()Ljava/lang/String;"⟩ : MethodName) (head1 (Jvm.Cond.code (⟨"com/example/hotrung/hotrung/image/Address", "toString", "()Ljava/lang/String;"⟩ : MethodName) prog_30_method_5_code 1 (some (.object "java/lang/String")) :: ws) ({ frames := 6, cells := 4, slots := 28, locals := 124 } : Room)) (fun a U => a = #[(.ref ua)] ∧ Z.Warmed39 U.vm ∧ U.heap = h0) (fun _ _ _ _ _ => True) (fun _ U o U' => ∃ v L, o = .returned v ∧ (own_Q_rmToOUTPUT_WORD Z ua h0 n0) v U'.heap L ∧ FrameEnd U o U' L 4 28) := by
  refine MetFree.of_bodySF pn_rmToOUTPUT_WORD hisR ?_
  intro p e s m args below meth c s₁ Bd hml0 hP hK
  obtain ⟨rfl, hZ, hh⟩ := hP
  have hx := Bd.exec
  have hby := Bd.bytes
  have hml : c.maxLocals = 1 := hml0
  have hown : s.vm.findClass "com/example/hotrung/hotrung/image/Address" = some m.cls := findClass_of_methodNamed Bd.named
  have hnm := (name_of_methodNamed Bd.named Bd.method).1
  have hrt := Bd.returns
  have hlk := Bd.notSynchronized
  have X0 : Stand p l e ({ frames := 6, cells := 4, slots := 28, locals := 124 } : Room) s m #[(.ref ua)] below meth c s₁ [] 0 0 := Stand.of_body Bd
  have e0 : s₁.heap = h0 := by rw [← hh, Bd.state]; rfl
  have N0 := Fr.nil n0
  have K0 := Keep.refl h0 []
  have HW' := HW
  obtain ⟨-, -, -, -, -, E_OUTPUT_WORD, -, -, -, -, F_INPUT_BIT_ordinal, F_OUTPUT_BIT_ordinal, F_OUTPUT_WORD_ordinal, -, -, -, -, -, -, -, E_p_OUTPUT_WORD, F_OUTPUT_WORD_prefix, F_p_OUTPUT_WORD_value, F_p_OUTPUT_WORD_coder, V_v_OUTPUT_WORD, -, -, -, -, -, -, -, -, -, -, -, -, -, -, -, -, -, -, -, -, -⟩ := HW'
  have lt_E_ua := own_lt E_ua.lt
  have lt_p := own_lt (E_p_OUTPUT_WORD.ext O0.2).lt
  have lt_v := own_lt (V_v_OUTPUT_WORD.ext O0.2).lt
  have lt_x := own_lt (E_OUTPUT_WORD.ext O0.2).lt
  refine own_done (B := s₁.setTop (mkF m 0 #[VR ua] [])) (fun t k => castTop (ef_rmToOUTPUT_WORD m ua) k) ?_
  refine own_by (B := s₁.setTop (mkF m 1 #[VR ua] [(.ref ua)])) (fun _ k => XS.aloadN X0.here hx rfl (hb hby d5_0) rfl rfl  k) ?_
  obtain ⟨T1, X1, e1, st1⟩ := getF X0 hx hZ hown (host := "") (Or.inl (own_hw 22 hw rfl)) Via.refl e0 F_ua_area (g := (mkF m 1 #[VR ua] [(.ref ua)])) rfl rfl (hb hby d5_1)
  refine own_by (B := T1.setTop (mkF m 4 #[VR ua] [(.ref a_OUTPUT_WORD)])) st1 ?_
  obtain ⟨cq2, kq2, qa2, qb2, qc2⟩ := isOf hZ e1 (E_OUTPUT_WORD.ext O0.2)
  obtain ⟨_, _, ⟨T2, L2, k2, n2⟩, -, X2, ⟨Lc2, hQ2, l2, y2, z2⟩, st2⟩ := X1.virtualBack hx (y := (⟨"com/example/hotrung/hotrung/image/Address$Area", "isBit", "()Z"⟩ : MethodName)) (z := (⟨"com/example/hotrung/hotrung/image/Address$Area", "isBit", "()Z"⟩ : MethodName)) hown (mvT hZ (own_hw 31 hw rfl)) (mvT hZ (own_hw 32 hw rfl)) (notFace_of_selects (args := #[]) (mvT hZ (own_hw 34 hw rfl))) (mvT hZ (own_hw 34 hw rfl)) (mvT hZ (own_hw 33 hw rfl)) (by decide) (backOf (W := 0) (rm_isBit l Z a0 hw [] a_INPUT_BIT a_OUTPUT_BIT a_OUTPUT_WORD a_INPUT_WORD a_MEMORY_WORD p_INPUT_BIT v_INPUT_BIT p_OUTPUT_WORD v_OUTPUT_WORD p_OUTPUT_BIT v_OUTPUT_BIT p_MEMORY_WORD v_MEMORY_WORD p_INPUT_WORD v_INPUT_WORD a_DigitOnes k_INPUT_BIT k_OUTPUT_WORD k_OUTPUT_BIT k_MEMORY_WORD k_INPUT_WORD ucs uff a_OUTPUT_WORD h0 n0 (own_old_le O0) O0 HW) hZ (own_hw 35 hw rfl) (own_hw 6 hw rfl) (by decide) (by decide)) qa2 qc2 (g := (mkF m 4 #[VR ua] [(.ref a_OUTPUT_WORD)])) rfl (by rw [hml]; rfl) (Steps.refl _) (argsL := []) (rest := []) (lenOf pd_5___Z rfl) rfl (by show 2 * 0 + _ ≤ _; exact Nat.le_of_eq rfl) (hb hby d5_4) (fun _ _ => ⟨rfl, e1, (by decide : 0 + 0 ≤ _), (by decide : 0 + 0 ≤ _)⟩)
  dsimp only [Pt.U, Pt.locs, Pt.cells, Pt.slots] at X2 l2 y2 z2 st2 hQ2
  subst l2 y2 z2
  obtain ⟨rfl, N2, e2⟩ := hQ2
  refine own_by (B := T2.setTop (mkF m 7 #[VR ua] [(.int (own_isBit a_OUTPUT_WORD a_INPUT_BIT a_OUTPUT_BIT))])) (fun _ k => st2.trans k) ?_
  have M2 := Fr.app N0 N2
  rw [show (own_isBit a_OUTPUT_WORD a_INPUT_BIT a_OUTPUT_BIT) = (0 : Int32) from by unfold own_isBit; rw [if_neg (Fld.ne F_OUTPUT_WORD_ordinal F_INPUT_BIT_ordinal (by decide)), if_neg (Fld.ne F_OUTPUT_WORD_ordinal F_OUTPUT_BIT_ordinal (by decide))]]
  refine own_by (B := T2.setTop (mkF m 58 #[VR ua] [])) (fun _ k => XS.ifYes X2.here hx rfl (pc0 := 7) (pc' := 58) rfl (hb hby d5_7) rfl (XT.i0_eq_t (by decide)) (by decide) (by decide) k) ?_
  obtain ⟨T3, h3, X3, e3, E3, A3, D3, -, st3⟩ := newO X2 hx hZ hown (own_hw 37 hw rfl) (own_hw 38 hw rfl) (own_hw 39 hw rfl) e2 (g := (mkF m 58 #[VR ua] [])) rfl (hb hby d5_58) (by decide) (by decide)
  obtain ⟨b3, g3⟩ : ∃ z, z = h0.size := ⟨_, rfl⟩
  rw [← g3] at A3 D3 st3
  have sz3 := E3.1
  have gn3 : n0 ≤ b3 := g3 ▸ own_old_le O0
  have fz3 : h0.size ≤ b3 := g3 ▸ K0.1
  have lt3 := own_lt A3.lt
  have O3 := O0.ext E3
  have K3 := K0.ext E3
  have F3_value : Fld Z h3 b3 "java/lang/AbstractStringBuilder" "value" "[B" .null := D3 (Or.inl (own_hw 54 hw rfl)) (ty := (.array .byte)) (by decide)
  have F3_coder : Fld Z h3 b3 "java/lang/AbstractStringBuilder" "coder" "B" (.int 0) := D3 (Or.inl (own_hw 56 hw rfl)) (ty := .byte) (by decide)
  have F3_count : Fld Z h3 b3 "java/lang/AbstractStringBuilder" "count" "I" (.int 0) := D3 (Or.inl (own_hw 85 hw rfl)) (ty := .int) (by decide)
  refine own_by (B := T3.setTop (mkF m 61 #[VR ua] [(.ref b3)])) st3 ?_
  refine own_by (B := T3.setTop (mkF m 62 #[VR ua] [(.ref b3), (.ref b3)])) (fun _ k => XS.dup X3.here hx rfl (hb hby d5_61) rfl rfl k) ?_
  obtain ⟨_, _, ⟨T4, L4, k4, n4⟩, -, X4, ⟨Lc4, hQ4, l4, y4, z4⟩, st4⟩ := X3.specialBack hx (y := (⟨"java/lang/StringBuilder", "<init>", "()V"⟩ : MethodName)) rfl hown (mvT hZ (own_hw 40 hw rfl)) (mvT hZ (own_hw 41 hw rfl)) (mvT hZ (own_hw 42 hw rfl)) (by decide) (backOf (W := 1) (rmSBi l Z a0 hw [] a_INPUT_BIT a_OUTPUT_BIT a_OUTPUT_WORD a_INPUT_WORD a_MEMORY_WORD p_INPUT_BIT v_INPUT_BIT p_OUTPUT_WORD v_OUTPUT_WORD p_OUTPUT_BIT v_OUTPUT_BIT p_MEMORY_WORD v_MEMORY_WORD p_INPUT_WORD v_INPUT_WORD a_DigitOnes k_INPUT_BIT k_OUTPUT_WORD k_OUTPUT_BIT k_MEMORY_WORD k_INPUT_WORD ucs uff b3 h3 n0 (own_old_le O3) O3 HW A3 F3_value F3_coder F3_count gn3) hZ (own_hw 42 hw rfl) (own_hw 39 hw rfl) (by decide) (by decide)) (g := (mkF m 62 #[VR ua] [(.ref b3), (.ref b3)])) rfl (by rw [hml]; rfl) (Steps.refl _) (a := b3) (argsL := []) (rest := [(.ref b3)]) (lenOf pd_5___V rfl) rfl (by show 2 * 0 + _ ≤ _; exact Nat.le_of_eq rfl) (hb hby d5_62) (fun _ _ => ⟨rfl, e3, (by decide : 1 + 1 ≤ _), (by decide : 4 + 16 ≤ _)⟩)
  dsimp only [Pt.U, Pt.locs, Pt.cells, Pt.slots] at X4 l4 y4 z4 st4 hQ4
  subst l4 y4 z4
  obtain ⟨r0_N4, kr0_N4, rfl, NC4, KC4, hb0_N4, Q0_N4, Q1_N4, Q2_N4, Q3_N4, Q4_N4⟩ := hQ4
  refine own_by (B := T4.setTop (mkF m 65 #[VR ua] [(.ref b3)])) (fun _ k => st4.trans k) ?_
  have gnr0_N4 : n0 ≤ r0_N4 := Nat.le_trans (own_old_le O3) hb0_N4
  have fzr0_N4 : h0.size ≤ r0_N4 := Nat.le_trans K3.1 hb0_N4
  obtain ⟨h4, e4⟩ : ∃ z, T4.heap = z := ⟨_, rfl⟩
  rw [e4] at KC4 Q0_N4 Q1_N4 Q2_N4 Q3_N4 Q4_N4
  have sz4 := KC4.1
  have O4 := O3.keep KC4 (allS gn3 all0)
  have K4 := K3.trans KC4 (allS (Or.inr fz3) all0)
  have N4 := Fr.app M2 NC4
  have ltq4_4 := own_lt Q4_N4.lt
  refine own_by (B := T4.setTop (mkF m 66 #[VR ua] [(.ref ua), (.ref b3)])) (fun _ k => XS.aloadN X4.here hx rfl (hb hby d5_65) rfl rfl  k) ?_
  have c5 := ((F_ua_area.ext E3).keep KC4 (ninS (own_ne (by omega)) nin0))
  obtain ⟨T6, X6, e6, st6⟩ := getF X4 hx hZ hown (host := "") (Or.inl (own_hw 22 hw rfl)) Via.refl e4 c5 (g := (mkF m 66 #[VR ua] [(.ref ua), (.ref b3)])) rfl rfl (hb hby d5_66)
  refine own_by (B := T6.setTop (mkF m 69 #[VR ua] [(.ref a_OUTPUT_WORD), (.ref b3)])) st6 ?_
  have c7 := (((F_OUTPUT_WORD_prefix.ext O0.2).ext E3).keep KC4 (ninS (own_ne (by omega)) nin0))
  refine own_by (B := T6.setTop (mkF m 72 #[VR ua] [(.ref p_OUTPUT_WORD), (.ref b3)])) (fun _ k => own_getR X6 hx hZ hown (own_hw 57 hw rfl) e6 c7 (g := (mkF m 69 #[VR ua] [(.ref a_OUTPUT_WORD), (.ref b3)])) rfl rfl (hb hby d5_69) _ k) ?_
  have c9 := (((E_p_OUTPUT_WORD.ext O0.2).ext E3).keep KC4)
  have c10 := (((F_p_OUTPUT_WORD_value.ext O0.2).ext E3).keep KC4 (ninS (own_ne (by omega)) nin0))
  have c11 := (((F_p_OUTPUT_WORD_coder.ext O0.2).ext E3).keep KC4 (ninS (own_ne (by omega)) nin0))
  have c12 := (((V_v_OUTPUT_WORD.ext O0.2).ext E3).keep KC4 (ninS (own_ne (by omega)) nin0))
  obtain ⟨cq13, kq13, qa13, qb13, qc13⟩ := isOf hZ e6 Q0_N4
  obtain ⟨_, _, ⟨T13, L13, k13, n13⟩, -, X13, ⟨Lc13, hQ13, l13, y13, z13⟩, st13⟩ := X6.virtualBack hx (y := (⟨"java/lang/StringBuilder", "append", "(Ljava/lang/String;)Ljava/lang/StringBuilder;"⟩ : MethodName)) (z := (⟨"java/lang/StringBuilder", "append", "(Ljava/lang/String;)Ljava/lang/StringBuilder;"⟩ : MethodName)) hown (mvT hZ (own_hw 59 hw rfl)) (mvT hZ (own_hw 60 hw rfl)) (notFace_of_selects (args := #[]) (mvT hZ (own_hw 62 hw rfl))) (mvT hZ (own_hw 62 hw rfl)) (mvT hZ (own_hw 61 hw rfl)) (by decide) (backOf (W := 0) (rmAp0_3 l Z a0 hw [] a_INPUT_BIT a_OUTPUT_BIT a_OUTPUT_WORD a_INPUT_WORD a_MEMORY_WORD p_INPUT_BIT v_INPUT_BIT p_OUTPUT_WORD v_OUTPUT_WORD p_OUTPUT_BIT v_OUTPUT_BIT p_MEMORY_WORD v_MEMORY_WORD p_INPUT_WORD v_INPUT_WORD a_DigitOnes k_INPUT_BIT k_OUTPUT_WORD k_OUTPUT_BIT k_MEMORY_WORD k_INPUT_WORD ucs uff b3 r0_N4 kr0_N4 p_OUTPUT_WORD v_OUTPUT_WORD k_OUTPUT_WORD (37 : Int32) (81 : Int32) (87 : Int32) h4 n0 (own_old_le O4) O4 HW Q0_N4 Q1_N4 Q2_N4 Q3_N4 Q4_N4 c9 c10 c11 c12 gn3 gnr0_N4) hZ (own_hw 63 hw rfl) (own_hw 39 hw rfl) (by decide) (by decide)) qa13 qc13 (g := (mkF m 72 #[VR ua] [(.ref p_OUTPUT_WORD), (.ref b3)])) rfl (by rw [hml]; rfl) (Steps.refl _) (argsL := [(.ref p_OUTPUT_WORD)]) (rest := []) (lenOf pd_5__Ljava_lang_String__Ljava_lang_StringBuilder_ rfl) rfl (by show 2 * 0 + _ ≤ _; exact Nat.le_of_eq rfl) (hb hby d5_72) (fun _ _ => ⟨rfl, e6, (by decide : 2 + 0 ≤ _), (by decide : 20 + 0 ≤ _)⟩)
  dsimp only [Pt.U, Pt.locs, Pt.cells, Pt.slots] at X13 l13 y13 z13 st13 hQ13
  subst l13 y13 z13
  obtain ⟨rfl, NC13, KC13, Q0_N13, Q1_N13, Q2_N13, Q3_N13, Q4_N13⟩ := hQ13
  refine own_by (B := T13.setTop (mkF m 75 #[VR ua] [(.ref b3)])) (fun _ k => st13.trans k) ?_
  obtain ⟨h13, e13⟩ : ∃ z, T13.heap = z := ⟨_, rfl⟩
  rw [e13] at KC13 Q0_N13 Q1_N13 Q2_N13 Q3_N13 Q4_N13
  have sz13 := KC13.1
  have O13 := O4.keep KC13 (allS gn3 (allS gnr0_N4 all0))
  have K13 := K4.trans KC13 (allS (Or.inr fz3) (allS (Or.inr fzr0_N4) all0))
  have N13 := Fr.app N4 NC13
  refine own_by (B := T13.setTop (mkF m 76 #[VR ua] [(.ref ua), (.ref b3)])) (fun _ k => XS.aloadN X13.here hx rfl (hb hby d5_75) rfl rfl  k) ?_
  have c14 := (((F_ua_cell.ext E3).keep KC4 (ninS (own_ne (by omega)) nin0)).keep KC13 (ninS (own_ne (by omega)) (ninS (own_ne (by omega)) nin0)))
  obtain ⟨T15, X15, e15, st15⟩ := getF X13 hx hZ hown (host := "") (Or.inl (own_hw 24 hw rfl)) Via.refl e13 c14 (g := (mkF m 76 #[VR ua] [(.ref ua), (.ref b3)])) rfl rfl (hb hby d5_76)
  refine own_by (B := T15.setTop (mkF m 79 #[VR ua] [(.int 0), (.ref b3)])) st15 ?_
  obtain ⟨cq16, kq16, qa16, qb16, qc16⟩ := isOf hZ e15 Q0_N13
  obtain ⟨_, _, ⟨T16, L16, k16, n16⟩, -, X16, ⟨Lc16, hQ16, l16, y16, z16⟩, st16⟩ := X15.virtualBack hx (y := (⟨"java/lang/StringBuilder", "append", "(I)Ljava/lang/StringBuilder;"⟩ : MethodName)) (z := (⟨"java/lang/StringBuilder", "append", "(I)Ljava/lang/StringBuilder;"⟩ : MethodName)) hown (mvT hZ (own_hw 111 hw rfl)) (mvT hZ (own_hw 112 hw rfl)) (notFace_of_selects (args := #[]) (mvT hZ (own_hw 114 hw rfl))) (mvT hZ (own_hw 114 hw rfl)) (mvT hZ (own_hw 113 hw rfl)) (by decide) (backOf (W := 0) (rmAi3 l Z a0 hw [] a_INPUT_BIT a_OUTPUT_BIT a_OUTPUT_WORD a_INPUT_WORD a_MEMORY_WORD p_INPUT_BIT v_INPUT_BIT p_OUTPUT_WORD v_OUTPUT_WORD p_OUTPUT_BIT v_OUTPUT_BIT p_MEMORY_WORD v_MEMORY_WORD p_INPUT_WORD v_INPUT_WORD a_DigitOnes k_INPUT_BIT k_OUTPUT_WORD k_OUTPUT_BIT k_MEMORY_WORD k_INPUT_WORD ucs uff b3 r0_N4 kr0_N4 (37 : Int32) (81 : Int32) (87 : Int32) h13 n0 (own_old_le O13) O13 HW Q0_N13 Q1_N13 Q2_N13 Q3_N13 Q4_N13 gn3 gnr0_N4) hZ (own_hw 115 hw rfl) (own_hw 39 hw rfl) (by decide) (by decide)) qa16 qc16 (g := (mkF m 79 #[VR ua] [(.int 0), (.ref b3)])) rfl (by rw [hml]; rfl) (Steps.refl _) (argsL := [(.int 0)]) (rest := []) (lenOf pd_5__I_Ljava_lang_StringBuilder_ rfl) rfl (by show 2 * 0 + _ ≤ _; exact Nat.le_of_eq rfl) (hb hby d5_79) (fun _ _ => ⟨rfl, e15, (by decide : 2 + 0 ≤ _), (by decide : 20 + 0 ≤ _)⟩)
  dsimp only [Pt.U, Pt.locs, Pt.cells, Pt.slots] at X16 l16 y16 z16 st16 hQ16
  subst l16 y16 z16
  obtain ⟨rfl, NC16, KC16, Q0_N16, Q1_N16, Q2_N16, Q3_N16, Q4_N16⟩ := hQ16
  refine own_by (B := T16.setTop (mkF m 82 #[VR ua] [(.ref b3)])) (fun _ k => st16.trans k) ?_
  obtain ⟨h16, e16⟩ : ∃ z, T16.heap = z := ⟨_, rfl⟩
  rw [e16] at KC16 Q0_N16 Q1_N16 Q2_N16 Q3_N16 Q4_N16
  have sz16 := KC16.1
  have O16 := O13.keep KC16 (allS gn3 (allS gnr0_N4 all0))
  have K16 := K13.trans KC16 (allS (Or.inr fz3) (allS (Or.inr fzr0_N4) all0))
  have N16 := Fr.app N13 NC16
  obtain ⟨cq17, kq17, qa17, qb17, qc17⟩ := isOf hZ e16 Q0_N16
  obtain ⟨_, _, ⟨T17, L17, k17, n17⟩, -, X17, ⟨Lc17, hQ17, l17, y17, z17⟩, st17⟩ := X16.virtualBack hx (y := (⟨"java/lang/StringBuilder", "toString", "()Ljava/lang/String;"⟩ : MethodName)) (z := (⟨"java/lang/StringBuilder", "toString", "()Ljava/lang/String;"⟩ : MethodName)) hown (mvT hZ (own_hw 137 hw rfl)) (mvT hZ (own_hw 138 hw rfl)) (notFace_of_selects (args := #[]) (mvT hZ (own_hw 140 hw rfl))) (mvT hZ (own_hw 140 hw rfl)) (mvT hZ (own_hw 139 hw rfl)) (by decide) (backOf (W := 0) (rmTs4 l Z a0 hw [] a_INPUT_BIT a_OUTPUT_BIT a_OUTPUT_WORD a_INPUT_WORD a_MEMORY_WORD p_INPUT_BIT v_INPUT_BIT p_OUTPUT_WORD v_OUTPUT_WORD p_OUTPUT_BIT v_OUTPUT_BIT p_MEMORY_WORD v_MEMORY_WORD p_INPUT_WORD v_INPUT_WORD a_DigitOnes k_INPUT_BIT k_OUTPUT_WORD k_OUTPUT_BIT k_MEMORY_WORD k_INPUT_WORD ucs uff b3 r0_N4 kr0_N4 (37 : Int32) (81 : Int32) (87 : Int32) (nar .byte (48 : Int32)) h16 n0 (own_old_le O16) O16 HW Q0_N16 Q1_N16 Q2_N16 Q3_N16 Q4_N16) hZ (own_hw 141 hw rfl) (own_hw 39 hw rfl) (by decide) (by decide)) qa17 qc17 (g := (mkF m 82 #[VR ua] [(.ref b3)])) rfl (by rw [hml]; rfl) (Steps.refl _) (argsL := []) (rest := []) (lenOf pd_5___Ljava_lang_String_ rfl) rfl (by show 2 * 0 + _ ≤ _; exact Nat.le_of_eq rfl) (hb hby d5_82) (fun _ _ => ⟨rfl, e16, (by decide : 2 + 2 ≤ _), (by decide : 20 + 8 ≤ _)⟩)
  dsimp only [Pt.U, Pt.locs, Pt.cells, Pt.slots] at X17 l17 y17 z17 st17 hQ17
  subst l17 y17 z17
  obtain ⟨r0_N17, r1_N17, kr0_N17, rfl, NC17, KC17, hb0_N17, hb1_N17, Q0_N17, Q1_N17, Q2_N17, Q3_N17⟩ := hQ17
  refine own_by (B := T17.setTop (mkF m 85 #[VR ua] [(.ref r0_N17)])) (fun _ k => st17.trans k) ?_
  have gnr0_N17 : n0 ≤ r0_N17 := Nat.le_trans (own_old_le O16) hb0_N17
  have fzr0_N17 : h0.size ≤ r0_N17 := Nat.le_trans K16.1 hb0_N17
  have gnr1_N17 : n0 ≤ r1_N17 := Nat.le_trans (own_old_le O16) hb1_N17
  have fzr1_N17 : h0.size ≤ r1_N17 := Nat.le_trans K16.1 hb1_N17
  obtain ⟨h17, e17⟩ : ∃ z, T17.heap = z := ⟨_, rfl⟩
  rw [e17] at KC17 Q0_N17 Q1_N17 Q2_N17 Q3_N17
  have sz17 := KC17.1
  have O17 := O16.keep KC17 all0
  have K17 := K16.trans KC17 all0
  have N17 := Fr.app N16 NC17
  have ltq0_17 := own_lt Q0_N17.lt
  have ltq3_17 := own_lt Q3_N17.lt
  exact own_retA X17 hx hrt rfl rfl hlk (hb hby d5_85) (by decide) (by decide) (by show own_Q_rmToOUTPUT_WORD Z ua h0 n0 _ T17.heap _; rw [e17]; exact ⟨r0_N17, r1_N17, kr0_N17, rfl, N17, K17, fzr0_N17, fzr1_N17, Q0_N17, Q1_N17, Q2_N17, Q3_N17⟩)

def own_Q_rmToMEMORY_WORD (Z : State) (ua : Nat) (h0 : Heap) (n0 : Nat) (v : Option Value) (h : Heap) (L : List Loc) : Prop := ∃ (r0_ r1_ : Nat) (kr0_ : ClassId), v = some (.ref r0_) ∧ Fr n0 L ∧ Keep h0 h [] ∧ h0.size ≤ r0_ ∧ h0.size ≤ r1_ ∧ Exa Z h r0_ "java/lang/String" ∧ Fld Z h r0_ "java/lang/String" "value" "[B" (.ref r1_) ∧ Fld Z h r0_ "java/lang/String" "coder" "B" (.int 0) ∧ Arv Z h r1_ kr0_ .byte (4 : Int32) [(.int 37), (.int 77), (.int 87), (.int (nar .byte (48 : Int32)))] (.int 0)

theorem pn_rmToMEMORY_WORD : plainFor (⟨"com/example/hotrung/hotrung/image/Address", "toString", "()Ljava/lang/String;"⟩ : MethodName) = true := by first | exact plainFor_of_name (by first | (simp [plainName, overriddenIn]; done) | decide +kernel) | exact Jvm.Free.JP.mathPlain rfl (by decide +kernel) | decide +kernel
theorem ef_rmToMEMORY_WORD (m : MethodId) (x0 : Nat) : entryFrame m #[(.ref x0)] 1 = mkF m 0 #[VR x0] [] := by first | (simp [entryFrame, mkF, argsToLocals, Value.category]; done) | rfl
set_option maxRecDepth 65536 in
set_option maxHeartbeats 40000000 in
theorem rmToMEMORY_WORD (l : Launch) (Z : State) (a0 : Array Value) (hw : ∀ d ∈ tables_1, d.before a0 Z = true) (ws : List Jvm.Cond) (a_INPUT_BIT a_OUTPUT_BIT a_OUTPUT_WORD a_INPUT_WORD a_MEMORY_WORD p_INPUT_BIT v_INPUT_BIT p_OUTPUT_WORD v_OUTPUT_WORD p_OUTPUT_BIT v_OUTPUT_BIT p_MEMORY_WORD v_MEMORY_WORD p_INPUT_WORD v_INPUT_WORD a_DigitOnes : Nat) (k_INPUT_BIT : ClassId) (k_OUTPUT_WORD : ClassId) (k_OUTPUT_BIT : ClassId) (k_MEMORY_WORD : ClassId) (k_INPUT_WORD : ClassId) (ucs : Int32) (uff : Value) (ua : Nat) (h0 : Heap) (n0 : Nat) (Z0 : n0 ≤ h0.size) (O0 : Old Z n0 h0) (HW : own_W Z Z.heap a_INPUT_BIT a_OUTPUT_BIT a_OUTPUT_WORD a_INPUT_WORD a_MEMORY_WORD p_INPUT_BIT v_INPUT_BIT p_OUTPUT_WORD v_OUTPUT_WORD p_OUTPUT_BIT v_OUTPUT_BIT p_MEMORY_WORD v_MEMORY_WORD p_INPUT_WORD v_INPUT_WORD a_DigitOnes k_INPUT_BIT k_OUTPUT_WORD k_OUTPUT_BIT k_MEMORY_WORD k_INPUT_WORD ucs uff) (E_ua : Exa Z h0 ua "com/example/hotrung/hotrung/image/Address") (F_ua_area : Fld Z h0 ua "com/example/hotrung/hotrung/image/Address" "area" "Lcom/example/hotrung/hotrung/image/Address$Area;" (.ref a_MEMORY_WORD)) (F_ua_cell : Fld Z h0 ua "com/example/hotrung/hotrung/image/Address" "cell" "I" (.int 0))   :
    MetFree l (⟨"com/example/hotrung/hotrung/image/Address", "toString", "()Ljava/lang/String;"⟩ : MethodName) (head1 (Jvm.Cond.code (⟨"com/example/hotrung/hotrung/image/Address", "toString", "()Ljava/lang/String;"⟩ : MethodName) prog_30_method_5_code 1 (some (.object "java/lang/String")) :: ws) ({ frames := 6, cells := 4, slots := 28, locals := 124 } : Room)) (fun a U => a = #[(.ref ua)] ∧ Z.Warmed39 U.vm ∧ U.heap = h0) (fun _ _ _ _ _ => True) (fun _ U o U' => ∃ v L, o = .returned v ∧ (own_Q_rmToMEMORY_WORD Z ua h0 n0) v U'.heap L ∧ FrameEnd U o U' L 4 28) := by
  refine MetFree.of_bodySF pn_rmToMEMORY_WORD hisR ?_
  intro p e s m args below meth c s₁ Bd hml0 hP hK
  obtain ⟨rfl, hZ, hh⟩ := hP
  have hx := Bd.exec
  have hby := Bd.bytes
  have hml : c.maxLocals = 1 := hml0
  have hown : s.vm.findClass "com/example/hotrung/hotrung/image/Address" = some m.cls := findClass_of_methodNamed Bd.named
  have hnm := (name_of_methodNamed Bd.named Bd.method).1
  have hrt := Bd.returns
  have hlk := Bd.notSynchronized
  have X0 : Stand p l e ({ frames := 6, cells := 4, slots := 28, locals := 124 } : Room) s m #[(.ref ua)] below meth c s₁ [] 0 0 := Stand.of_body Bd
  have e0 : s₁.heap = h0 := by rw [← hh, Bd.state]; rfl
  have N0 := Fr.nil n0
  have K0 := Keep.refl h0 []
  have HW' := HW
  obtain ⟨-, -, -, -, -, -, -, -, -, E_MEMORY_WORD, F_INPUT_BIT_ordinal, F_OUTPUT_BIT_ordinal, -, -, F_MEMORY_WORD_ordinal, -, -, -, -, -, -, -, -, -, -, -, -, -, -, -, E_p_MEMORY_WORD, F_MEMORY_WORD_prefix, F_p_MEMORY_WORD_value, F_p_MEMORY_WORD_coder, V_v_MEMORY_WORD, -, -, -, -, -, -, -, -, -, -, -⟩ := HW'
  have lt_E_ua := own_lt E_ua.lt
  have lt_p := own_lt (E_p_MEMORY_WORD.ext O0.2).lt
  have lt_v := own_lt (V_v_MEMORY_WORD.ext O0.2).lt
  have lt_x := own_lt (E_MEMORY_WORD.ext O0.2).lt
  refine own_done (B := s₁.setTop (mkF m 0 #[VR ua] [])) (fun t k => castTop (ef_rmToMEMORY_WORD m ua) k) ?_
  refine own_by (B := s₁.setTop (mkF m 1 #[VR ua] [(.ref ua)])) (fun _ k => XS.aloadN X0.here hx rfl (hb hby d5_0) rfl rfl  k) ?_
  obtain ⟨T1, X1, e1, st1⟩ := getF X0 hx hZ hown (host := "") (Or.inl (own_hw 22 hw rfl)) Via.refl e0 F_ua_area (g := (mkF m 1 #[VR ua] [(.ref ua)])) rfl rfl (hb hby d5_1)
  refine own_by (B := T1.setTop (mkF m 4 #[VR ua] [(.ref a_MEMORY_WORD)])) st1 ?_
  obtain ⟨cq2, kq2, qa2, qb2, qc2⟩ := isOf hZ e1 (E_MEMORY_WORD.ext O0.2)
  obtain ⟨_, _, ⟨T2, L2, k2, n2⟩, -, X2, ⟨Lc2, hQ2, l2, y2, z2⟩, st2⟩ := X1.virtualBack hx (y := (⟨"com/example/hotrung/hotrung/image/Address$Area", "isBit", "()Z"⟩ : MethodName)) (z := (⟨"com/example/hotrung/hotrung/image/Address$Area", "isBit", "()Z"⟩ : MethodName)) hown (mvT hZ (own_hw 31 hw rfl)) (mvT hZ (own_hw 32 hw rfl)) (notFace_of_selects (args := #[]) (mvT hZ (own_hw 34 hw rfl))) (mvT hZ (own_hw 34 hw rfl)) (mvT hZ (own_hw 33 hw rfl)) (by decide) (backOf (W := 0) (rm_isBit l Z a0 hw [] a_INPUT_BIT a_OUTPUT_BIT a_OUTPUT_WORD a_INPUT_WORD a_MEMORY_WORD p_INPUT_BIT v_INPUT_BIT p_OUTPUT_WORD v_OUTPUT_WORD p_OUTPUT_BIT v_OUTPUT_BIT p_MEMORY_WORD v_MEMORY_WORD p_INPUT_WORD v_INPUT_WORD a_DigitOnes k_INPUT_BIT k_OUTPUT_WORD k_OUTPUT_BIT k_MEMORY_WORD k_INPUT_WORD ucs uff a_MEMORY_WORD h0 n0 (own_old_le O0) O0 HW) hZ (own_hw 35 hw rfl) (own_hw 6 hw rfl) (by decide) (by decide)) qa2 qc2 (g := (mkF m 4 #[VR ua] [(.ref a_MEMORY_WORD)])) rfl (by rw [hml]; rfl) (Steps.refl _) (argsL := []) (rest := []) (lenOf pd_5___Z rfl) rfl (by show 2 * 0 + _ ≤ _; exact Nat.le_of_eq rfl) (hb hby d5_4) (fun _ _ => ⟨rfl, e1, (by decide : 0 + 0 ≤ _), (by decide : 0 + 0 ≤ _)⟩)
  dsimp only [Pt.U, Pt.locs, Pt.cells, Pt.slots] at X2 l2 y2 z2 st2 hQ2
  subst l2 y2 z2
  obtain ⟨rfl, N2, e2⟩ := hQ2
  refine own_by (B := T2.setTop (mkF m 7 #[VR ua] [(.int (own_isBit a_MEMORY_WORD a_INPUT_BIT a_OUTPUT_BIT))])) (fun _ k => st2.trans k) ?_
  have M2 := Fr.app N0 N2
  rw [show (own_isBit a_MEMORY_WORD a_INPUT_BIT a_OUTPUT_BIT) = (0 : Int32) from by unfold own_isBit; rw [if_neg (Fld.ne F_MEMORY_WORD_ordinal F_INPUT_BIT_ordinal (by decide)), if_neg (Fld.ne F_MEMORY_WORD_ordinal F_OUTPUT_BIT_ordinal (by decide))]]
  refine own_by (B := T2.setTop (mkF m 58 #[VR ua] [])) (fun _ k => XS.ifYes X2.here hx rfl (pc0 := 7) (pc' := 58) rfl (hb hby d5_7) rfl (XT.i0_eq_t (by decide)) (by decide) (by decide) k) ?_
  obtain ⟨T3, h3, X3, e3, E3, A3, D3, -, st3⟩ := newO X2 hx hZ hown (own_hw 37 hw rfl) (own_hw 38 hw rfl) (own_hw 39 hw rfl) e2 (g := (mkF m 58 #[VR ua] [])) rfl (hb hby d5_58) (by decide) (by decide)
  obtain ⟨b3, g3⟩ : ∃ z, z = h0.size := ⟨_, rfl⟩
  rw [← g3] at A3 D3 st3
  have sz3 := E3.1
  have gn3 : n0 ≤ b3 := g3 ▸ own_old_le O0
  have fz3 : h0.size ≤ b3 := g3 ▸ K0.1
  have lt3 := own_lt A3.lt
  have O3 := O0.ext E3
  have K3 := K0.ext E3
  have F3_value : Fld Z h3 b3 "java/lang/AbstractStringBuilder" "value" "[B" .null := D3 (Or.inl (own_hw 54 hw rfl)) (ty := (.array .byte)) (by decide)
  have F3_coder : Fld Z h3 b3 "java/lang/AbstractStringBuilder" "coder" "B" (.int 0) := D3 (Or.inl (own_hw 56 hw rfl)) (ty := .byte) (by decide)
  have F3_count : Fld Z h3 b3 "java/lang/AbstractStringBuilder" "count" "I" (.int 0) := D3 (Or.inl (own_hw 85 hw rfl)) (ty := .int) (by decide)
  refine own_by (B := T3.setTop (mkF m 61 #[VR ua] [(.ref b3)])) st3 ?_
  refine own_by (B := T3.setTop (mkF m 62 #[VR ua] [(.ref b3), (.ref b3)])) (fun _ k => XS.dup X3.here hx rfl (hb hby d5_61) rfl rfl k) ?_
  obtain ⟨_, _, ⟨T4, L4, k4, n4⟩, -, X4, ⟨Lc4, hQ4, l4, y4, z4⟩, st4⟩ := X3.specialBack hx (y := (⟨"java/lang/StringBuilder", "<init>", "()V"⟩ : MethodName)) rfl hown (mvT hZ (own_hw 40 hw rfl)) (mvT hZ (own_hw 41 hw rfl)) (mvT hZ (own_hw 42 hw rfl)) (by decide) (backOf (W := 1) (rmSBi l Z a0 hw [] a_INPUT_BIT a_OUTPUT_BIT a_OUTPUT_WORD a_INPUT_WORD a_MEMORY_WORD p_INPUT_BIT v_INPUT_BIT p_OUTPUT_WORD v_OUTPUT_WORD p_OUTPUT_BIT v_OUTPUT_BIT p_MEMORY_WORD v_MEMORY_WORD p_INPUT_WORD v_INPUT_WORD a_DigitOnes k_INPUT_BIT k_OUTPUT_WORD k_OUTPUT_BIT k_MEMORY_WORD k_INPUT_WORD ucs uff b3 h3 n0 (own_old_le O3) O3 HW A3 F3_value F3_coder F3_count gn3) hZ (own_hw 42 hw rfl) (own_hw 39 hw rfl) (by decide) (by decide)) (g := (mkF m 62 #[VR ua] [(.ref b3), (.ref b3)])) rfl (by rw [hml]; rfl) (Steps.refl _) (a := b3) (argsL := []) (rest := [(.ref b3)]) (lenOf pd_5___V rfl) rfl (by show 2 * 0 + _ ≤ _; exact Nat.le_of_eq rfl) (hb hby d5_62) (fun _ _ => ⟨rfl, e3, (by decide : 1 + 1 ≤ _), (by decide : 4 + 16 ≤ _)⟩)
  dsimp only [Pt.U, Pt.locs, Pt.cells, Pt.slots] at X4 l4 y4 z4 st4 hQ4
  subst l4 y4 z4
  obtain ⟨r0_N4, kr0_N4, rfl, NC4, KC4, hb0_N4, Q0_N4, Q1_N4, Q2_N4, Q3_N4, Q4_N4⟩ := hQ4
  refine own_by (B := T4.setTop (mkF m 65 #[VR ua] [(.ref b3)])) (fun _ k => st4.trans k) ?_
  have gnr0_N4 : n0 ≤ r0_N4 := Nat.le_trans (own_old_le O3) hb0_N4
  have fzr0_N4 : h0.size ≤ r0_N4 := Nat.le_trans K3.1 hb0_N4
  obtain ⟨h4, e4⟩ : ∃ z, T4.heap = z := ⟨_, rfl⟩
  rw [e4] at KC4 Q0_N4 Q1_N4 Q2_N4 Q3_N4 Q4_N4
  have sz4 := KC4.1
  have O4 := O3.keep KC4 (allS gn3 all0)
  have K4 := K3.trans KC4 (allS (Or.inr fz3) all0)
  have N4 := Fr.app M2 NC4
  have ltq4_4 := own_lt Q4_N4.lt
  refine own_by (B := T4.setTop (mkF m 66 #[VR ua] [(.ref ua), (.ref b3)])) (fun _ k => XS.aloadN X4.here hx rfl (hb hby d5_65) rfl rfl  k) ?_
  have c5 := ((F_ua_area.ext E3).keep KC4 (ninS (own_ne (by omega)) nin0))
  obtain ⟨T6, X6, e6, st6⟩ := getF X4 hx hZ hown (host := "") (Or.inl (own_hw 22 hw rfl)) Via.refl e4 c5 (g := (mkF m 66 #[VR ua] [(.ref ua), (.ref b3)])) rfl rfl (hb hby d5_66)
  refine own_by (B := T6.setTop (mkF m 69 #[VR ua] [(.ref a_MEMORY_WORD), (.ref b3)])) st6 ?_
  have c7 := (((F_MEMORY_WORD_prefix.ext O0.2).ext E3).keep KC4 (ninS (own_ne (by omega)) nin0))
  refine own_by (B := T6.setTop (mkF m 72 #[VR ua] [(.ref p_MEMORY_WORD), (.ref b3)])) (fun _ k => own_getR X6 hx hZ hown (own_hw 57 hw rfl) e6 c7 (g := (mkF m 69 #[VR ua] [(.ref a_MEMORY_WORD), (.ref b3)])) rfl rfl (hb hby d5_69) _ k) ?_
  have c9 := (((E_p_MEMORY_WORD.ext O0.2).ext E3).keep KC4)
  have c10 := (((F_p_MEMORY_WORD_value.ext O0.2).ext E3).keep KC4 (ninS (own_ne (by omega)) nin0))
  have c11 := (((F_p_MEMORY_WORD_coder.ext O0.2).ext E3).keep KC4 (ninS (own_ne (by omega)) nin0))
  have c12 := (((V_v_MEMORY_WORD.ext O0.2).ext E3).keep KC4 (ninS (own_ne (by omega)) nin0))
  obtain ⟨cq13, kq13, qa13, qb13, qc13⟩ := isOf hZ e6 Q0_N4
  obtain ⟨_, _, ⟨T13, L13, k13, n13⟩, -, X13, ⟨Lc13, hQ13, l13, y13, z13⟩, st13⟩ := X6.virtualBack hx (y := (⟨"java/lang/StringBuilder", "append", "(Ljava/lang/String;)Ljava/lang/StringBuilder;"⟩ : MethodName)) (z := (⟨"java/lang/StringBuilder", "append", "(Ljava/lang/String;)Ljava/lang/StringBuilder;"⟩ : MethodName)) hown (mvT hZ (own_hw 59 hw rfl)) (mvT hZ (own_hw 60 hw rfl)) (notFace_of_selects (args := #[]) (mvT hZ (own_hw 62 hw rfl))) (mvT hZ (own_hw 62 hw rfl)) (mvT hZ (own_hw 61 hw rfl)) (by decide) (backOf (W := 0) (rmAp0_3 l Z a0 hw [] a_INPUT_BIT a_OUTPUT_BIT a_OUTPUT_WORD a_INPUT_WORD a_MEMORY_WORD p_INPUT_BIT v_INPUT_BIT p_OUTPUT_WORD v_OUTPUT_WORD p_OUTPUT_BIT v_OUTPUT_BIT p_MEMORY_WORD v_MEMORY_WORD p_INPUT_WORD v_INPUT_WORD a_DigitOnes k_INPUT_BIT k_OUTPUT_WORD k_OUTPUT_BIT k_MEMORY_WORD k_INPUT_WORD ucs uff b3 r0_N4 kr0_N4 p_MEMORY_WORD v_MEMORY_WORD k_MEMORY_WORD (37 : Int32) (77 : Int32) (87 : Int32) h4 n0 (own_old_le O4) O4 HW Q0_N4 Q1_N4 Q2_N4 Q3_N4 Q4_N4 c9 c10 c11 c12 gn3 gnr0_N4) hZ (own_hw 63 hw rfl) (own_hw 39 hw rfl) (by decide) (by decide)) qa13 qc13 (g := (mkF m 72 #[VR ua] [(.ref p_MEMORY_WORD), (.ref b3)])) rfl (by rw [hml]; rfl) (Steps.refl _) (argsL := [(.ref p_MEMORY_WORD)]) (rest := []) (lenOf pd_5__Ljava_lang_String__Ljava_lang_StringBuilder_ rfl) rfl (by show 2 * 0 + _ ≤ _; exact Nat.le_of_eq rfl) (hb hby d5_72) (fun _ _ => ⟨rfl, e6, (by decide : 2 + 0 ≤ _), (by decide : 20 + 0 ≤ _)⟩)
  dsimp only [Pt.U, Pt.locs, Pt.cells, Pt.slots] at X13 l13 y13 z13 st13 hQ13
  subst l13 y13 z13
  obtain ⟨rfl, NC13, KC13, Q0_N13, Q1_N13, Q2_N13, Q3_N13, Q4_N13⟩ := hQ13
  refine own_by (B := T13.setTop (mkF m 75 #[VR ua] [(.ref b3)])) (fun _ k => st13.trans k) ?_
  obtain ⟨h13, e13⟩ : ∃ z, T13.heap = z := ⟨_, rfl⟩
  rw [e13] at KC13 Q0_N13 Q1_N13 Q2_N13 Q3_N13 Q4_N13
  have sz13 := KC13.1
  have O13 := O4.keep KC13 (allS gn3 (allS gnr0_N4 all0))
  have K13 := K4.trans KC13 (allS (Or.inr fz3) (allS (Or.inr fzr0_N4) all0))
  have N13 := Fr.app N4 NC13
  refine own_by (B := T13.setTop (mkF m 76 #[VR ua] [(.ref ua), (.ref b3)])) (fun _ k => XS.aloadN X13.here hx rfl (hb hby d5_75) rfl rfl  k) ?_
  have c14 := (((F_ua_cell.ext E3).keep KC4 (ninS (own_ne (by omega)) nin0)).keep KC13 (ninS (own_ne (by omega)) (ninS (own_ne (by omega)) nin0)))
  obtain ⟨T15, X15, e15, st15⟩ := getF X13 hx hZ hown (host := "") (Or.inl (own_hw 24 hw rfl)) Via.refl e13 c14 (g := (mkF m 76 #[VR ua] [(.ref ua), (.ref b3)])) rfl rfl (hb hby d5_76)
  refine own_by (B := T15.setTop (mkF m 79 #[VR ua] [(.int 0), (.ref b3)])) st15 ?_
  obtain ⟨cq16, kq16, qa16, qb16, qc16⟩ := isOf hZ e15 Q0_N13
  obtain ⟨_, _, ⟨T16, L16, k16, n16⟩, -, X16, ⟨Lc16, hQ16, l16, y16, z16⟩, st16⟩ := X15.virtualBack hx (y := (⟨"java/lang/StringBuilder", "append", "(I)Ljava/lang/StringBuilder;"⟩ : MethodName)) (z := (⟨"java/lang/StringBuilder", "append", "(I)Ljava/lang/StringBuilder;"⟩ : MethodName)) hown (mvT hZ (own_hw 111 hw rfl)) (mvT hZ (own_hw 112 hw rfl)) (notFace_of_selects (args := #[]) (mvT hZ (own_hw 114 hw rfl))) (mvT hZ (own_hw 114 hw rfl)) (mvT hZ (own_hw 113 hw rfl)) (by decide) (backOf (W := 0) (rmAi3 l Z a0 hw [] a_INPUT_BIT a_OUTPUT_BIT a_OUTPUT_WORD a_INPUT_WORD a_MEMORY_WORD p_INPUT_BIT v_INPUT_BIT p_OUTPUT_WORD v_OUTPUT_WORD p_OUTPUT_BIT v_OUTPUT_BIT p_MEMORY_WORD v_MEMORY_WORD p_INPUT_WORD v_INPUT_WORD a_DigitOnes k_INPUT_BIT k_OUTPUT_WORD k_OUTPUT_BIT k_MEMORY_WORD k_INPUT_WORD ucs uff b3 r0_N4 kr0_N4 (37 : Int32) (77 : Int32) (87 : Int32) h13 n0 (own_old_le O13) O13 HW Q0_N13 Q1_N13 Q2_N13 Q3_N13 Q4_N13 gn3 gnr0_N4) hZ (own_hw 115 hw rfl) (own_hw 39 hw rfl) (by decide) (by decide)) qa16 qc16 (g := (mkF m 79 #[VR ua] [(.int 0), (.ref b3)])) rfl (by rw [hml]; rfl) (Steps.refl _) (argsL := [(.int 0)]) (rest := []) (lenOf pd_5__I_Ljava_lang_StringBuilder_ rfl) rfl (by show 2 * 0 + _ ≤ _; exact Nat.le_of_eq rfl) (hb hby d5_79) (fun _ _ => ⟨rfl, e15, (by decide : 2 + 0 ≤ _), (by decide : 20 + 0 ≤ _)⟩)
  dsimp only [Pt.U, Pt.locs, Pt.cells, Pt.slots] at X16 l16 y16 z16 st16 hQ16
  subst l16 y16 z16
  obtain ⟨rfl, NC16, KC16, Q0_N16, Q1_N16, Q2_N16, Q3_N16, Q4_N16⟩ := hQ16
  refine own_by (B := T16.setTop (mkF m 82 #[VR ua] [(.ref b3)])) (fun _ k => st16.trans k) ?_
  obtain ⟨h16, e16⟩ : ∃ z, T16.heap = z := ⟨_, rfl⟩
  rw [e16] at KC16 Q0_N16 Q1_N16 Q2_N16 Q3_N16 Q4_N16
  have sz16 := KC16.1
  have O16 := O13.keep KC16 (allS gn3 (allS gnr0_N4 all0))
  have K16 := K13.trans KC16 (allS (Or.inr fz3) (allS (Or.inr fzr0_N4) all0))
  have N16 := Fr.app N13 NC16
  obtain ⟨cq17, kq17, qa17, qb17, qc17⟩ := isOf hZ e16 Q0_N16
  obtain ⟨_, _, ⟨T17, L17, k17, n17⟩, -, X17, ⟨Lc17, hQ17, l17, y17, z17⟩, st17⟩ := X16.virtualBack hx (y := (⟨"java/lang/StringBuilder", "toString", "()Ljava/lang/String;"⟩ : MethodName)) (z := (⟨"java/lang/StringBuilder", "toString", "()Ljava/lang/String;"⟩ : MethodName)) hown (mvT hZ (own_hw 137 hw rfl)) (mvT hZ (own_hw 138 hw rfl)) (notFace_of_selects (args := #[]) (mvT hZ (own_hw 140 hw rfl))) (mvT hZ (own_hw 140 hw rfl)) (mvT hZ (own_hw 139 hw rfl)) (by decide) (backOf (W := 0) (rmTs4 l Z a0 hw [] a_INPUT_BIT a_OUTPUT_BIT a_OUTPUT_WORD a_INPUT_WORD a_MEMORY_WORD p_INPUT_BIT v_INPUT_BIT p_OUTPUT_WORD v_OUTPUT_WORD p_OUTPUT_BIT v_OUTPUT_BIT p_MEMORY_WORD v_MEMORY_WORD p_INPUT_WORD v_INPUT_WORD a_DigitOnes k_INPUT_BIT k_OUTPUT_WORD k_OUTPUT_BIT k_MEMORY_WORD k_INPUT_WORD ucs uff b3 r0_N4 kr0_N4 (37 : Int32) (77 : Int32) (87 : Int32) (nar .byte (48 : Int32)) h16 n0 (own_old_le O16) O16 HW Q0_N16 Q1_N16 Q2_N16 Q3_N16 Q4_N16) hZ (own_hw 141 hw rfl) (own_hw 39 hw rfl) (by decide) (by decide)) qa17 qc17 (g := (mkF m 82 #[VR ua] [(.ref b3)])) rfl (by rw [hml]; rfl) (Steps.refl _) (argsL := []) (rest := []) (lenOf pd_5___Ljava_lang_String_ rfl) rfl (by show 2 * 0 + _ ≤ _; exact Nat.le_of_eq rfl) (hb hby d5_82) (fun _ _ => ⟨rfl, e16, (by decide : 2 + 2 ≤ _), (by decide : 20 + 8 ≤ _)⟩)
  dsimp only [Pt.U, Pt.locs, Pt.cells, Pt.slots] at X17 l17 y17 z17 st17 hQ17
  subst l17 y17 z17
  obtain ⟨r0_N17, r1_N17, kr0_N17, rfl, NC17, KC17, hb0_N17, hb1_N17, Q0_N17, Q1_N17, Q2_N17, Q3_N17⟩ := hQ17
  refine own_by (B := T17.setTop (mkF m 85 #[VR ua] [(.ref r0_N17)])) (fun _ k => st17.trans k) ?_
  have gnr0_N17 : n0 ≤ r0_N17 := Nat.le_trans (own_old_le O16) hb0_N17
  have fzr0_N17 : h0.size ≤ r0_N17 := Nat.le_trans K16.1 hb0_N17
  have gnr1_N17 : n0 ≤ r1_N17 := Nat.le_trans (own_old_le O16) hb1_N17
  have fzr1_N17 : h0.size ≤ r1_N17 := Nat.le_trans K16.1 hb1_N17
  obtain ⟨h17, e17⟩ : ∃ z, T17.heap = z := ⟨_, rfl⟩
  rw [e17] at KC17 Q0_N17 Q1_N17 Q2_N17 Q3_N17
  have sz17 := KC17.1
  have O17 := O16.keep KC17 all0
  have K17 := K16.trans KC17 all0
  have N17 := Fr.app N16 NC17
  have ltq0_17 := own_lt Q0_N17.lt
  have ltq3_17 := own_lt Q3_N17.lt
  exact own_retA X17 hx hrt rfl rfl hlk (hb hby d5_85) (by decide) (by decide) (by show own_Q_rmToMEMORY_WORD Z ua h0 n0 _ T17.heap _; rw [e17]; exact ⟨r0_N17, r1_N17, kr0_N17, rfl, N17, K17, fzr0_N17, fzr1_N17, Q0_N17, Q1_N17, Q2_N17, Q3_N17⟩)

def own_Q0 (n0 : Nat) (v : Option Value) (h : Heap) (L : List Loc) : Prop := v = some (.int 1) ∧ Fr n0 L

theorem pd_0__I_Lcom_example_hotrung_hotrung_image_Address_Area_ : parseMethodDescriptor "(I)Lcom/example/hotrung/hotrung/image/Address$Area;" = some ⟨[.int], some (.object "com/example/hotrung/hotrung/image/Address$Area")⟩ := by decide +kernel
theorem pd_0__Lcom_example_hotrung_hotrung_image_Address_Area_I_V : parseMethodDescriptor "(Lcom/example/hotrung/hotrung/image/Address$Area;I)V" = some ⟨[(.object "com/example/hotrung/hotrung/image/Address$Area"), .int], none⟩ := by decide +kernel
theorem pd_0___Ljava_lang_String_ : parseMethodDescriptor "()Ljava/lang/String;" = some ⟨[], some (.object "java/lang/String")⟩ := by decide +kernel
theorem pd_0___I : parseMethodDescriptor "()I" = some ⟨[], some .int⟩ := by decide +kernel
theorem pd_0__I_C : parseMethodDescriptor "(I)C" = some ⟨[.int], some .char⟩ := by decide +kernel
theorem pd_0___Z : parseMethodDescriptor "()Z" = some ⟨[], some .boolean⟩ := by decide +kernel
theorem pn_rm0 : plainFor (⟨"com/example/hotrung/hotrung/image/AreaIsOutputPinLaw", "law", "(I)Z"⟩ : MethodName) = true := by first | exact plainFor_of_name (by first | (simp [plainName, overriddenIn]; done) | decide +kernel) | exact Jvm.Free.JP.mathPlain rfl (by decide +kernel) | decide +kernel
theorem ef_rm0 (m : MethodId) (x0 : Int32) : entryFrame m #[(.int x0)] maxLocals = mkF m 0 #[VI x0, UU, UU, UU, UU, UU] [] := by first | (simp [entryFrame, mkF, argsToLocals, Value.category, maxLocals]; done) | rfl
set_option maxRecDepth 65536 in
set_option maxHeartbeats 40000000 in
theorem rm0 (l : Launch) (Z : State) (a0 : Array Value) (hw : ∀ d ∈ tables_1, d.before a0 Z = true) (ws : List Jvm.Cond) (a_INPUT_BIT a_OUTPUT_BIT a_OUTPUT_WORD a_INPUT_WORD a_MEMORY_WORD p_INPUT_BIT v_INPUT_BIT p_OUTPUT_WORD v_OUTPUT_WORD p_OUTPUT_BIT v_OUTPUT_BIT p_MEMORY_WORD v_MEMORY_WORD p_INPUT_WORD v_INPUT_WORD a_DigitOnes : Nat) (k_INPUT_BIT : ClassId) (k_OUTPUT_WORD : ClassId) (k_OUTPUT_BIT : ClassId) (k_MEMORY_WORD : ClassId) (k_INPUT_WORD : ClassId) (ucs : Int32) (uff : Value) (ua : Int32) (h0 : Heap) (n0 : Nat) (Z0 : n0 ≤ h0.size) (O0 : Old Z n0 h0) (HW : own_W Z Z.heap a_INPUT_BIT a_OUTPUT_BIT a_OUTPUT_WORD a_INPUT_WORD a_MEMORY_WORD p_INPUT_BIT v_INPUT_BIT p_OUTPUT_WORD v_OUTPUT_WORD p_OUTPUT_BIT v_OUTPUT_BIT p_MEMORY_WORD v_MEMORY_WORD p_INPUT_WORD v_INPUT_WORD a_DigitOnes k_INPUT_BIT k_OUTPUT_WORD k_OUTPUT_BIT k_MEMORY_WORD k_INPUT_WORD ucs uff) :
    MetFree l x (head1 (Jvm.Cond.code x code maxLocals ret :: ws) room_1) (fun a U => a = #[(.int ua)] ∧ Z.Warmed39 U.vm ∧ U.heap = h0 ∧ CHv Z own_EL U.vm h0) (fun _ _ _ _ _ => True) (fun _ U o U' => ∃ v L, o = .returned v ∧ (own_Q0 n0) v U'.heap L ∧ ReturnedEndW U o U' L 24 1216) := by
  refine MetFree.of_bodySF pn_rm0 hisR ?_
  intro p e s m args below meth c s₁ Bd hml0 hP hK
  obtain ⟨rfl, hZ, hh, CH0⟩ := hP
  have hx := Bd.exec
  have hby := Bd.bytes
  have hml : c.maxLocals = 6 := hml0
  have hown : s.vm.findClass "com/example/hotrung/hotrung/image/AreaIsOutputPinLaw" = some m.cls := findClass_of_methodNamed Bd.named
  have hnm := (name_of_methodNamed Bd.named Bd.method).1
  have hrt := Bd.returns
  have hlk := Bd.notSynchronized
  have X0 : Stand p l e room_1 s m #[(.int ua)] below meth c s₁ [] 0 0 := Stand.of_body Bd
  have e0 : s₁.heap = h0 := by rw [← hh, Bd.state]; rfl
  have N0 := Fr.nil n0
  have K0 := Keep.refl h0 []
  have HW' := HW
  obtain ⟨-, E_INPUT_BIT, -, E_OUTPUT_BIT, -, E_OUTPUT_WORD, -, E_INPUT_WORD, -, E_MEMORY_WORD, F_INPUT_BIT_ordinal, F_OUTPUT_BIT_ordinal, F_OUTPUT_WORD_ordinal, F_INPUT_WORD_ordinal, F_MEMORY_WORD_ordinal, -, -, -, -, -, -, -, -, -, -, -, -, -, -, -, -, -, -, -, -, -, -, -, -, -, -, -, -, -, -, -⟩ := HW'
  have own_wS : ∀ a ∈ Bundle.stringAtoms, a.before a0 Z = true := by
    intro d hd
    simp only [Bundle.stringAtoms, List.mem_cons, List.not_mem_nil, or_false] at hd
    rcases hd with rfl | rfl | rfl | rfl | rfl | rfl | rfl
    · exact (own_hw 51 hw rfl)
    · exact (own_hw 134 hw rfl)
    · exact (own_hw 52 hw rfl)
    · exact (own_hw 75 hw rfl)
    · exact (own_hw 83 hw rfl)
    · exact (own_hw 135 hw rfl)
    · exact (own_hw 136 hw rfl)
  have own_hEL : EW Z a0 own_EL := EW.cons (own_hw 133 hw rfl) (by decide) EW.nil
  refine own_doneL (B := s₁.setTop (mkF m 0 #[VI ua, UU, UU, UU, UU, UU] [])) (fun t k => castTop (ef_rm0 m ua) k) ?_
  refine own_by (B := s₁.setTop (mkF m 1 #[VI ua, UU, UU, UU, UU, UU] [(.int ua)])) (fun _ k => XS.iloadN X0.here hx rfl (hb hby at_0) rfl  k) ?_
  refine own_by (B := s₁.setTop (mkF m 3 #[VI ua, UU, UU, UU, UU, UU] [(.int 2147483647), (.int ua)])) (fun _ k => X0.ldcI (g := (mkF m 1 #[VI ua, UU, UU, UU, UU, UU] [(.int ua)])) hx hown (mvT hZ (own_hw 0 hw rfl)) rfl (hb hby at_1) k) ?_
  refine own_by (B := s₁.setTop (mkF m 4 #[VI ua, UU, UU, UU, UU, UU] [(.int (ua &&& (2147483647 : Int32)))])) (fun _ k => XS.iand X0.here hx rfl (hb hby at_3) rfl k) ?_
  refine own_by (B := s₁.setTop (mkF m 5 #[VI ua, UU, UU, UU, UU, UU] [(.int 5), (.int (ua &&& (2147483647 : Int32)))])) (fun _ k => XS.iconst X0.here hx rfl (hb hby at_4) k) ?_
  refine own_by (B := s₁.setTop (mkF m 6 #[VI ua, UU, UU, UU, UU, UU] [(.int ((ua &&& (2147483647 : Int32)) % (5 : Int32)))])) (fun _ k => iremM (g := (mkF m 5 #[VI ua, UU, UU, UU, UU, UU] [(.int 5), (.int (ua &&& (2147483647 : Int32)))])) X0 hx rfl (hb hby at_5) rfl (by decide) k) ?_
  refine own_by (B := s₁.setTop (mkF m 7 #[VI ua, .val (.int ((ua &&& (2147483647 : Int32)) % (5 : Int32))), UU, UU, UU, UU] [])) (fun _ k => XS.istoreN X0.here hx rfl (hb hby at_6) rfl (l' := #[VI ua, .val (.int ((ua &&& (2147483647 : Int32)) % (5 : Int32))), UU, UU, UU, UU]) rfl k) ?_
  obtain ⟨ha0, ha1⟩ := own_mod ua (5 : Int32) (by decide)
  have has := own_enum5 ha0 ha1
  generalize ((ua &&& (2147483647 : Int32)) % (5 : Int32)) = ui at has ⊢
  rcases has with rfl | rfl | rfl | rfl | rfl
  · refine own_by (B := s₁.setTop (mkF m 8 #[VI ua, VI 0, UU, UU, UU, UU] [(.int 0)])) (fun _ k => XS.iloadN X0.here hx rfl (hb hby at_7) rfl  k) ?_
    obtain ⟨_, _, ⟨T1, L1, k1, n1⟩, -, X1, ⟨Lc1, hQ1, l1, y1, z1⟩, st1⟩ := Jvm.LawKit.callS X0 hx (y := (⟨"com/example/hotrung/hotrung/image/AreaIsOutputPinLaw", "pick", "(I)Lcom/example/hotrung/hotrung/image/Address$Area;"⟩ : MethodName)) hown (mvT hZ (own_hw 1 hw rfl)) (mvT hZ (own_hw 2 hw rfl)) (mvT hZ (own_hw 3 hw rfl)) (mvT hZ (own_hw 4 hw rfl)) (by decide) (backOf (W := 0) (rm_pick l Z a0 hw [] a_INPUT_BIT a_OUTPUT_BIT a_OUTPUT_WORD a_INPUT_WORD a_MEMORY_WORD p_INPUT_BIT v_INPUT_BIT p_OUTPUT_WORD v_OUTPUT_WORD p_OUTPUT_BIT v_OUTPUT_BIT p_MEMORY_WORD v_MEMORY_WORD p_INPUT_WORD v_INPUT_WORD a_DigitOnes k_INPUT_BIT k_OUTPUT_WORD k_OUTPUT_BIT k_MEMORY_WORD k_INPUT_WORD ucs uff (0 : Int32) h0 n0 (own_old_le O0) O0 HW) hZ (own_hw 4 hw rfl) (own_hw 3 hw rfl) (by decide) (by decide)) (g := (mkF m 8 #[VI ua, VI 0, UU, UU, UU, UU] [(.int 0)])) rfl (by rw [hml]; rfl) (argsL := [(.int 0)]) (rest := []) (lenOf pd_0__I_Lcom_example_hotrung_hotrung_image_Address_Area_ rfl) rfl (by show 2 * 0 + _ ≤ _; exact Nat.le_of_eq rfl) (hb hby at_8) (fun _ _ => ⟨rfl, e0, (by decide : 0 + 0 ≤ _), (by decide : 0 + 0 ≤ _)⟩)
    dsimp only [Pt.U, Pt.locs, Pt.cells, Pt.slots] at X1 l1 y1 z1 st1 hQ1
    subst l1 y1 z1
    obtain ⟨rfl, N1, e1⟩ := hQ1
    refine own_by (B := T1.setTop (mkF m 11 #[VI ua, VI 0, UU, UU, UU, UU] [(.ref (own_pick (0 : Int32) a_INPUT_BIT a_OUTPUT_BIT a_INPUT_WORD a_OUTPUT_WORD a_MEMORY_WORD))])) st1 ?_
    have M1 := Fr.app N0 N1
    rw [show (own_pick (0 : Int32) a_INPUT_BIT a_OUTPUT_BIT a_INPUT_WORD a_OUTPUT_WORD a_MEMORY_WORD) = a_INPUT_BIT from by unfold own_pick; rw [if_pos (by decide)]]
    refine own_by (B := T1.setTop (mkF m 12 #[VI ua, VI 0, VR a_INPUT_BIT, UU, UU, UU] [])) (fun _ k => XS.astoreN X1.here hx rfl (hb hby at_11) rfl rfl (l' := #[VI ua, VI 0, VR a_INPUT_BIT, UU, UU, UU]) rfl k) ?_
    obtain ⟨T2, h2, X2, e2, E2, A2, D2, -, st2⟩ := newO X1 hx hZ hown (own_hw 8 hw rfl) (own_hw 9 hw rfl) (own_hw 10 hw rfl) e1 (g := (mkF m 12 #[VI ua, VI 0, VR a_INPUT_BIT, UU, UU, UU] [])) rfl (hb hby at_12) (by decide) (by decide)
    obtain ⟨b2, g2⟩ : ∃ z, z = h0.size := ⟨_, rfl⟩
    rw [← g2] at A2 D2 st2
    have sz2 := E2.1
    have gn2 : n0 ≤ b2 := g2 ▸ own_old_le O0
    have fz2 : h0.size ≤ b2 := g2 ▸ K0.1
    have lt2 := own_lt A2.lt
    have O2 := O0.ext E2
    have K2 := K0.ext E2
    have F2_area : Fld Z h2 b2 "com/example/hotrung/hotrung/image/Address" "area" "Lcom/example/hotrung/hotrung/image/Address$Area;" .null := D2 (Or.inr (own_hw 23 hw rfl)) (ty := (.object "com/example/hotrung/hotrung/image/Address$Area")) (by decide)
    have F2_cell : Fld Z h2 b2 "com/example/hotrung/hotrung/image/Address" "cell" "I" (.int 0) := D2 (Or.inr (own_hw 25 hw rfl)) (ty := .int) (by decide)
    refine own_by (B := T2.setTop (mkF m 15 #[VI ua, VI 0, VR a_INPUT_BIT, UU, UU, UU] [(.ref b2)])) st2 ?_
    refine own_by (B := T2.setTop (mkF m 16 #[VI ua, VI 0, VR a_INPUT_BIT, UU, UU, UU] [(.ref b2), (.ref b2)])) (fun _ k => XS.dup X2.here hx rfl (hb hby at_15) rfl rfl k) ?_
    refine own_by (B := T2.setTop (mkF m 17 #[VI ua, VI 0, VR a_INPUT_BIT, UU, UU, UU] [(.ref a_INPUT_BIT), (.ref b2), (.ref b2)])) (fun _ k => XS.aloadN X2.here hx rfl (hb hby at_16) rfl rfl  k) ?_
    refine own_by (B := T2.setTop (mkF m 18 #[VI ua, VI 0, VR a_INPUT_BIT, UU, UU, UU] [(.int 0), (.ref a_INPUT_BIT), (.ref b2), (.ref b2)])) (fun _ k => XS.iconst X2.here hx rfl (hb hby at_17) k) ?_
    obtain ⟨_, _, ⟨T3, L3, k3, n3⟩, -, X3, ⟨Lc3, hQ3, l3, y3, z3⟩, st3⟩ := X2.specialBack hx (y := (⟨"com/example/hotrung/hotrung/image/Address", "<init>", "(Lcom/example/hotrung/hotrung/image/Address$Area;I)V"⟩ : MethodName)) rfl hown (mvT hZ (own_hw 11 hw rfl)) (mvT hZ (own_hw 12 hw rfl)) (mvT hZ (own_hw 13 hw rfl)) (by decide) (backOf (W := 1) (rmAd l Z a0 hw [] b2 a_INPUT_BIT (0 : Int32) h2 n0 (own_old_le O2) O2 A2 F2_area F2_cell gn2) hZ (own_hw 13 hw rfl) (own_hw 10 hw rfl) (by decide) (by decide)) (g := (mkF m 18 #[VI ua, VI 0, VR a_INPUT_BIT, UU, UU, UU] [(.int 0), (.ref a_INPUT_BIT), (.ref b2), (.ref b2)])) rfl (by rw [hml]; rfl) (Steps.refl _) (a := b2) (argsL := [(.ref a_INPUT_BIT), (.int 0)]) (rest := [(.ref b2)]) (lenOf pd_0__Lcom_example_hotrung_hotrung_image_Address_Area_I_V rfl) rfl (by show 2 * 0 + _ ≤ _; exact Nat.le_of_eq rfl) (hb hby at_18) (fun _ _ => ⟨rfl, e2, (by decide : 1 + 0 ≤ _), (by decide : 2 + 0 ≤ _)⟩)
    dsimp only [Pt.U, Pt.locs, Pt.cells, Pt.slots] at X3 l3 y3 z3 st3 hQ3
    subst l3 y3 z3
    obtain ⟨rfl, NC3, KC3, EC3, FC3_0, FC3_1⟩ := hQ3
    refine own_by (B := T3.setTop (mkF m 21 #[VI ua, VI 0, VR a_INPUT_BIT, UU, UU, UU] [(.ref b2)])) (fun _ k => st3.trans k) ?_
    obtain ⟨h3, e3⟩ : ∃ z, T3.heap = z := ⟨_, rfl⟩
    rw [e3] at KC3 EC3 FC3_0 FC3_1
    have sz3 := KC3.1
    have O3 := O2.keep KC3 (allS gn2 all0)
    have K3 := K2.trans KC3 (allS (Or.inr fz2) all0)
    have N3 := Fr.app M1 NC3
    have CHn : CHv Z own_EL s.vm h3 := (CHv.keep KC3 (sfS (Safe.exa hZ.alike A2 (by decide) (by decide)) sf0) (CHv.ext E2 CH0))
    obtain ⟨cq4, kq4, qa4, qb4, qc4⟩ := isOf hZ e3 EC3
    obtain ⟨_, _, ⟨T4, L4, k4, n4⟩, -, X4, hS4, hle4, ⟨Lc4, hQ4, l4, y4, z4, CR4⟩, st4⟩ := Jvm.Stand.virtualBackS X3 hx (y := (⟨"com/example/hotrung/hotrung/image/Address", "toString", "()Ljava/lang/String;"⟩ : MethodName)) (z := (⟨"com/example/hotrung/hotrung/image/Address", "toString", "()Ljava/lang/String;"⟩ : MethodName)) hown (mvT hZ (own_hw 26 hw rfl)) (mvT hZ (own_hw 27 hw rfl)) (notFace_of_selects (args := #[]) (mvT hZ (own_hw 29 hw rfl))) (mvT hZ (own_hw 29 hw rfl)) (mvT hZ (own_hw 28 hw rfl)) (by decide) (backOfSH (s := s) (vm0 := s.vm) (W := 0) (rmToINPUT_BIT l Z a0 hw [] a_INPUT_BIT a_OUTPUT_BIT a_OUTPUT_WORD a_INPUT_WORD a_MEMORY_WORD p_INPUT_BIT v_INPUT_BIT p_OUTPUT_WORD v_OUTPUT_WORD p_OUTPUT_BIT v_OUTPUT_BIT p_MEMORY_WORD v_MEMORY_WORD p_INPUT_WORD v_INPUT_WORD a_DigitOnes k_INPUT_BIT k_OUTPUT_WORD k_OUTPUT_BIT k_MEMORY_WORD k_INPUT_WORD ucs uff b2 h3 n0 (own_old_le O3) O3 HW EC3 FC3_0 FC3_1) hZ (own_hw 30 hw rfl) (own_hw 10 hw rfl) (by decide) (by decide) own_hEL CHn) qa4 qc4 (g := (mkF m 21 #[VI ua, VI 0, VR a_INPUT_BIT, UU, UU, UU] [(.ref b2)])) rfl (by rw [hml]; rfl) (Steps.refl _) (argsL := []) (rest := []) (lenOf pd_0___Ljava_lang_String_ rfl) rfl (by show 2 * 0 + _ ≤ _; exact Nat.le_of_eq rfl) (hb hby at_21) (fun _ _ => ⟨rfl, e3, (by decide : 1 + 6 ≤ _), (by decide : 2 + 38 ≤ _)⟩)
    dsimp only [Pt.U, Pt.locs, Pt.cells, Pt.slots] at X4 l4 y4 z4 st4 hQ4 hS4 hle4 CR4
    subst l4 y4 z4
    obtain ⟨r0_N4, r1_N4, kr0_N4, rfl, NC4, KC4, hb0_N4, hb1_N4, Q0_N4, Q1_N4, Q2_N4, Q3_N4⟩ := hQ4
    have hZ : Z.Warmed39 (s.setVm T4.vm).vm := State.Warmed39.trans hZ hS4.1
    have hown : (s.setVm T4.vm).vm.findClass "com/example/hotrung/hotrung/image/AreaIsOutputPinLaw" = some m.cls := (hS4.1.alike.findClass _ _).trans hown
    refine own_by (B := T4.setTop (mkF m 24 #[VI ua, VI 0, VR a_INPUT_BIT, UU, UU, UU] [(.ref r0_N4)])) (fun _ k => st4.trans k) ?_
    have gnr0_N4 : n0 ≤ r0_N4 := Nat.le_trans (own_old_le O3) hb0_N4
    have fzr0_N4 : h0.size ≤ r0_N4 := Nat.le_trans K3.1 hb0_N4
    have gnr1_N4 : n0 ≤ r1_N4 := Nat.le_trans (own_old_le O3) hb1_N4
    have fzr1_N4 : h0.size ≤ r1_N4 := Nat.le_trans K3.1 hb1_N4
    obtain ⟨h4, e4⟩ : ∃ z, T4.heap = z := ⟨_, rfl⟩
    rw [e4] at KC4 Q0_N4 Q1_N4 Q2_N4 Q3_N4
    have sz4 := KC4.1
    have O4 := O3.keep KC4 all0
    have K4 := K3.trans KC4 all0
    have N4 := Fr.app N3 NC4
    refine own_by (B := T4.setTop (mkF m 25 #[VI ua, VI 0, VR a_INPUT_BIT, VR r0_N4, UU, UU] [])) (fun _ k => XS.astoreN X4.here hx rfl (hb hby at_24) rfl rfl (l' := #[VI ua, VI 0, VR a_INPUT_BIT, VR r0_N4, UU, UU]) rfl k) ?_
    refine own_by (B := T4.setTop (mkF m 26 #[VI ua, VI 0, VR a_INPUT_BIT, VR r0_N4, UU, UU] [(.ref r0_N4)])) (fun _ k => XS.aloadN X4.here hx rfl (hb hby at_25) rfl rfl  k) ?_
    obtain ⟨cq5, kq5, qa5, qb5, qc5⟩ := isOf hZ e4 Q0_N4
    obtain ⟨_, _, ⟨T5, L5, k5, n5⟩, -, X5, ⟨Lc5, hQ5, l5, y5, z5⟩, st5⟩ := X4.virtualBack hx (y := (⟨"java/lang/String", "length", "()I"⟩ : MethodName)) (z := (⟨"java/lang/String", "length", "()I"⟩ : MethodName)) hown (mvT hZ (own_hw 180 hw rfl)) (mvT hZ (own_hw 70 hw rfl)) (notFace_of_selects (args := #[]) (mvT hZ (own_hw 72 hw rfl))) (mvT hZ (own_hw 72 hw rfl)) (mvT hZ (own_hw 71 hw rfl)) (by decide) (backOf (W := 0) (rmLen6 l Z a0 hw [] a_INPUT_BIT a_OUTPUT_BIT a_OUTPUT_WORD a_INPUT_WORD a_MEMORY_WORD p_INPUT_BIT v_INPUT_BIT p_OUTPUT_WORD v_OUTPUT_WORD p_OUTPUT_BIT v_OUTPUT_BIT p_MEMORY_WORD v_MEMORY_WORD p_INPUT_WORD v_INPUT_WORD a_DigitOnes k_INPUT_BIT k_OUTPUT_WORD k_OUTPUT_BIT k_MEMORY_WORD k_INPUT_WORD ucs uff r0_N4 r1_N4 kr0_N4 (37 : Int32) (73 : Int32) (88 : Int32) (nar .byte (48 : Int32)) (46 : Int32) (nar .byte (48 : Int32)) h4 n0 (own_old_le O4) O4 HW Q0_N4 Q1_N4 Q2_N4 Q3_N4) hZ (own_hw 73 hw rfl) (own_hw 51 hw rfl) (by decide) (by decide)) qa5 qc5 (g := (mkF m 26 #[VI ua, VI 0, VR a_INPUT_BIT, VR r0_N4, UU, UU] [(.ref r0_N4)])) rfl (by rw [hml]; rfl) (Steps.refl _) (argsL := []) (rest := []) (lenOf pd_0___I rfl) rfl (by show 2 * 0 + _ ≤ _; exact Nat.le_of_eq rfl) (hb hby at_26) (fun _ _ => ⟨rfl, e4, (by decide : 7 + 0 ≤ _), (by decide : 40 + 0 ≤ _)⟩)
    dsimp only [Pt.U, Pt.locs, Pt.cells, Pt.slots] at X5 l5 y5 z5 st5 hQ5
    subst l5 y5 z5
    obtain ⟨rfl, NC5, KC5⟩ := hQ5
    refine own_by (B := T5.setTop (mkF m 29 #[VI ua, VI 0, VR a_INPUT_BIT, VR r0_N4, UU, UU] [(.int 6)])) (fun _ k => st5.trans k) ?_
    obtain ⟨h5, e5⟩ : ∃ z, T5.heap = z := ⟨_, rfl⟩
    rw [e5] at KC5
    have sz5 := KC5.1
    have O5 := O4.keep KC5 all0
    have K5 := K4.trans KC5 all0
    have N5 := Fr.app N4 NC5
    refine own_by (B := T5.setTop (mkF m 30 #[VI ua, VI 0, VR a_INPUT_BIT, VR r0_N4, UU, UU] [(.int 1), (.int 6)])) (fun _ k => XS.iconst X5.here hx rfl (hb hby at_29) k) ?_
    refine own_by (B := T5.setTop (mkF m 33 #[VI ua, VI 0, VR a_INPUT_BIT, VR r0_N4, UU, UU] [])) (fun _ k => XS.icmpNo X5.here hx rfl (hb hby at_30) rfl (XT.ii_le_f (by decide)) k) ?_
    refine own_by (B := T5.setTop (mkF m 34 #[VI ua, VI 0, VR a_INPUT_BIT, VR r0_N4, UU, UU] [(.ref r0_N4)])) (fun _ k => XS.aloadN X5.here hx rfl (hb hby at_33) rfl rfl  k) ?_
    refine own_by (B := T5.setTop (mkF m 35 #[VI ua, VI 0, VR a_INPUT_BIT, VR r0_N4, UU, UU] [(.int 1), (.ref r0_N4)])) (fun _ k => XS.iconst X5.here hx rfl (hb hby at_34) k) ?_
    have c6 := (Q0_N4.keep KC5)
    have c7 := (Q1_N4.keep KC5 nin0)
    have c8 := (Q2_N4.keep KC5 nin0)
    have c9 := (Q3_N4.keep KC5 nin0)
    obtain ⟨cq10, kq10, qa10, qb10, qc10⟩ := isOf hZ e5 c6
    obtain ⟨_, _, ⟨T10, L10, k10, n10⟩, -, X10, ⟨Lc10, hQ10, l10, y10, z10⟩, st10⟩ := X5.virtualBack hx (y := (⟨"java/lang/String", "charAt", "(I)C"⟩ : MethodName)) (z := (⟨"java/lang/String", "charAt", "(I)C"⟩ : MethodName)) hown (mvT hZ (own_hw 181 hw rfl)) (mvT hZ (own_hw 182 hw rfl)) (notFace_of_selects (args := #[]) (mvT hZ (own_hw 184 hw rfl))) (mvT hZ (own_hw 184 hw rfl)) (mvT hZ (own_hw 183 hw rfl)) (by decide) (backOf (W := 0) (rmCa6_73 l Z a0 hw [] a_INPUT_BIT a_OUTPUT_BIT a_OUTPUT_WORD a_INPUT_WORD a_MEMORY_WORD p_INPUT_BIT v_INPUT_BIT p_OUTPUT_WORD v_OUTPUT_WORD p_OUTPUT_BIT v_OUTPUT_BIT p_MEMORY_WORD v_MEMORY_WORD p_INPUT_WORD v_INPUT_WORD a_DigitOnes k_INPUT_BIT k_OUTPUT_WORD k_OUTPUT_BIT k_MEMORY_WORD k_INPUT_WORD ucs uff r0_N4 r1_N4 kr0_N4 (37 : Int32) (88 : Int32) (nar .byte (48 : Int32)) (46 : Int32) (nar .byte (48 : Int32)) h5 n0 (own_old_le O5) O5 HW c6 c7 c8 c9) hZ (own_hw 185 hw rfl) (own_hw 51 hw rfl) (by decide) (by decide)) qa10 qc10 (g := (mkF m 35 #[VI ua, VI 0, VR a_INPUT_BIT, VR r0_N4, UU, UU] [(.int 1), (.ref r0_N4)])) rfl (by rw [hml]; rfl) (Steps.refl _) (argsL := [(.int 1)]) (rest := []) (lenOf pd_0__I_C rfl) rfl (by show 2 * 0 + _ ≤ _; exact Nat.le_of_eq rfl) (hb hby at_35) (fun _ _ => ⟨rfl, e5, (by decide : 7 + 0 ≤ _), (by decide : 40 + 0 ≤ _)⟩)
    dsimp only [Pt.U, Pt.locs, Pt.cells, Pt.slots] at X10 l10 y10 z10 st10 hQ10
    subst l10 y10 z10
    obtain ⟨rfl, NC10, KC10⟩ := hQ10
    refine own_by (B := T10.setTop (mkF m 38 #[VI ua, VI 0, VR a_INPUT_BIT, VR r0_N4, UU, UU] [(.int 73)])) (fun _ k => st10.trans k) ?_
    obtain ⟨h10, e10⟩ : ∃ z, T10.heap = z := ⟨_, rfl⟩
    rw [e10] at KC10
    have sz10 := KC10.1
    have O10 := O5.keep KC10 all0
    have K10 := K5.trans KC10 all0
    have N10 := Fr.app N5 NC10
    refine own_by (B := T10.setTop (mkF m 40 #[VI ua, VI 0, VR a_INPUT_BIT, VR r0_N4, UU, UU] [(.int 81), (.int 73)])) (fun _ k => XS.bipush X10.here hx rfl (hb hby at_38) k) ?_
    refine own_by (B := T10.setTop (mkF m 47 #[VI ua, VI 0, VR a_INPUT_BIT, VR r0_N4, UU, UU] [])) (fun _ k => XS.icmpYes X10.here hx rfl (pc0 := 40) (pc' := 47) rfl (hb hby at_40) rfl (XT.ii_ne_t (by decide)) (by decide) (by decide) k) ?_
    refine own_by (B := T10.setTop (mkF m 48 #[VI ua, VI 0, VR a_INPUT_BIT, VR r0_N4, UU, UU] [(.int 0)])) (fun _ k => XS.iconst X10.here hx rfl (hb hby at_47) k) ?_
    refine own_by (B := T10.setTop (mkF m 50 #[VI ua, VI 0, VR a_INPUT_BIT, VR r0_N4, VI 0, UU] [])) (fun _ k => XS.istore X10.here hx rfl (hb hby at_48) rfl (l' := #[VI ua, VI 0, VR a_INPUT_BIT, VR r0_N4, VI 0, UU]) rfl k) ?_
    refine own_by (B := T10.setTop (mkF m 51 #[VI ua, VI 0, VR a_INPUT_BIT, VR r0_N4, VI 0, UU] [(.ref a_INPUT_BIT)])) (fun _ k => XS.aloadN X10.here hx rfl (hb hby at_50) rfl rfl  k) ?_
    obtain ⟨cq11, kq11, qa11, qb11, qc11⟩ := isOf hZ e10 (E_INPUT_BIT.ext O10.2)
    obtain ⟨_, _, ⟨T11, L11, k11, n11⟩, -, X11, ⟨Lc11, hQ11, l11, y11, z11⟩, st11⟩ := X10.virtualBack hx (y := (⟨"com/example/hotrung/hotrung/image/Address$Area", "isOutput", "()Z"⟩ : MethodName)) (z := (⟨"com/example/hotrung/hotrung/image/Address$Area", "isOutput", "()Z"⟩ : MethodName)) hown (mvT hZ (own_hw 203 hw rfl)) (mvT hZ (own_hw 204 hw rfl)) (notFace_of_selects (args := #[]) (mvT hZ (own_hw 206 hw rfl))) (mvT hZ (own_hw 206 hw rfl)) (mvT hZ (own_hw 205 hw rfl)) (by decide) (backOf (W := 0) (rm_isOutput l Z a0 hw [] a_INPUT_BIT a_OUTPUT_BIT a_OUTPUT_WORD a_INPUT_WORD a_MEMORY_WORD p_INPUT_BIT v_INPUT_BIT p_OUTPUT_WORD v_OUTPUT_WORD p_OUTPUT_BIT v_OUTPUT_BIT p_MEMORY_WORD v_MEMORY_WORD p_INPUT_WORD v_INPUT_WORD a_DigitOnes k_INPUT_BIT k_OUTPUT_WORD k_OUTPUT_BIT k_MEMORY_WORD k_INPUT_WORD ucs uff a_INPUT_BIT h10 n0 (own_old_le O10) O10 HW) hZ (own_hw 207 hw rfl) (own_hw 6 hw rfl) (by decide) (by decide)) qa11 qc11 (g := (mkF m 51 #[VI ua, VI 0, VR a_INPUT_BIT, VR r0_N4, VI 0, UU] [(.ref a_INPUT_BIT)])) rfl (by rw [hml]; rfl) (Steps.refl _) (argsL := []) (rest := []) (lenOf pd_0___Z rfl) rfl (by show 2 * 0 + _ ≤ _; exact Nat.le_of_eq rfl) (hb hby at_51) (fun _ _ => ⟨rfl, e10, (by decide : 7 + 0 ≤ _), (by decide : 40 + 0 ≤ _)⟩)
    dsimp only [Pt.U, Pt.locs, Pt.cells, Pt.slots] at X11 l11 y11 z11 st11 hQ11
    subst l11 y11 z11
    obtain ⟨rfl, N11, e11⟩ := hQ11
    refine own_by (B := T11.setTop (mkF m 54 #[VI ua, VI 0, VR a_INPUT_BIT, VR r0_N4, VI 0, UU] [(.int (own_isOutput a_INPUT_BIT a_OUTPUT_BIT a_OUTPUT_WORD))])) (fun _ k => st11.trans k) ?_
    have M11 := Fr.app N10 N11
    rw [show (own_isOutput a_INPUT_BIT a_OUTPUT_BIT a_OUTPUT_WORD) = (0 : Int32) from by unfold own_isOutput; rw [if_neg (Fld.ne F_INPUT_BIT_ordinal F_OUTPUT_BIT_ordinal (by decide)), if_neg (Fld.ne F_INPUT_BIT_ordinal F_OUTPUT_WORD_ordinal (by decide))]]
    refine own_by (B := T11.setTop (mkF m 56 #[VI ua, VI 0, VR a_INPUT_BIT, VR r0_N4, VI 0, VI 0] [])) (fun _ k => XS.istore X11.here hx rfl (hb hby at_54) rfl (l' := #[VI ua, VI 0, VR a_INPUT_BIT, VR r0_N4, VI 0, VI 0]) rfl k) ?_
    refine own_by (B := T11.setTop (mkF m 58 #[VI ua, VI 0, VR a_INPUT_BIT, VR r0_N4, VI 0, VI 0] [(.int 0)])) (fun _ k => XS.iload X11.here hx rfl (hb hby at_56) rfl  k) ?_
    refine own_by (B := T11.setTop (mkF m 60 #[VI ua, VI 0, VR a_INPUT_BIT, VR r0_N4, VI 0, VI 0] [(.int 0), (.int 0)])) (fun _ k => XS.iload X11.here hx rfl (hb hby at_58) rfl  k) ?_
    refine own_by (B := T11.setTop (mkF m 63 #[VI ua, VI 0, VR a_INPUT_BIT, VR r0_N4, VI 0, VI 0] [])) (fun _ k => XS.icmpNo X11.here hx rfl (hb hby at_60) rfl (XT.ii_ne_f (by decide)) k) ?_
    refine own_by (B := T11.setTop (mkF m 65 #[VI ua, VI 0, VR a_INPUT_BIT, VR r0_N4, VI 0, VI 0] [(.int 0)])) (fun _ k => XS.iload X11.here hx rfl (hb hby at_63) rfl  k) ?_
    refine own_by (B := T11.setTop (mkF m 75 #[VI ua, VI 0, VR a_INPUT_BIT, VR r0_N4, VI 0, VI 0] [])) (fun _ k => XS.ifYes X11.here hx rfl (pc0 := 65) (pc' := 75) rfl (hb hby at_65) rfl (XT.i0_eq_t (by decide)) (by decide) (by decide) k) ?_
    refine own_by (B := T11.setTop (mkF m 76 #[VI ua, VI 0, VR a_INPUT_BIT, VR r0_N4, VI 0, VI 0] [(.int 1)])) (fun _ k => XS.iconst X11.here hx rfl (hb hby at_75) k) ?_
    refine own_by (B := T11.setTop (mkF m 80 #[VI ua, VI 0, VR a_INPUT_BIT, VR r0_N4, VI 0, VI 0] [(.int 1)])) (fun _ k => XS.goto X11.here hx rfl (pc0 := 76) (pc' := 80) rfl (hb hby at_76) (by decide) (by decide) k) ?_
    exact own_retZL (s := s) X11 hx hS4 (by rw [e4, e11]; omega) hrt hlk rfl (hb hby at_80) (by decide) (by decide) ⟨rfl, M11⟩
  · refine own_by (B := s₁.setTop (mkF m 8 #[VI ua, VI 1, UU, UU, UU, UU] [(.int 1)])) (fun _ k => XS.iloadN X0.here hx rfl (hb hby at_7) rfl  k) ?_
    obtain ⟨_, _, ⟨T12, L12, k12, n12⟩, -, X12, ⟨Lc12, hQ12, l12, y12, z12⟩, st12⟩ := Jvm.LawKit.callS X0 hx (y := (⟨"com/example/hotrung/hotrung/image/AreaIsOutputPinLaw", "pick", "(I)Lcom/example/hotrung/hotrung/image/Address$Area;"⟩ : MethodName)) hown (mvT hZ (own_hw 1 hw rfl)) (mvT hZ (own_hw 2 hw rfl)) (mvT hZ (own_hw 3 hw rfl)) (mvT hZ (own_hw 4 hw rfl)) (by decide) (backOf (W := 0) (rm_pick l Z a0 hw [] a_INPUT_BIT a_OUTPUT_BIT a_OUTPUT_WORD a_INPUT_WORD a_MEMORY_WORD p_INPUT_BIT v_INPUT_BIT p_OUTPUT_WORD v_OUTPUT_WORD p_OUTPUT_BIT v_OUTPUT_BIT p_MEMORY_WORD v_MEMORY_WORD p_INPUT_WORD v_INPUT_WORD a_DigitOnes k_INPUT_BIT k_OUTPUT_WORD k_OUTPUT_BIT k_MEMORY_WORD k_INPUT_WORD ucs uff (1 : Int32) h0 n0 (own_old_le O0) O0 HW) hZ (own_hw 4 hw rfl) (own_hw 3 hw rfl) (by decide) (by decide)) (g := (mkF m 8 #[VI ua, VI 1, UU, UU, UU, UU] [(.int 1)])) rfl (by rw [hml]; rfl) (argsL := [(.int 1)]) (rest := []) (lenOf pd_0__I_Lcom_example_hotrung_hotrung_image_Address_Area_ rfl) rfl (by show 2 * 0 + _ ≤ _; exact Nat.le_of_eq rfl) (hb hby at_8) (fun _ _ => ⟨rfl, e0, (by decide : 0 + 0 ≤ _), (by decide : 0 + 0 ≤ _)⟩)
    dsimp only [Pt.U, Pt.locs, Pt.cells, Pt.slots] at X12 l12 y12 z12 st12 hQ12
    subst l12 y12 z12
    obtain ⟨rfl, N12, e12⟩ := hQ12
    refine own_by (B := T12.setTop (mkF m 11 #[VI ua, VI 1, UU, UU, UU, UU] [(.ref (own_pick (1 : Int32) a_INPUT_BIT a_OUTPUT_BIT a_INPUT_WORD a_OUTPUT_WORD a_MEMORY_WORD))])) st12 ?_
    have M12 := Fr.app N0 N12
    rw [show (own_pick (1 : Int32) a_INPUT_BIT a_OUTPUT_BIT a_INPUT_WORD a_OUTPUT_WORD a_MEMORY_WORD) = a_OUTPUT_BIT from by unfold own_pick; rw [if_neg (by decide), if_pos (by decide)]]
    refine own_by (B := T12.setTop (mkF m 12 #[VI ua, VI 1, VR a_OUTPUT_BIT, UU, UU, UU] [])) (fun _ k => XS.astoreN X12.here hx rfl (hb hby at_11) rfl rfl (l' := #[VI ua, VI 1, VR a_OUTPUT_BIT, UU, UU, UU]) rfl k) ?_
    obtain ⟨T13, h13, X13, e13, E13, A13, D13, -, st13⟩ := newO X12 hx hZ hown (own_hw 8 hw rfl) (own_hw 9 hw rfl) (own_hw 10 hw rfl) e12 (g := (mkF m 12 #[VI ua, VI 1, VR a_OUTPUT_BIT, UU, UU, UU] [])) rfl (hb hby at_12) (by decide) (by decide)
    obtain ⟨b13, g13⟩ : ∃ z, z = h0.size := ⟨_, rfl⟩
    rw [← g13] at A13 D13 st13
    have sz13 := E13.1
    have gn13 : n0 ≤ b13 := g13 ▸ own_old_le O0
    have fz13 : h0.size ≤ b13 := g13 ▸ K0.1
    have lt13 := own_lt A13.lt
    have O13 := O0.ext E13
    have K13 := K0.ext E13
    have F13_area : Fld Z h13 b13 "com/example/hotrung/hotrung/image/Address" "area" "Lcom/example/hotrung/hotrung/image/Address$Area;" .null := D13 (Or.inr (own_hw 23 hw rfl)) (ty := (.object "com/example/hotrung/hotrung/image/Address$Area")) (by decide)
    have F13_cell : Fld Z h13 b13 "com/example/hotrung/hotrung/image/Address" "cell" "I" (.int 0) := D13 (Or.inr (own_hw 25 hw rfl)) (ty := .int) (by decide)
    refine own_by (B := T13.setTop (mkF m 15 #[VI ua, VI 1, VR a_OUTPUT_BIT, UU, UU, UU] [(.ref b13)])) st13 ?_
    refine own_by (B := T13.setTop (mkF m 16 #[VI ua, VI 1, VR a_OUTPUT_BIT, UU, UU, UU] [(.ref b13), (.ref b13)])) (fun _ k => XS.dup X13.here hx rfl (hb hby at_15) rfl rfl k) ?_
    refine own_by (B := T13.setTop (mkF m 17 #[VI ua, VI 1, VR a_OUTPUT_BIT, UU, UU, UU] [(.ref a_OUTPUT_BIT), (.ref b13), (.ref b13)])) (fun _ k => XS.aloadN X13.here hx rfl (hb hby at_16) rfl rfl  k) ?_
    refine own_by (B := T13.setTop (mkF m 18 #[VI ua, VI 1, VR a_OUTPUT_BIT, UU, UU, UU] [(.int 0), (.ref a_OUTPUT_BIT), (.ref b13), (.ref b13)])) (fun _ k => XS.iconst X13.here hx rfl (hb hby at_17) k) ?_
    obtain ⟨_, _, ⟨T14, L14, k14, n14⟩, -, X14, ⟨Lc14, hQ14, l14, y14, z14⟩, st14⟩ := X13.specialBack hx (y := (⟨"com/example/hotrung/hotrung/image/Address", "<init>", "(Lcom/example/hotrung/hotrung/image/Address$Area;I)V"⟩ : MethodName)) rfl hown (mvT hZ (own_hw 11 hw rfl)) (mvT hZ (own_hw 12 hw rfl)) (mvT hZ (own_hw 13 hw rfl)) (by decide) (backOf (W := 1) (rmAd l Z a0 hw [] b13 a_OUTPUT_BIT (0 : Int32) h13 n0 (own_old_le O13) O13 A13 F13_area F13_cell gn13) hZ (own_hw 13 hw rfl) (own_hw 10 hw rfl) (by decide) (by decide)) (g := (mkF m 18 #[VI ua, VI 1, VR a_OUTPUT_BIT, UU, UU, UU] [(.int 0), (.ref a_OUTPUT_BIT), (.ref b13), (.ref b13)])) rfl (by rw [hml]; rfl) (Steps.refl _) (a := b13) (argsL := [(.ref a_OUTPUT_BIT), (.int 0)]) (rest := [(.ref b13)]) (lenOf pd_0__Lcom_example_hotrung_hotrung_image_Address_Area_I_V rfl) rfl (by show 2 * 0 + _ ≤ _; exact Nat.le_of_eq rfl) (hb hby at_18) (fun _ _ => ⟨rfl, e13, (by decide : 1 + 0 ≤ _), (by decide : 2 + 0 ≤ _)⟩)
    dsimp only [Pt.U, Pt.locs, Pt.cells, Pt.slots] at X14 l14 y14 z14 st14 hQ14
    subst l14 y14 z14
    obtain ⟨rfl, NC14, KC14, EC14, FC14_0, FC14_1⟩ := hQ14
    refine own_by (B := T14.setTop (mkF m 21 #[VI ua, VI 1, VR a_OUTPUT_BIT, UU, UU, UU] [(.ref b13)])) (fun _ k => st14.trans k) ?_
    obtain ⟨h14, e14⟩ : ∃ z, T14.heap = z := ⟨_, rfl⟩
    rw [e14] at KC14 EC14 FC14_0 FC14_1
    have sz14 := KC14.1
    have O14 := O13.keep KC14 (allS gn13 all0)
    have K14 := K13.trans KC14 (allS (Or.inr fz13) all0)
    have N14 := Fr.app M12 NC14
    have CHn : CHv Z own_EL s.vm h14 := (CHv.keep KC14 (sfS (Safe.exa hZ.alike A13 (by decide) (by decide)) sf0) (CHv.ext E13 CH0))
    obtain ⟨cq15, kq15, qa15, qb15, qc15⟩ := isOf hZ e14 EC14
    obtain ⟨_, _, ⟨T15, L15, k15, n15⟩, -, X15, hS15, hle15, ⟨Lc15, hQ15, l15, y15, z15, CR15⟩, st15⟩ := Jvm.Stand.virtualBackS X14 hx (y := (⟨"com/example/hotrung/hotrung/image/Address", "toString", "()Ljava/lang/String;"⟩ : MethodName)) (z := (⟨"com/example/hotrung/hotrung/image/Address", "toString", "()Ljava/lang/String;"⟩ : MethodName)) hown (mvT hZ (own_hw 26 hw rfl)) (mvT hZ (own_hw 27 hw rfl)) (notFace_of_selects (args := #[]) (mvT hZ (own_hw 29 hw rfl))) (mvT hZ (own_hw 29 hw rfl)) (mvT hZ (own_hw 28 hw rfl)) (by decide) (backOfSH (s := s) (vm0 := s.vm) (W := 0) (rmToOUTPUT_BIT l Z a0 hw [] a_INPUT_BIT a_OUTPUT_BIT a_OUTPUT_WORD a_INPUT_WORD a_MEMORY_WORD p_INPUT_BIT v_INPUT_BIT p_OUTPUT_WORD v_OUTPUT_WORD p_OUTPUT_BIT v_OUTPUT_BIT p_MEMORY_WORD v_MEMORY_WORD p_INPUT_WORD v_INPUT_WORD a_DigitOnes k_INPUT_BIT k_OUTPUT_WORD k_OUTPUT_BIT k_MEMORY_WORD k_INPUT_WORD ucs uff b13 h14 n0 (own_old_le O14) O14 HW EC14 FC14_0 FC14_1) hZ (own_hw 30 hw rfl) (own_hw 10 hw rfl) (by decide) (by decide) own_hEL CHn) qa15 qc15 (g := (mkF m 21 #[VI ua, VI 1, VR a_OUTPUT_BIT, UU, UU, UU] [(.ref b13)])) rfl (by rw [hml]; rfl) (Steps.refl _) (argsL := []) (rest := []) (lenOf pd_0___Ljava_lang_String_ rfl) rfl (by show 2 * 0 + _ ≤ _; exact Nat.le_of_eq rfl) (hb hby at_21) (fun _ _ => ⟨rfl, e14, (by decide : 1 + 6 ≤ _), (by decide : 2 + 38 ≤ _)⟩)
    dsimp only [Pt.U, Pt.locs, Pt.cells, Pt.slots] at X15 l15 y15 z15 st15 hQ15 hS15 hle15 CR15
    subst l15 y15 z15
    obtain ⟨r0_N15, r1_N15, kr0_N15, rfl, NC15, KC15, hb0_N15, hb1_N15, Q0_N15, Q1_N15, Q2_N15, Q3_N15⟩ := hQ15
    have hZ : Z.Warmed39 (s.setVm T15.vm).vm := State.Warmed39.trans hZ hS15.1
    have hown : (s.setVm T15.vm).vm.findClass "com/example/hotrung/hotrung/image/AreaIsOutputPinLaw" = some m.cls := (hS15.1.alike.findClass _ _).trans hown
    refine own_by (B := T15.setTop (mkF m 24 #[VI ua, VI 1, VR a_OUTPUT_BIT, UU, UU, UU] [(.ref r0_N15)])) (fun _ k => st15.trans k) ?_
    have gnr0_N15 : n0 ≤ r0_N15 := Nat.le_trans (own_old_le O14) hb0_N15
    have fzr0_N15 : h0.size ≤ r0_N15 := Nat.le_trans K14.1 hb0_N15
    have gnr1_N15 : n0 ≤ r1_N15 := Nat.le_trans (own_old_le O14) hb1_N15
    have fzr1_N15 : h0.size ≤ r1_N15 := Nat.le_trans K14.1 hb1_N15
    obtain ⟨h15, e15⟩ : ∃ z, T15.heap = z := ⟨_, rfl⟩
    rw [e15] at KC15 Q0_N15 Q1_N15 Q2_N15 Q3_N15
    have sz15 := KC15.1
    have O15 := O14.keep KC15 all0
    have K15 := K14.trans KC15 all0
    have N15 := Fr.app N14 NC15
    refine own_by (B := T15.setTop (mkF m 25 #[VI ua, VI 1, VR a_OUTPUT_BIT, VR r0_N15, UU, UU] [])) (fun _ k => XS.astoreN X15.here hx rfl (hb hby at_24) rfl rfl (l' := #[VI ua, VI 1, VR a_OUTPUT_BIT, VR r0_N15, UU, UU]) rfl k) ?_
    refine own_by (B := T15.setTop (mkF m 26 #[VI ua, VI 1, VR a_OUTPUT_BIT, VR r0_N15, UU, UU] [(.ref r0_N15)])) (fun _ k => XS.aloadN X15.here hx rfl (hb hby at_25) rfl rfl  k) ?_
    obtain ⟨cq16, kq16, qa16, qb16, qc16⟩ := isOf hZ e15 Q0_N15
    obtain ⟨_, _, ⟨T16, L16, k16, n16⟩, -, X16, ⟨Lc16, hQ16, l16, y16, z16⟩, st16⟩ := X15.virtualBack hx (y := (⟨"java/lang/String", "length", "()I"⟩ : MethodName)) (z := (⟨"java/lang/String", "length", "()I"⟩ : MethodName)) hown (mvT hZ (own_hw 180 hw rfl)) (mvT hZ (own_hw 70 hw rfl)) (notFace_of_selects (args := #[]) (mvT hZ (own_hw 72 hw rfl))) (mvT hZ (own_hw 72 hw rfl)) (mvT hZ (own_hw 71 hw rfl)) (by decide) (backOf (W := 0) (rmLen6 l Z a0 hw [] a_INPUT_BIT a_OUTPUT_BIT a_OUTPUT_WORD a_INPUT_WORD a_MEMORY_WORD p_INPUT_BIT v_INPUT_BIT p_OUTPUT_WORD v_OUTPUT_WORD p_OUTPUT_BIT v_OUTPUT_BIT p_MEMORY_WORD v_MEMORY_WORD p_INPUT_WORD v_INPUT_WORD a_DigitOnes k_INPUT_BIT k_OUTPUT_WORD k_OUTPUT_BIT k_MEMORY_WORD k_INPUT_WORD ucs uff r0_N15 r1_N15 kr0_N15 (37 : Int32) (81 : Int32) (88 : Int32) (nar .byte (48 : Int32)) (46 : Int32) (nar .byte (48 : Int32)) h15 n0 (own_old_le O15) O15 HW Q0_N15 Q1_N15 Q2_N15 Q3_N15) hZ (own_hw 73 hw rfl) (own_hw 51 hw rfl) (by decide) (by decide)) qa16 qc16 (g := (mkF m 26 #[VI ua, VI 1, VR a_OUTPUT_BIT, VR r0_N15, UU, UU] [(.ref r0_N15)])) rfl (by rw [hml]; rfl) (Steps.refl _) (argsL := []) (rest := []) (lenOf pd_0___I rfl) rfl (by show 2 * 0 + _ ≤ _; exact Nat.le_of_eq rfl) (hb hby at_26) (fun _ _ => ⟨rfl, e15, (by decide : 7 + 0 ≤ _), (by decide : 40 + 0 ≤ _)⟩)
    dsimp only [Pt.U, Pt.locs, Pt.cells, Pt.slots] at X16 l16 y16 z16 st16 hQ16
    subst l16 y16 z16
    obtain ⟨rfl, NC16, KC16⟩ := hQ16
    refine own_by (B := T16.setTop (mkF m 29 #[VI ua, VI 1, VR a_OUTPUT_BIT, VR r0_N15, UU, UU] [(.int 6)])) (fun _ k => st16.trans k) ?_
    obtain ⟨h16, e16⟩ : ∃ z, T16.heap = z := ⟨_, rfl⟩
    rw [e16] at KC16
    have sz16 := KC16.1
    have O16 := O15.keep KC16 all0
    have K16 := K15.trans KC16 all0
    have N16 := Fr.app N15 NC16
    refine own_by (B := T16.setTop (mkF m 30 #[VI ua, VI 1, VR a_OUTPUT_BIT, VR r0_N15, UU, UU] [(.int 1), (.int 6)])) (fun _ k => XS.iconst X16.here hx rfl (hb hby at_29) k) ?_
    refine own_by (B := T16.setTop (mkF m 33 #[VI ua, VI 1, VR a_OUTPUT_BIT, VR r0_N15, UU, UU] [])) (fun _ k => XS.icmpNo X16.here hx rfl (hb hby at_30) rfl (XT.ii_le_f (by decide)) k) ?_
    refine own_by (B := T16.setTop (mkF m 34 #[VI ua, VI 1, VR a_OUTPUT_BIT, VR r0_N15, UU, UU] [(.ref r0_N15)])) (fun _ k => XS.aloadN X16.here hx rfl (hb hby at_33) rfl rfl  k) ?_
    refine own_by (B := T16.setTop (mkF m 35 #[VI ua, VI 1, VR a_OUTPUT_BIT, VR r0_N15, UU, UU] [(.int 1), (.ref r0_N15)])) (fun _ k => XS.iconst X16.here hx rfl (hb hby at_34) k) ?_
    have c17 := (Q0_N15.keep KC16)
    have c18 := (Q1_N15.keep KC16 nin0)
    have c19 := (Q2_N15.keep KC16 nin0)
    have c20 := (Q3_N15.keep KC16 nin0)
    obtain ⟨cq21, kq21, qa21, qb21, qc21⟩ := isOf hZ e16 c17
    obtain ⟨_, _, ⟨T21, L21, k21, n21⟩, -, X21, ⟨Lc21, hQ21, l21, y21, z21⟩, st21⟩ := X16.virtualBack hx (y := (⟨"java/lang/String", "charAt", "(I)C"⟩ : MethodName)) (z := (⟨"java/lang/String", "charAt", "(I)C"⟩ : MethodName)) hown (mvT hZ (own_hw 181 hw rfl)) (mvT hZ (own_hw 182 hw rfl)) (notFace_of_selects (args := #[]) (mvT hZ (own_hw 184 hw rfl))) (mvT hZ (own_hw 184 hw rfl)) (mvT hZ (own_hw 183 hw rfl)) (by decide) (backOf (W := 0) (rmCa6_81 l Z a0 hw [] a_INPUT_BIT a_OUTPUT_BIT a_OUTPUT_WORD a_INPUT_WORD a_MEMORY_WORD p_INPUT_BIT v_INPUT_BIT p_OUTPUT_WORD v_OUTPUT_WORD p_OUTPUT_BIT v_OUTPUT_BIT p_MEMORY_WORD v_MEMORY_WORD p_INPUT_WORD v_INPUT_WORD a_DigitOnes k_INPUT_BIT k_OUTPUT_WORD k_OUTPUT_BIT k_MEMORY_WORD k_INPUT_WORD ucs uff r0_N15 r1_N15 kr0_N15 (37 : Int32) (88 : Int32) (nar .byte (48 : Int32)) (46 : Int32) (nar .byte (48 : Int32)) h16 n0 (own_old_le O16) O16 HW c17 c18 c19 c20) hZ (own_hw 185 hw rfl) (own_hw 51 hw rfl) (by decide) (by decide)) qa21 qc21 (g := (mkF m 35 #[VI ua, VI 1, VR a_OUTPUT_BIT, VR r0_N15, UU, UU] [(.int 1), (.ref r0_N15)])) rfl (by rw [hml]; rfl) (Steps.refl _) (argsL := [(.int 1)]) (rest := []) (lenOf pd_0__I_C rfl) rfl (by show 2 * 0 + _ ≤ _; exact Nat.le_of_eq rfl) (hb hby at_35) (fun _ _ => ⟨rfl, e16, (by decide : 7 + 0 ≤ _), (by decide : 40 + 0 ≤ _)⟩)
    dsimp only [Pt.U, Pt.locs, Pt.cells, Pt.slots] at X21 l21 y21 z21 st21 hQ21
    subst l21 y21 z21
    obtain ⟨rfl, NC21, KC21⟩ := hQ21
    refine own_by (B := T21.setTop (mkF m 38 #[VI ua, VI 1, VR a_OUTPUT_BIT, VR r0_N15, UU, UU] [(.int 81)])) (fun _ k => st21.trans k) ?_
    obtain ⟨h21, e21⟩ : ∃ z, T21.heap = z := ⟨_, rfl⟩
    rw [e21] at KC21
    have sz21 := KC21.1
    have O21 := O16.keep KC21 all0
    have K21 := K16.trans KC21 all0
    have N21 := Fr.app N16 NC21
    refine own_by (B := T21.setTop (mkF m 40 #[VI ua, VI 1, VR a_OUTPUT_BIT, VR r0_N15, UU, UU] [(.int 81), (.int 81)])) (fun _ k => XS.bipush X21.here hx rfl (hb hby at_38) k) ?_
    refine own_by (B := T21.setTop (mkF m 43 #[VI ua, VI 1, VR a_OUTPUT_BIT, VR r0_N15, UU, UU] [])) (fun _ k => XS.icmpNo X21.here hx rfl (hb hby at_40) rfl (XT.ii_ne_f (by decide)) k) ?_
    refine own_by (B := T21.setTop (mkF m 44 #[VI ua, VI 1, VR a_OUTPUT_BIT, VR r0_N15, UU, UU] [(.int 1)])) (fun _ k => XS.iconst X21.here hx rfl (hb hby at_43) k) ?_
    refine own_by (B := T21.setTop (mkF m 48 #[VI ua, VI 1, VR a_OUTPUT_BIT, VR r0_N15, UU, UU] [(.int 1)])) (fun _ k => XS.goto X21.here hx rfl (pc0 := 44) (pc' := 48) rfl (hb hby at_44) (by decide) (by decide) k) ?_
    refine own_by (B := T21.setTop (mkF m 50 #[VI ua, VI 1, VR a_OUTPUT_BIT, VR r0_N15, VI 1, UU] [])) (fun _ k => XS.istore X21.here hx rfl (hb hby at_48) rfl (l' := #[VI ua, VI 1, VR a_OUTPUT_BIT, VR r0_N15, VI 1, UU]) rfl k) ?_
    refine own_by (B := T21.setTop (mkF m 51 #[VI ua, VI 1, VR a_OUTPUT_BIT, VR r0_N15, VI 1, UU] [(.ref a_OUTPUT_BIT)])) (fun _ k => XS.aloadN X21.here hx rfl (hb hby at_50) rfl rfl  k) ?_
    obtain ⟨cq22, kq22, qa22, qb22, qc22⟩ := isOf hZ e21 (E_OUTPUT_BIT.ext O21.2)
    obtain ⟨_, _, ⟨T22, L22, k22, n22⟩, -, X22, ⟨Lc22, hQ22, l22, y22, z22⟩, st22⟩ := X21.virtualBack hx (y := (⟨"com/example/hotrung/hotrung/image/Address$Area", "isOutput", "()Z"⟩ : MethodName)) (z := (⟨"com/example/hotrung/hotrung/image/Address$Area", "isOutput", "()Z"⟩ : MethodName)) hown (mvT hZ (own_hw 203 hw rfl)) (mvT hZ (own_hw 204 hw rfl)) (notFace_of_selects (args := #[]) (mvT hZ (own_hw 206 hw rfl))) (mvT hZ (own_hw 206 hw rfl)) (mvT hZ (own_hw 205 hw rfl)) (by decide) (backOf (W := 0) (rm_isOutput l Z a0 hw [] a_INPUT_BIT a_OUTPUT_BIT a_OUTPUT_WORD a_INPUT_WORD a_MEMORY_WORD p_INPUT_BIT v_INPUT_BIT p_OUTPUT_WORD v_OUTPUT_WORD p_OUTPUT_BIT v_OUTPUT_BIT p_MEMORY_WORD v_MEMORY_WORD p_INPUT_WORD v_INPUT_WORD a_DigitOnes k_INPUT_BIT k_OUTPUT_WORD k_OUTPUT_BIT k_MEMORY_WORD k_INPUT_WORD ucs uff a_OUTPUT_BIT h21 n0 (own_old_le O21) O21 HW) hZ (own_hw 207 hw rfl) (own_hw 6 hw rfl) (by decide) (by decide)) qa22 qc22 (g := (mkF m 51 #[VI ua, VI 1, VR a_OUTPUT_BIT, VR r0_N15, VI 1, UU] [(.ref a_OUTPUT_BIT)])) rfl (by rw [hml]; rfl) (Steps.refl _) (argsL := []) (rest := []) (lenOf pd_0___Z rfl) rfl (by show 2 * 0 + _ ≤ _; exact Nat.le_of_eq rfl) (hb hby at_51) (fun _ _ => ⟨rfl, e21, (by decide : 7 + 0 ≤ _), (by decide : 40 + 0 ≤ _)⟩)
    dsimp only [Pt.U, Pt.locs, Pt.cells, Pt.slots] at X22 l22 y22 z22 st22 hQ22
    subst l22 y22 z22
    obtain ⟨rfl, N22, e22⟩ := hQ22
    refine own_by (B := T22.setTop (mkF m 54 #[VI ua, VI 1, VR a_OUTPUT_BIT, VR r0_N15, VI 1, UU] [(.int (own_isOutput a_OUTPUT_BIT a_OUTPUT_BIT a_OUTPUT_WORD))])) (fun _ k => st22.trans k) ?_
    have M22 := Fr.app N21 N22
    rw [show (own_isOutput a_OUTPUT_BIT a_OUTPUT_BIT a_OUTPUT_WORD) = (1 : Int32) from by unfold own_isOutput; rw [if_pos rfl]]
    refine own_by (B := T22.setTop (mkF m 56 #[VI ua, VI 1, VR a_OUTPUT_BIT, VR r0_N15, VI 1, VI 1] [])) (fun _ k => XS.istore X22.here hx rfl (hb hby at_54) rfl (l' := #[VI ua, VI 1, VR a_OUTPUT_BIT, VR r0_N15, VI 1, VI 1]) rfl k) ?_
    refine own_by (B := T22.setTop (mkF m 58 #[VI ua, VI 1, VR a_OUTPUT_BIT, VR r0_N15, VI 1, VI 1] [(.int 1)])) (fun _ k => XS.iload X22.here hx rfl (hb hby at_56) rfl  k) ?_
    refine own_by (B := T22.setTop (mkF m 60 #[VI ua, VI 1, VR a_OUTPUT_BIT, VR r0_N15, VI 1, VI 1] [(.int 1), (.int 1)])) (fun _ k => XS.iload X22.here hx rfl (hb hby at_58) rfl  k) ?_
    refine own_by (B := T22.setTop (mkF m 63 #[VI ua, VI 1, VR a_OUTPUT_BIT, VR r0_N15, VI 1, VI 1] [])) (fun _ k => XS.icmpNo X22.here hx rfl (hb hby at_60) rfl (XT.ii_ne_f (by decide)) k) ?_
    refine own_by (B := T22.setTop (mkF m 65 #[VI ua, VI 1, VR a_OUTPUT_BIT, VR r0_N15, VI 1, VI 1] [(.int 1)])) (fun _ k => XS.iload X22.here hx rfl (hb hby at_63) rfl  k) ?_
    refine own_by (B := T22.setTop (mkF m 68 #[VI ua, VI 1, VR a_OUTPUT_BIT, VR r0_N15, VI 1, VI 1] [])) (fun _ k => XS.ifNo X22.here hx rfl (hb hby at_65) rfl (XT.i0_eq_f (by decide)) k) ?_
    refine own_by (B := T22.setTop (mkF m 69 #[VI ua, VI 1, VR a_OUTPUT_BIT, VR r0_N15, VI 1, VI 1] [(.ref a_OUTPUT_BIT)])) (fun _ k => XS.aloadN X22.here hx rfl (hb hby at_68) rfl rfl  k) ?_
    obtain ⟨cq23, kq23, qa23, qb23, qc23⟩ := isOf hZ e22 (E_OUTPUT_BIT.ext O21.2)
    obtain ⟨_, _, ⟨T23, L23, k23, n23⟩, -, X23, ⟨Lc23, hQ23, l23, y23, z23⟩, st23⟩ := X22.virtualBack hx (y := (⟨"com/example/hotrung/hotrung/image/Address$Area", "isInput", "()Z"⟩ : MethodName)) (z := (⟨"com/example/hotrung/hotrung/image/Address$Area", "isInput", "()Z"⟩ : MethodName)) hown (mvT hZ (own_hw 213 hw rfl)) (mvT hZ (own_hw 214 hw rfl)) (notFace_of_selects (args := #[]) (mvT hZ (own_hw 216 hw rfl))) (mvT hZ (own_hw 216 hw rfl)) (mvT hZ (own_hw 215 hw rfl)) (by decide) (backOf (W := 0) (rm_isInput l Z a0 hw [] a_INPUT_BIT a_OUTPUT_BIT a_OUTPUT_WORD a_INPUT_WORD a_MEMORY_WORD p_INPUT_BIT v_INPUT_BIT p_OUTPUT_WORD v_OUTPUT_WORD p_OUTPUT_BIT v_OUTPUT_BIT p_MEMORY_WORD v_MEMORY_WORD p_INPUT_WORD v_INPUT_WORD a_DigitOnes k_INPUT_BIT k_OUTPUT_WORD k_OUTPUT_BIT k_MEMORY_WORD k_INPUT_WORD ucs uff a_OUTPUT_BIT h21 n0 (own_old_le O21) O21 HW) hZ (own_hw 217 hw rfl) (own_hw 6 hw rfl) (by decide) (by decide)) qa23 qc23 (g := (mkF m 69 #[VI ua, VI 1, VR a_OUTPUT_BIT, VR r0_N15, VI 1, VI 1] [(.ref a_OUTPUT_BIT)])) rfl (by rw [hml]; rfl) (Steps.refl _) (argsL := []) (rest := []) (lenOf pd_0___Z rfl) rfl (by show 2 * 0 + _ ≤ _; exact Nat.le_of_eq rfl) (hb hby at_69) (fun _ _ => ⟨rfl, e22, (by decide : 7 + 0 ≤ _), (by decide : 40 + 0 ≤ _)⟩)
    dsimp only [Pt.U, Pt.locs, Pt.cells, Pt.slots] at X23 l23 y23 z23 st23 hQ23
    subst l23 y23 z23
    obtain ⟨rfl, N23, e23⟩ := hQ23
    refine own_by (B := T23.setTop (mkF m 72 #[VI ua, VI 1, VR a_OUTPUT_BIT, VR r0_N15, VI 1, VI 1] [(.int (own_isInput a_OUTPUT_BIT a_INPUT_BIT a_INPUT_WORD))])) (fun _ k => st23.trans k) ?_
    have M23 := Fr.app M22 N23
    rw [show (own_isInput a_OUTPUT_BIT a_INPUT_BIT a_INPUT_WORD) = (0 : Int32) from by unfold own_isInput; rw [if_neg (Fld.ne F_OUTPUT_BIT_ordinal F_INPUT_BIT_ordinal (by decide)), if_neg (Fld.ne F_OUTPUT_BIT_ordinal F_INPUT_WORD_ordinal (by decide))]]
    refine own_by (B := T23.setTop (mkF m 75 #[VI ua, VI 1, VR a_OUTPUT_BIT, VR r0_N15, VI 1, VI 1] [])) (fun _ k => XS.ifNo X23.here hx rfl (hb hby at_72) rfl (XT.i0_ne_f (by decide)) k) ?_
    refine own_by (B := T23.setTop (mkF m 76 #[VI ua, VI 1, VR a_OUTPUT_BIT, VR r0_N15, VI 1, VI 1] [(.int 1)])) (fun _ k => XS.iconst X23.here hx rfl (hb hby at_75) k) ?_
    refine own_by (B := T23.setTop (mkF m 80 #[VI ua, VI 1, VR a_OUTPUT_BIT, VR r0_N15, VI 1, VI 1] [(.int 1)])) (fun _ k => XS.goto X23.here hx rfl (pc0 := 76) (pc' := 80) rfl (hb hby at_76) (by decide) (by decide) k) ?_
    exact own_retZL (s := s) X23 hx hS15 (by rw [e15, e23]; omega) hrt hlk rfl (hb hby at_80) (by decide) (by decide) ⟨rfl, M23⟩
  · refine own_by (B := s₁.setTop (mkF m 8 #[VI ua, VI 2, UU, UU, UU, UU] [(.int 2)])) (fun _ k => XS.iloadN X0.here hx rfl (hb hby at_7) rfl  k) ?_
    obtain ⟨_, _, ⟨T24, L24, k24, n24⟩, -, X24, ⟨Lc24, hQ24, l24, y24, z24⟩, st24⟩ := Jvm.LawKit.callS X0 hx (y := (⟨"com/example/hotrung/hotrung/image/AreaIsOutputPinLaw", "pick", "(I)Lcom/example/hotrung/hotrung/image/Address$Area;"⟩ : MethodName)) hown (mvT hZ (own_hw 1 hw rfl)) (mvT hZ (own_hw 2 hw rfl)) (mvT hZ (own_hw 3 hw rfl)) (mvT hZ (own_hw 4 hw rfl)) (by decide) (backOf (W := 0) (rm_pick l Z a0 hw [] a_INPUT_BIT a_OUTPUT_BIT a_OUTPUT_WORD a_INPUT_WORD a_MEMORY_WORD p_INPUT_BIT v_INPUT_BIT p_OUTPUT_WORD v_OUTPUT_WORD p_OUTPUT_BIT v_OUTPUT_BIT p_MEMORY_WORD v_MEMORY_WORD p_INPUT_WORD v_INPUT_WORD a_DigitOnes k_INPUT_BIT k_OUTPUT_WORD k_OUTPUT_BIT k_MEMORY_WORD k_INPUT_WORD ucs uff (2 : Int32) h0 n0 (own_old_le O0) O0 HW) hZ (own_hw 4 hw rfl) (own_hw 3 hw rfl) (by decide) (by decide)) (g := (mkF m 8 #[VI ua, VI 2, UU, UU, UU, UU] [(.int 2)])) rfl (by rw [hml]; rfl) (argsL := [(.int 2)]) (rest := []) (lenOf pd_0__I_Lcom_example_hotrung_hotrung_image_Address_Area_ rfl) rfl (by show 2 * 0 + _ ≤ _; exact Nat.le_of_eq rfl) (hb hby at_8) (fun _ _ => ⟨rfl, e0, (by decide : 0 + 0 ≤ _), (by decide : 0 + 0 ≤ _)⟩)
    dsimp only [Pt.U, Pt.locs, Pt.cells, Pt.slots] at X24 l24 y24 z24 st24 hQ24
    subst l24 y24 z24
    obtain ⟨rfl, N24, e24⟩ := hQ24
    refine own_by (B := T24.setTop (mkF m 11 #[VI ua, VI 2, UU, UU, UU, UU] [(.ref (own_pick (2 : Int32) a_INPUT_BIT a_OUTPUT_BIT a_INPUT_WORD a_OUTPUT_WORD a_MEMORY_WORD))])) st24 ?_
    have M24 := Fr.app N0 N24
    rw [show (own_pick (2 : Int32) a_INPUT_BIT a_OUTPUT_BIT a_INPUT_WORD a_OUTPUT_WORD a_MEMORY_WORD) = a_INPUT_WORD from by unfold own_pick; rw [if_neg (by decide), if_neg (by decide), if_pos (by decide)]]
    refine own_by (B := T24.setTop (mkF m 12 #[VI ua, VI 2, VR a_INPUT_WORD, UU, UU, UU] [])) (fun _ k => XS.astoreN X24.here hx rfl (hb hby at_11) rfl rfl (l' := #[VI ua, VI 2, VR a_INPUT_WORD, UU, UU, UU]) rfl k) ?_
    obtain ⟨T25, h25, X25, e25, E25, A25, D25, -, st25⟩ := newO X24 hx hZ hown (own_hw 8 hw rfl) (own_hw 9 hw rfl) (own_hw 10 hw rfl) e24 (g := (mkF m 12 #[VI ua, VI 2, VR a_INPUT_WORD, UU, UU, UU] [])) rfl (hb hby at_12) (by decide) (by decide)
    obtain ⟨b25, g25⟩ : ∃ z, z = h0.size := ⟨_, rfl⟩
    rw [← g25] at A25 D25 st25
    have sz25 := E25.1
    have gn25 : n0 ≤ b25 := g25 ▸ own_old_le O0
    have fz25 : h0.size ≤ b25 := g25 ▸ K0.1
    have lt25 := own_lt A25.lt
    have O25 := O0.ext E25
    have K25 := K0.ext E25
    have F25_area : Fld Z h25 b25 "com/example/hotrung/hotrung/image/Address" "area" "Lcom/example/hotrung/hotrung/image/Address$Area;" .null := D25 (Or.inr (own_hw 23 hw rfl)) (ty := (.object "com/example/hotrung/hotrung/image/Address$Area")) (by decide)
    have F25_cell : Fld Z h25 b25 "com/example/hotrung/hotrung/image/Address" "cell" "I" (.int 0) := D25 (Or.inr (own_hw 25 hw rfl)) (ty := .int) (by decide)
    refine own_by (B := T25.setTop (mkF m 15 #[VI ua, VI 2, VR a_INPUT_WORD, UU, UU, UU] [(.ref b25)])) st25 ?_
    refine own_by (B := T25.setTop (mkF m 16 #[VI ua, VI 2, VR a_INPUT_WORD, UU, UU, UU] [(.ref b25), (.ref b25)])) (fun _ k => XS.dup X25.here hx rfl (hb hby at_15) rfl rfl k) ?_
    refine own_by (B := T25.setTop (mkF m 17 #[VI ua, VI 2, VR a_INPUT_WORD, UU, UU, UU] [(.ref a_INPUT_WORD), (.ref b25), (.ref b25)])) (fun _ k => XS.aloadN X25.here hx rfl (hb hby at_16) rfl rfl  k) ?_
    refine own_by (B := T25.setTop (mkF m 18 #[VI ua, VI 2, VR a_INPUT_WORD, UU, UU, UU] [(.int 0), (.ref a_INPUT_WORD), (.ref b25), (.ref b25)])) (fun _ k => XS.iconst X25.here hx rfl (hb hby at_17) k) ?_
    obtain ⟨_, _, ⟨T26, L26, k26, n26⟩, -, X26, ⟨Lc26, hQ26, l26, y26, z26⟩, st26⟩ := X25.specialBack hx (y := (⟨"com/example/hotrung/hotrung/image/Address", "<init>", "(Lcom/example/hotrung/hotrung/image/Address$Area;I)V"⟩ : MethodName)) rfl hown (mvT hZ (own_hw 11 hw rfl)) (mvT hZ (own_hw 12 hw rfl)) (mvT hZ (own_hw 13 hw rfl)) (by decide) (backOf (W := 1) (rmAd l Z a0 hw [] b25 a_INPUT_WORD (0 : Int32) h25 n0 (own_old_le O25) O25 A25 F25_area F25_cell gn25) hZ (own_hw 13 hw rfl) (own_hw 10 hw rfl) (by decide) (by decide)) (g := (mkF m 18 #[VI ua, VI 2, VR a_INPUT_WORD, UU, UU, UU] [(.int 0), (.ref a_INPUT_WORD), (.ref b25), (.ref b25)])) rfl (by rw [hml]; rfl) (Steps.refl _) (a := b25) (argsL := [(.ref a_INPUT_WORD), (.int 0)]) (rest := [(.ref b25)]) (lenOf pd_0__Lcom_example_hotrung_hotrung_image_Address_Area_I_V rfl) rfl (by show 2 * 0 + _ ≤ _; exact Nat.le_of_eq rfl) (hb hby at_18) (fun _ _ => ⟨rfl, e25, (by decide : 1 + 0 ≤ _), (by decide : 2 + 0 ≤ _)⟩)
    dsimp only [Pt.U, Pt.locs, Pt.cells, Pt.slots] at X26 l26 y26 z26 st26 hQ26
    subst l26 y26 z26
    obtain ⟨rfl, NC26, KC26, EC26, FC26_0, FC26_1⟩ := hQ26
    refine own_by (B := T26.setTop (mkF m 21 #[VI ua, VI 2, VR a_INPUT_WORD, UU, UU, UU] [(.ref b25)])) (fun _ k => st26.trans k) ?_
    obtain ⟨h26, e26⟩ : ∃ z, T26.heap = z := ⟨_, rfl⟩
    rw [e26] at KC26 EC26 FC26_0 FC26_1
    have sz26 := KC26.1
    have O26 := O25.keep KC26 (allS gn25 all0)
    have K26 := K25.trans KC26 (allS (Or.inr fz25) all0)
    have N26 := Fr.app M24 NC26
    obtain ⟨cq27, kq27, qa27, qb27, qc27⟩ := isOf hZ e26 EC26
    obtain ⟨_, _, ⟨T27, L27, k27, n27⟩, -, X27, ⟨Lc27, hQ27, l27, y27, z27⟩, st27⟩ := X26.virtualBack hx (y := (⟨"com/example/hotrung/hotrung/image/Address", "toString", "()Ljava/lang/String;"⟩ : MethodName)) (z := (⟨"com/example/hotrung/hotrung/image/Address", "toString", "()Ljava/lang/String;"⟩ : MethodName)) hown (mvT hZ (own_hw 26 hw rfl)) (mvT hZ (own_hw 27 hw rfl)) (notFace_of_selects (args := #[]) (mvT hZ (own_hw 29 hw rfl))) (mvT hZ (own_hw 29 hw rfl)) (mvT hZ (own_hw 28 hw rfl)) (by decide) (backOf (W := 0) (rmToINPUT_WORD l Z a0 hw [] a_INPUT_BIT a_OUTPUT_BIT a_OUTPUT_WORD a_INPUT_WORD a_MEMORY_WORD p_INPUT_BIT v_INPUT_BIT p_OUTPUT_WORD v_OUTPUT_WORD p_OUTPUT_BIT v_OUTPUT_BIT p_MEMORY_WORD v_MEMORY_WORD p_INPUT_WORD v_INPUT_WORD a_DigitOnes k_INPUT_BIT k_OUTPUT_WORD k_OUTPUT_BIT k_MEMORY_WORD k_INPUT_WORD ucs uff b25 h26 n0 (own_old_le O26) O26 HW EC26 FC26_0 FC26_1) hZ (own_hw 30 hw rfl) (own_hw 10 hw rfl) (by decide) (by decide)) qa27 qc27 (g := (mkF m 21 #[VI ua, VI 2, VR a_INPUT_WORD, UU, UU, UU] [(.ref b25)])) rfl (by rw [hml]; rfl) (Steps.refl _) (argsL := []) (rest := []) (lenOf pd_0___Ljava_lang_String_ rfl) rfl (by show 2 * 0 + _ ≤ _; exact Nat.le_of_eq rfl) (hb hby at_21) (fun _ _ => ⟨rfl, e26, (by decide : 1 + 4 ≤ _), (by decide : 2 + 28 ≤ _)⟩)
    dsimp only [Pt.U, Pt.locs, Pt.cells, Pt.slots] at X27 l27 y27 z27 st27 hQ27
    subst l27 y27 z27
    obtain ⟨r0_N27, r1_N27, kr0_N27, rfl, NC27, KC27, hb0_N27, hb1_N27, Q0_N27, Q1_N27, Q2_N27, Q3_N27⟩ := hQ27
    refine own_by (B := T27.setTop (mkF m 24 #[VI ua, VI 2, VR a_INPUT_WORD, UU, UU, UU] [(.ref r0_N27)])) (fun _ k => st27.trans k) ?_
    have gnr0_N27 : n0 ≤ r0_N27 := Nat.le_trans (own_old_le O26) hb0_N27
    have fzr0_N27 : h0.size ≤ r0_N27 := Nat.le_trans K26.1 hb0_N27
    have gnr1_N27 : n0 ≤ r1_N27 := Nat.le_trans (own_old_le O26) hb1_N27
    have fzr1_N27 : h0.size ≤ r1_N27 := Nat.le_trans K26.1 hb1_N27
    obtain ⟨h27, e27⟩ : ∃ z, T27.heap = z := ⟨_, rfl⟩
    rw [e27] at KC27 Q0_N27 Q1_N27 Q2_N27 Q3_N27
    have sz27 := KC27.1
    have O27 := O26.keep KC27 all0
    have K27 := K26.trans KC27 all0
    have N27 := Fr.app N26 NC27
    have ltq0_27 := own_lt Q0_N27.lt
    have ltq3_27 := own_lt Q3_N27.lt
    refine own_by (B := T27.setTop (mkF m 25 #[VI ua, VI 2, VR a_INPUT_WORD, VR r0_N27, UU, UU] [])) (fun _ k => XS.astoreN X27.here hx rfl (hb hby at_24) rfl rfl (l' := #[VI ua, VI 2, VR a_INPUT_WORD, VR r0_N27, UU, UU]) rfl k) ?_
    refine own_by (B := T27.setTop (mkF m 26 #[VI ua, VI 2, VR a_INPUT_WORD, VR r0_N27, UU, UU] [(.ref r0_N27)])) (fun _ k => XS.aloadN X27.here hx rfl (hb hby at_25) rfl rfl  k) ?_
    obtain ⟨cq28, kq28, qa28, qb28, qc28⟩ := isOf hZ e27 Q0_N27
    obtain ⟨_, _, ⟨T28, L28, k28, n28⟩, -, X28, ⟨Lc28, hQ28, l28, y28, z28⟩, st28⟩ := X27.virtualBack hx (y := (⟨"java/lang/String", "length", "()I"⟩ : MethodName)) (z := (⟨"java/lang/String", "length", "()I"⟩ : MethodName)) hown (mvT hZ (own_hw 180 hw rfl)) (mvT hZ (own_hw 70 hw rfl)) (notFace_of_selects (args := #[]) (mvT hZ (own_hw 72 hw rfl))) (mvT hZ (own_hw 72 hw rfl)) (mvT hZ (own_hw 71 hw rfl)) (by decide) (backOf (W := 0) (rmLen4 l Z a0 hw [] a_INPUT_BIT a_OUTPUT_BIT a_OUTPUT_WORD a_INPUT_WORD a_MEMORY_WORD p_INPUT_BIT v_INPUT_BIT p_OUTPUT_WORD v_OUTPUT_WORD p_OUTPUT_BIT v_OUTPUT_BIT p_MEMORY_WORD v_MEMORY_WORD p_INPUT_WORD v_INPUT_WORD a_DigitOnes k_INPUT_BIT k_OUTPUT_WORD k_OUTPUT_BIT k_MEMORY_WORD k_INPUT_WORD ucs uff r0_N27 r1_N27 kr0_N27 (37 : Int32) (73 : Int32) (87 : Int32) (nar .byte (48 : Int32)) h27 n0 (own_old_le O27) O27 HW Q0_N27 Q1_N27 Q2_N27 Q3_N27) hZ (own_hw 73 hw rfl) (own_hw 51 hw rfl) (by decide) (by decide)) qa28 qc28 (g := (mkF m 26 #[VI ua, VI 2, VR a_INPUT_WORD, VR r0_N27, UU, UU] [(.ref r0_N27)])) rfl (by rw [hml]; rfl) (Steps.refl _) (argsL := []) (rest := []) (lenOf pd_0___I rfl) rfl (by show 2 * 0 + _ ≤ _; exact Nat.le_of_eq rfl) (hb hby at_26) (fun _ _ => ⟨rfl, e27, (by decide : 5 + 0 ≤ _), (by decide : 30 + 0 ≤ _)⟩)
    dsimp only [Pt.U, Pt.locs, Pt.cells, Pt.slots] at X28 l28 y28 z28 st28 hQ28
    subst l28 y28 z28
    obtain ⟨rfl, NC28, KC28⟩ := hQ28
    refine own_by (B := T28.setTop (mkF m 29 #[VI ua, VI 2, VR a_INPUT_WORD, VR r0_N27, UU, UU] [(.int 4)])) (fun _ k => st28.trans k) ?_
    obtain ⟨h28, e28⟩ : ∃ z, T28.heap = z := ⟨_, rfl⟩
    rw [e28] at KC28
    have sz28 := KC28.1
    have O28 := O27.keep KC28 all0
    have K28 := K27.trans KC28 all0
    have N28 := Fr.app N27 NC28
    refine own_by (B := T28.setTop (mkF m 30 #[VI ua, VI 2, VR a_INPUT_WORD, VR r0_N27, UU, UU] [(.int 1), (.int 4)])) (fun _ k => XS.iconst X28.here hx rfl (hb hby at_29) k) ?_
    refine own_by (B := T28.setTop (mkF m 33 #[VI ua, VI 2, VR a_INPUT_WORD, VR r0_N27, UU, UU] [])) (fun _ k => XS.icmpNo X28.here hx rfl (hb hby at_30) rfl (XT.ii_le_f (by decide)) k) ?_
    refine own_by (B := T28.setTop (mkF m 34 #[VI ua, VI 2, VR a_INPUT_WORD, VR r0_N27, UU, UU] [(.ref r0_N27)])) (fun _ k => XS.aloadN X28.here hx rfl (hb hby at_33) rfl rfl  k) ?_
    refine own_by (B := T28.setTop (mkF m 35 #[VI ua, VI 2, VR a_INPUT_WORD, VR r0_N27, UU, UU] [(.int 1), (.ref r0_N27)])) (fun _ k => XS.iconst X28.here hx rfl (hb hby at_34) k) ?_
    have c29 := (Q0_N27.keep KC28)
    have c30 := (Q1_N27.keep KC28 nin0)
    have c31 := (Q2_N27.keep KC28 nin0)
    have c32 := (Q3_N27.keep KC28 nin0)
    obtain ⟨cq33, kq33, qa33, qb33, qc33⟩ := isOf hZ e28 c29
    obtain ⟨_, _, ⟨T33, L33, k33, n33⟩, -, X33, ⟨Lc33, hQ33, l33, y33, z33⟩, st33⟩ := X28.virtualBack hx (y := (⟨"java/lang/String", "charAt", "(I)C"⟩ : MethodName)) (z := (⟨"java/lang/String", "charAt", "(I)C"⟩ : MethodName)) hown (mvT hZ (own_hw 181 hw rfl)) (mvT hZ (own_hw 182 hw rfl)) (notFace_of_selects (args := #[]) (mvT hZ (own_hw 184 hw rfl))) (mvT hZ (own_hw 184 hw rfl)) (mvT hZ (own_hw 183 hw rfl)) (by decide) (backOf (W := 0) (rmCa4_73 l Z a0 hw [] a_INPUT_BIT a_OUTPUT_BIT a_OUTPUT_WORD a_INPUT_WORD a_MEMORY_WORD p_INPUT_BIT v_INPUT_BIT p_OUTPUT_WORD v_OUTPUT_WORD p_OUTPUT_BIT v_OUTPUT_BIT p_MEMORY_WORD v_MEMORY_WORD p_INPUT_WORD v_INPUT_WORD a_DigitOnes k_INPUT_BIT k_OUTPUT_WORD k_OUTPUT_BIT k_MEMORY_WORD k_INPUT_WORD ucs uff r0_N27 r1_N27 kr0_N27 (37 : Int32) (87 : Int32) (nar .byte (48 : Int32)) h28 n0 (own_old_le O28) O28 HW c29 c30 c31 c32) hZ (own_hw 185 hw rfl) (own_hw 51 hw rfl) (by decide) (by decide)) qa33 qc33 (g := (mkF m 35 #[VI ua, VI 2, VR a_INPUT_WORD, VR r0_N27, UU, UU] [(.int 1), (.ref r0_N27)])) rfl (by rw [hml]; rfl) (Steps.refl _) (argsL := [(.int 1)]) (rest := []) (lenOf pd_0__I_C rfl) rfl (by show 2 * 0 + _ ≤ _; exact Nat.le_of_eq rfl) (hb hby at_35) (fun _ _ => ⟨rfl, e28, (by decide : 5 + 0 ≤ _), (by decide : 30 + 0 ≤ _)⟩)
    dsimp only [Pt.U, Pt.locs, Pt.cells, Pt.slots] at X33 l33 y33 z33 st33 hQ33
    subst l33 y33 z33
    obtain ⟨rfl, NC33, KC33⟩ := hQ33
    refine own_by (B := T33.setTop (mkF m 38 #[VI ua, VI 2, VR a_INPUT_WORD, VR r0_N27, UU, UU] [(.int 73)])) (fun _ k => st33.trans k) ?_
    obtain ⟨h33, e33⟩ : ∃ z, T33.heap = z := ⟨_, rfl⟩
    rw [e33] at KC33
    have sz33 := KC33.1
    have O33 := O28.keep KC33 all0
    have K33 := K28.trans KC33 all0
    have N33 := Fr.app N28 NC33
    refine own_by (B := T33.setTop (mkF m 40 #[VI ua, VI 2, VR a_INPUT_WORD, VR r0_N27, UU, UU] [(.int 81), (.int 73)])) (fun _ k => XS.bipush X33.here hx rfl (hb hby at_38) k) ?_
    refine own_by (B := T33.setTop (mkF m 47 #[VI ua, VI 2, VR a_INPUT_WORD, VR r0_N27, UU, UU] [])) (fun _ k => XS.icmpYes X33.here hx rfl (pc0 := 40) (pc' := 47) rfl (hb hby at_40) rfl (XT.ii_ne_t (by decide)) (by decide) (by decide) k) ?_
    refine own_by (B := T33.setTop (mkF m 48 #[VI ua, VI 2, VR a_INPUT_WORD, VR r0_N27, UU, UU] [(.int 0)])) (fun _ k => XS.iconst X33.here hx rfl (hb hby at_47) k) ?_
    refine own_by (B := T33.setTop (mkF m 50 #[VI ua, VI 2, VR a_INPUT_WORD, VR r0_N27, VI 0, UU] [])) (fun _ k => XS.istore X33.here hx rfl (hb hby at_48) rfl (l' := #[VI ua, VI 2, VR a_INPUT_WORD, VR r0_N27, VI 0, UU]) rfl k) ?_
    refine own_by (B := T33.setTop (mkF m 51 #[VI ua, VI 2, VR a_INPUT_WORD, VR r0_N27, VI 0, UU] [(.ref a_INPUT_WORD)])) (fun _ k => XS.aloadN X33.here hx rfl (hb hby at_50) rfl rfl  k) ?_
    obtain ⟨cq34, kq34, qa34, qb34, qc34⟩ := isOf hZ e33 (E_INPUT_WORD.ext O33.2)
    obtain ⟨_, _, ⟨T34, L34, k34, n34⟩, -, X34, ⟨Lc34, hQ34, l34, y34, z34⟩, st34⟩ := X33.virtualBack hx (y := (⟨"com/example/hotrung/hotrung/image/Address$Area", "isOutput", "()Z"⟩ : MethodName)) (z := (⟨"com/example/hotrung/hotrung/image/Address$Area", "isOutput", "()Z"⟩ : MethodName)) hown (mvT hZ (own_hw 203 hw rfl)) (mvT hZ (own_hw 204 hw rfl)) (notFace_of_selects (args := #[]) (mvT hZ (own_hw 206 hw rfl))) (mvT hZ (own_hw 206 hw rfl)) (mvT hZ (own_hw 205 hw rfl)) (by decide) (backOf (W := 0) (rm_isOutput l Z a0 hw [] a_INPUT_BIT a_OUTPUT_BIT a_OUTPUT_WORD a_INPUT_WORD a_MEMORY_WORD p_INPUT_BIT v_INPUT_BIT p_OUTPUT_WORD v_OUTPUT_WORD p_OUTPUT_BIT v_OUTPUT_BIT p_MEMORY_WORD v_MEMORY_WORD p_INPUT_WORD v_INPUT_WORD a_DigitOnes k_INPUT_BIT k_OUTPUT_WORD k_OUTPUT_BIT k_MEMORY_WORD k_INPUT_WORD ucs uff a_INPUT_WORD h33 n0 (own_old_le O33) O33 HW) hZ (own_hw 207 hw rfl) (own_hw 6 hw rfl) (by decide) (by decide)) qa34 qc34 (g := (mkF m 51 #[VI ua, VI 2, VR a_INPUT_WORD, VR r0_N27, VI 0, UU] [(.ref a_INPUT_WORD)])) rfl (by rw [hml]; rfl) (Steps.refl _) (argsL := []) (rest := []) (lenOf pd_0___Z rfl) rfl (by show 2 * 0 + _ ≤ _; exact Nat.le_of_eq rfl) (hb hby at_51) (fun _ _ => ⟨rfl, e33, (by decide : 5 + 0 ≤ _), (by decide : 30 + 0 ≤ _)⟩)
    dsimp only [Pt.U, Pt.locs, Pt.cells, Pt.slots] at X34 l34 y34 z34 st34 hQ34
    subst l34 y34 z34
    obtain ⟨rfl, N34, e34⟩ := hQ34
    refine own_by (B := T34.setTop (mkF m 54 #[VI ua, VI 2, VR a_INPUT_WORD, VR r0_N27, VI 0, UU] [(.int (own_isOutput a_INPUT_WORD a_OUTPUT_BIT a_OUTPUT_WORD))])) (fun _ k => st34.trans k) ?_
    have M34 := Fr.app N33 N34
    rw [show (own_isOutput a_INPUT_WORD a_OUTPUT_BIT a_OUTPUT_WORD) = (0 : Int32) from by unfold own_isOutput; rw [if_neg (Fld.ne F_INPUT_WORD_ordinal F_OUTPUT_BIT_ordinal (by decide)), if_neg (Fld.ne F_INPUT_WORD_ordinal F_OUTPUT_WORD_ordinal (by decide))]]
    refine own_by (B := T34.setTop (mkF m 56 #[VI ua, VI 2, VR a_INPUT_WORD, VR r0_N27, VI 0, VI 0] [])) (fun _ k => XS.istore X34.here hx rfl (hb hby at_54) rfl (l' := #[VI ua, VI 2, VR a_INPUT_WORD, VR r0_N27, VI 0, VI 0]) rfl k) ?_
    refine own_by (B := T34.setTop (mkF m 58 #[VI ua, VI 2, VR a_INPUT_WORD, VR r0_N27, VI 0, VI 0] [(.int 0)])) (fun _ k => XS.iload X34.here hx rfl (hb hby at_56) rfl  k) ?_
    refine own_by (B := T34.setTop (mkF m 60 #[VI ua, VI 2, VR a_INPUT_WORD, VR r0_N27, VI 0, VI 0] [(.int 0), (.int 0)])) (fun _ k => XS.iload X34.here hx rfl (hb hby at_58) rfl  k) ?_
    refine own_by (B := T34.setTop (mkF m 63 #[VI ua, VI 2, VR a_INPUT_WORD, VR r0_N27, VI 0, VI 0] [])) (fun _ k => XS.icmpNo X34.here hx rfl (hb hby at_60) rfl (XT.ii_ne_f (by decide)) k) ?_
    refine own_by (B := T34.setTop (mkF m 65 #[VI ua, VI 2, VR a_INPUT_WORD, VR r0_N27, VI 0, VI 0] [(.int 0)])) (fun _ k => XS.iload X34.here hx rfl (hb hby at_63) rfl  k) ?_
    refine own_by (B := T34.setTop (mkF m 75 #[VI ua, VI 2, VR a_INPUT_WORD, VR r0_N27, VI 0, VI 0] [])) (fun _ k => XS.ifYes X34.here hx rfl (pc0 := 65) (pc' := 75) rfl (hb hby at_65) rfl (XT.i0_eq_t (by decide)) (by decide) (by decide) k) ?_
    refine own_by (B := T34.setTop (mkF m 76 #[VI ua, VI 2, VR a_INPUT_WORD, VR r0_N27, VI 0, VI 0] [(.int 1)])) (fun _ k => XS.iconst X34.here hx rfl (hb hby at_75) k) ?_
    refine own_by (B := T34.setTop (mkF m 80 #[VI ua, VI 2, VR a_INPUT_WORD, VR r0_N27, VI 0, VI 0] [(.int 1)])) (fun _ k => XS.goto X34.here hx rfl (pc0 := 76) (pc' := 80) rfl (hb hby at_76) (by decide) (by decide) k) ?_
    exact own_retZL (s := s) (vm1 := s.vm) X34 hx (k1 := 0) ((State.WarmedH.refl s).since 0) (Nat.zero_le _) hrt hlk rfl (hb hby at_80) (by decide) (by decide) ⟨rfl, M34⟩
  · refine own_by (B := s₁.setTop (mkF m 8 #[VI ua, VI 3, UU, UU, UU, UU] [(.int 3)])) (fun _ k => XS.iloadN X0.here hx rfl (hb hby at_7) rfl  k) ?_
    obtain ⟨_, _, ⟨T35, L35, k35, n35⟩, -, X35, ⟨Lc35, hQ35, l35, y35, z35⟩, st35⟩ := Jvm.LawKit.callS X0 hx (y := (⟨"com/example/hotrung/hotrung/image/AreaIsOutputPinLaw", "pick", "(I)Lcom/example/hotrung/hotrung/image/Address$Area;"⟩ : MethodName)) hown (mvT hZ (own_hw 1 hw rfl)) (mvT hZ (own_hw 2 hw rfl)) (mvT hZ (own_hw 3 hw rfl)) (mvT hZ (own_hw 4 hw rfl)) (by decide) (backOf (W := 0) (rm_pick l Z a0 hw [] a_INPUT_BIT a_OUTPUT_BIT a_OUTPUT_WORD a_INPUT_WORD a_MEMORY_WORD p_INPUT_BIT v_INPUT_BIT p_OUTPUT_WORD v_OUTPUT_WORD p_OUTPUT_BIT v_OUTPUT_BIT p_MEMORY_WORD v_MEMORY_WORD p_INPUT_WORD v_INPUT_WORD a_DigitOnes k_INPUT_BIT k_OUTPUT_WORD k_OUTPUT_BIT k_MEMORY_WORD k_INPUT_WORD ucs uff (3 : Int32) h0 n0 (own_old_le O0) O0 HW) hZ (own_hw 4 hw rfl) (own_hw 3 hw rfl) (by decide) (by decide)) (g := (mkF m 8 #[VI ua, VI 3, UU, UU, UU, UU] [(.int 3)])) rfl (by rw [hml]; rfl) (argsL := [(.int 3)]) (rest := []) (lenOf pd_0__I_Lcom_example_hotrung_hotrung_image_Address_Area_ rfl) rfl (by show 2 * 0 + _ ≤ _; exact Nat.le_of_eq rfl) (hb hby at_8) (fun _ _ => ⟨rfl, e0, (by decide : 0 + 0 ≤ _), (by decide : 0 + 0 ≤ _)⟩)
    dsimp only [Pt.U, Pt.locs, Pt.cells, Pt.slots] at X35 l35 y35 z35 st35 hQ35
    subst l35 y35 z35
    obtain ⟨rfl, N35, e35⟩ := hQ35
    refine own_by (B := T35.setTop (mkF m 11 #[VI ua, VI 3, UU, UU, UU, UU] [(.ref (own_pick (3 : Int32) a_INPUT_BIT a_OUTPUT_BIT a_INPUT_WORD a_OUTPUT_WORD a_MEMORY_WORD))])) st35 ?_
    have M35 := Fr.app N0 N35
    rw [show (own_pick (3 : Int32) a_INPUT_BIT a_OUTPUT_BIT a_INPUT_WORD a_OUTPUT_WORD a_MEMORY_WORD) = a_OUTPUT_WORD from by unfold own_pick; rw [if_neg (by decide), if_neg (by decide), if_neg (by decide), if_pos (by decide)]]
    refine own_by (B := T35.setTop (mkF m 12 #[VI ua, VI 3, VR a_OUTPUT_WORD, UU, UU, UU] [])) (fun _ k => XS.astoreN X35.here hx rfl (hb hby at_11) rfl rfl (l' := #[VI ua, VI 3, VR a_OUTPUT_WORD, UU, UU, UU]) rfl k) ?_
    obtain ⟨T36, h36, X36, e36, E36, A36, D36, -, st36⟩ := newO X35 hx hZ hown (own_hw 8 hw rfl) (own_hw 9 hw rfl) (own_hw 10 hw rfl) e35 (g := (mkF m 12 #[VI ua, VI 3, VR a_OUTPUT_WORD, UU, UU, UU] [])) rfl (hb hby at_12) (by decide) (by decide)
    obtain ⟨b36, g36⟩ : ∃ z, z = h0.size := ⟨_, rfl⟩
    rw [← g36] at A36 D36 st36
    have sz36 := E36.1
    have gn36 : n0 ≤ b36 := g36 ▸ own_old_le O0
    have fz36 : h0.size ≤ b36 := g36 ▸ K0.1
    have lt36 := own_lt A36.lt
    have O36 := O0.ext E36
    have K36 := K0.ext E36
    have F36_area : Fld Z h36 b36 "com/example/hotrung/hotrung/image/Address" "area" "Lcom/example/hotrung/hotrung/image/Address$Area;" .null := D36 (Or.inr (own_hw 23 hw rfl)) (ty := (.object "com/example/hotrung/hotrung/image/Address$Area")) (by decide)
    have F36_cell : Fld Z h36 b36 "com/example/hotrung/hotrung/image/Address" "cell" "I" (.int 0) := D36 (Or.inr (own_hw 25 hw rfl)) (ty := .int) (by decide)
    refine own_by (B := T36.setTop (mkF m 15 #[VI ua, VI 3, VR a_OUTPUT_WORD, UU, UU, UU] [(.ref b36)])) st36 ?_
    refine own_by (B := T36.setTop (mkF m 16 #[VI ua, VI 3, VR a_OUTPUT_WORD, UU, UU, UU] [(.ref b36), (.ref b36)])) (fun _ k => XS.dup X36.here hx rfl (hb hby at_15) rfl rfl k) ?_
    refine own_by (B := T36.setTop (mkF m 17 #[VI ua, VI 3, VR a_OUTPUT_WORD, UU, UU, UU] [(.ref a_OUTPUT_WORD), (.ref b36), (.ref b36)])) (fun _ k => XS.aloadN X36.here hx rfl (hb hby at_16) rfl rfl  k) ?_
    refine own_by (B := T36.setTop (mkF m 18 #[VI ua, VI 3, VR a_OUTPUT_WORD, UU, UU, UU] [(.int 0), (.ref a_OUTPUT_WORD), (.ref b36), (.ref b36)])) (fun _ k => XS.iconst X36.here hx rfl (hb hby at_17) k) ?_
    obtain ⟨_, _, ⟨T37, L37, k37, n37⟩, -, X37, ⟨Lc37, hQ37, l37, y37, z37⟩, st37⟩ := X36.specialBack hx (y := (⟨"com/example/hotrung/hotrung/image/Address", "<init>", "(Lcom/example/hotrung/hotrung/image/Address$Area;I)V"⟩ : MethodName)) rfl hown (mvT hZ (own_hw 11 hw rfl)) (mvT hZ (own_hw 12 hw rfl)) (mvT hZ (own_hw 13 hw rfl)) (by decide) (backOf (W := 1) (rmAd l Z a0 hw [] b36 a_OUTPUT_WORD (0 : Int32) h36 n0 (own_old_le O36) O36 A36 F36_area F36_cell gn36) hZ (own_hw 13 hw rfl) (own_hw 10 hw rfl) (by decide) (by decide)) (g := (mkF m 18 #[VI ua, VI 3, VR a_OUTPUT_WORD, UU, UU, UU] [(.int 0), (.ref a_OUTPUT_WORD), (.ref b36), (.ref b36)])) rfl (by rw [hml]; rfl) (Steps.refl _) (a := b36) (argsL := [(.ref a_OUTPUT_WORD), (.int 0)]) (rest := [(.ref b36)]) (lenOf pd_0__Lcom_example_hotrung_hotrung_image_Address_Area_I_V rfl) rfl (by show 2 * 0 + _ ≤ _; exact Nat.le_of_eq rfl) (hb hby at_18) (fun _ _ => ⟨rfl, e36, (by decide : 1 + 0 ≤ _), (by decide : 2 + 0 ≤ _)⟩)
    dsimp only [Pt.U, Pt.locs, Pt.cells, Pt.slots] at X37 l37 y37 z37 st37 hQ37
    subst l37 y37 z37
    obtain ⟨rfl, NC37, KC37, EC37, FC37_0, FC37_1⟩ := hQ37
    refine own_by (B := T37.setTop (mkF m 21 #[VI ua, VI 3, VR a_OUTPUT_WORD, UU, UU, UU] [(.ref b36)])) (fun _ k => st37.trans k) ?_
    obtain ⟨h37, e37⟩ : ∃ z, T37.heap = z := ⟨_, rfl⟩
    rw [e37] at KC37 EC37 FC37_0 FC37_1
    have sz37 := KC37.1
    have O37 := O36.keep KC37 (allS gn36 all0)
    have K37 := K36.trans KC37 (allS (Or.inr fz36) all0)
    have N37 := Fr.app M35 NC37
    obtain ⟨cq38, kq38, qa38, qb38, qc38⟩ := isOf hZ e37 EC37
    obtain ⟨_, _, ⟨T38, L38, k38, n38⟩, -, X38, ⟨Lc38, hQ38, l38, y38, z38⟩, st38⟩ := X37.virtualBack hx (y := (⟨"com/example/hotrung/hotrung/image/Address", "toString", "()Ljava/lang/String;"⟩ : MethodName)) (z := (⟨"com/example/hotrung/hotrung/image/Address", "toString", "()Ljava/lang/String;"⟩ : MethodName)) hown (mvT hZ (own_hw 26 hw rfl)) (mvT hZ (own_hw 27 hw rfl)) (notFace_of_selects (args := #[]) (mvT hZ (own_hw 29 hw rfl))) (mvT hZ (own_hw 29 hw rfl)) (mvT hZ (own_hw 28 hw rfl)) (by decide) (backOf (W := 0) (rmToOUTPUT_WORD l Z a0 hw [] a_INPUT_BIT a_OUTPUT_BIT a_OUTPUT_WORD a_INPUT_WORD a_MEMORY_WORD p_INPUT_BIT v_INPUT_BIT p_OUTPUT_WORD v_OUTPUT_WORD p_OUTPUT_BIT v_OUTPUT_BIT p_MEMORY_WORD v_MEMORY_WORD p_INPUT_WORD v_INPUT_WORD a_DigitOnes k_INPUT_BIT k_OUTPUT_WORD k_OUTPUT_BIT k_MEMORY_WORD k_INPUT_WORD ucs uff b36 h37 n0 (own_old_le O37) O37 HW EC37 FC37_0 FC37_1) hZ (own_hw 30 hw rfl) (own_hw 10 hw rfl) (by decide) (by decide)) qa38 qc38 (g := (mkF m 21 #[VI ua, VI 3, VR a_OUTPUT_WORD, UU, UU, UU] [(.ref b36)])) rfl (by rw [hml]; rfl) (Steps.refl _) (argsL := []) (rest := []) (lenOf pd_0___Ljava_lang_String_ rfl) rfl (by show 2 * 0 + _ ≤ _; exact Nat.le_of_eq rfl) (hb hby at_21) (fun _ _ => ⟨rfl, e37, (by decide : 1 + 4 ≤ _), (by decide : 2 + 28 ≤ _)⟩)
    dsimp only [Pt.U, Pt.locs, Pt.cells, Pt.slots] at X38 l38 y38 z38 st38 hQ38
    subst l38 y38 z38
    obtain ⟨r0_N38, r1_N38, kr0_N38, rfl, NC38, KC38, hb0_N38, hb1_N38, Q0_N38, Q1_N38, Q2_N38, Q3_N38⟩ := hQ38
    refine own_by (B := T38.setTop (mkF m 24 #[VI ua, VI 3, VR a_OUTPUT_WORD, UU, UU, UU] [(.ref r0_N38)])) (fun _ k => st38.trans k) ?_
    have gnr0_N38 : n0 ≤ r0_N38 := Nat.le_trans (own_old_le O37) hb0_N38
    have fzr0_N38 : h0.size ≤ r0_N38 := Nat.le_trans K37.1 hb0_N38
    have gnr1_N38 : n0 ≤ r1_N38 := Nat.le_trans (own_old_le O37) hb1_N38
    have fzr1_N38 : h0.size ≤ r1_N38 := Nat.le_trans K37.1 hb1_N38
    obtain ⟨h38, e38⟩ : ∃ z, T38.heap = z := ⟨_, rfl⟩
    rw [e38] at KC38 Q0_N38 Q1_N38 Q2_N38 Q3_N38
    have sz38 := KC38.1
    have O38 := O37.keep KC38 all0
    have K38 := K37.trans KC38 all0
    have N38 := Fr.app N37 NC38
    have ltq0_38 := own_lt Q0_N38.lt
    have ltq3_38 := own_lt Q3_N38.lt
    refine own_by (B := T38.setTop (mkF m 25 #[VI ua, VI 3, VR a_OUTPUT_WORD, VR r0_N38, UU, UU] [])) (fun _ k => XS.astoreN X38.here hx rfl (hb hby at_24) rfl rfl (l' := #[VI ua, VI 3, VR a_OUTPUT_WORD, VR r0_N38, UU, UU]) rfl k) ?_
    refine own_by (B := T38.setTop (mkF m 26 #[VI ua, VI 3, VR a_OUTPUT_WORD, VR r0_N38, UU, UU] [(.ref r0_N38)])) (fun _ k => XS.aloadN X38.here hx rfl (hb hby at_25) rfl rfl  k) ?_
    obtain ⟨cq39, kq39, qa39, qb39, qc39⟩ := isOf hZ e38 Q0_N38
    obtain ⟨_, _, ⟨T39, L39, k39, n39⟩, -, X39, ⟨Lc39, hQ39, l39, y39, z39⟩, st39⟩ := X38.virtualBack hx (y := (⟨"java/lang/String", "length", "()I"⟩ : MethodName)) (z := (⟨"java/lang/String", "length", "()I"⟩ : MethodName)) hown (mvT hZ (own_hw 180 hw rfl)) (mvT hZ (own_hw 70 hw rfl)) (notFace_of_selects (args := #[]) (mvT hZ (own_hw 72 hw rfl))) (mvT hZ (own_hw 72 hw rfl)) (mvT hZ (own_hw 71 hw rfl)) (by decide) (backOf (W := 0) (rmLen4 l Z a0 hw [] a_INPUT_BIT a_OUTPUT_BIT a_OUTPUT_WORD a_INPUT_WORD a_MEMORY_WORD p_INPUT_BIT v_INPUT_BIT p_OUTPUT_WORD v_OUTPUT_WORD p_OUTPUT_BIT v_OUTPUT_BIT p_MEMORY_WORD v_MEMORY_WORD p_INPUT_WORD v_INPUT_WORD a_DigitOnes k_INPUT_BIT k_OUTPUT_WORD k_OUTPUT_BIT k_MEMORY_WORD k_INPUT_WORD ucs uff r0_N38 r1_N38 kr0_N38 (37 : Int32) (81 : Int32) (87 : Int32) (nar .byte (48 : Int32)) h38 n0 (own_old_le O38) O38 HW Q0_N38 Q1_N38 Q2_N38 Q3_N38) hZ (own_hw 73 hw rfl) (own_hw 51 hw rfl) (by decide) (by decide)) qa39 qc39 (g := (mkF m 26 #[VI ua, VI 3, VR a_OUTPUT_WORD, VR r0_N38, UU, UU] [(.ref r0_N38)])) rfl (by rw [hml]; rfl) (Steps.refl _) (argsL := []) (rest := []) (lenOf pd_0___I rfl) rfl (by show 2 * 0 + _ ≤ _; exact Nat.le_of_eq rfl) (hb hby at_26) (fun _ _ => ⟨rfl, e38, (by decide : 5 + 0 ≤ _), (by decide : 30 + 0 ≤ _)⟩)
    dsimp only [Pt.U, Pt.locs, Pt.cells, Pt.slots] at X39 l39 y39 z39 st39 hQ39
    subst l39 y39 z39
    obtain ⟨rfl, NC39, KC39⟩ := hQ39
    refine own_by (B := T39.setTop (mkF m 29 #[VI ua, VI 3, VR a_OUTPUT_WORD, VR r0_N38, UU, UU] [(.int 4)])) (fun _ k => st39.trans k) ?_
    obtain ⟨h39, e39⟩ : ∃ z, T39.heap = z := ⟨_, rfl⟩
    rw [e39] at KC39
    have sz39 := KC39.1
    have O39 := O38.keep KC39 all0
    have K39 := K38.trans KC39 all0
    have N39 := Fr.app N38 NC39
    refine own_by (B := T39.setTop (mkF m 30 #[VI ua, VI 3, VR a_OUTPUT_WORD, VR r0_N38, UU, UU] [(.int 1), (.int 4)])) (fun _ k => XS.iconst X39.here hx rfl (hb hby at_29) k) ?_
    refine own_by (B := T39.setTop (mkF m 33 #[VI ua, VI 3, VR a_OUTPUT_WORD, VR r0_N38, UU, UU] [])) (fun _ k => XS.icmpNo X39.here hx rfl (hb hby at_30) rfl (XT.ii_le_f (by decide)) k) ?_
    refine own_by (B := T39.setTop (mkF m 34 #[VI ua, VI 3, VR a_OUTPUT_WORD, VR r0_N38, UU, UU] [(.ref r0_N38)])) (fun _ k => XS.aloadN X39.here hx rfl (hb hby at_33) rfl rfl  k) ?_
    refine own_by (B := T39.setTop (mkF m 35 #[VI ua, VI 3, VR a_OUTPUT_WORD, VR r0_N38, UU, UU] [(.int 1), (.ref r0_N38)])) (fun _ k => XS.iconst X39.here hx rfl (hb hby at_34) k) ?_
    have c40 := (Q0_N38.keep KC39)
    have c41 := (Q1_N38.keep KC39 nin0)
    have c42 := (Q2_N38.keep KC39 nin0)
    have c43 := (Q3_N38.keep KC39 nin0)
    obtain ⟨cq44, kq44, qa44, qb44, qc44⟩ := isOf hZ e39 c40
    obtain ⟨_, _, ⟨T44, L44, k44, n44⟩, -, X44, ⟨Lc44, hQ44, l44, y44, z44⟩, st44⟩ := X39.virtualBack hx (y := (⟨"java/lang/String", "charAt", "(I)C"⟩ : MethodName)) (z := (⟨"java/lang/String", "charAt", "(I)C"⟩ : MethodName)) hown (mvT hZ (own_hw 181 hw rfl)) (mvT hZ (own_hw 182 hw rfl)) (notFace_of_selects (args := #[]) (mvT hZ (own_hw 184 hw rfl))) (mvT hZ (own_hw 184 hw rfl)) (mvT hZ (own_hw 183 hw rfl)) (by decide) (backOf (W := 0) (rmCa4_81 l Z a0 hw [] a_INPUT_BIT a_OUTPUT_BIT a_OUTPUT_WORD a_INPUT_WORD a_MEMORY_WORD p_INPUT_BIT v_INPUT_BIT p_OUTPUT_WORD v_OUTPUT_WORD p_OUTPUT_BIT v_OUTPUT_BIT p_MEMORY_WORD v_MEMORY_WORD p_INPUT_WORD v_INPUT_WORD a_DigitOnes k_INPUT_BIT k_OUTPUT_WORD k_OUTPUT_BIT k_MEMORY_WORD k_INPUT_WORD ucs uff r0_N38 r1_N38 kr0_N38 (37 : Int32) (87 : Int32) (nar .byte (48 : Int32)) h39 n0 (own_old_le O39) O39 HW c40 c41 c42 c43) hZ (own_hw 185 hw rfl) (own_hw 51 hw rfl) (by decide) (by decide)) qa44 qc44 (g := (mkF m 35 #[VI ua, VI 3, VR a_OUTPUT_WORD, VR r0_N38, UU, UU] [(.int 1), (.ref r0_N38)])) rfl (by rw [hml]; rfl) (Steps.refl _) (argsL := [(.int 1)]) (rest := []) (lenOf pd_0__I_C rfl) rfl (by show 2 * 0 + _ ≤ _; exact Nat.le_of_eq rfl) (hb hby at_35) (fun _ _ => ⟨rfl, e39, (by decide : 5 + 0 ≤ _), (by decide : 30 + 0 ≤ _)⟩)
    dsimp only [Pt.U, Pt.locs, Pt.cells, Pt.slots] at X44 l44 y44 z44 st44 hQ44
    subst l44 y44 z44
    obtain ⟨rfl, NC44, KC44⟩ := hQ44
    refine own_by (B := T44.setTop (mkF m 38 #[VI ua, VI 3, VR a_OUTPUT_WORD, VR r0_N38, UU, UU] [(.int 81)])) (fun _ k => st44.trans k) ?_
    obtain ⟨h44, e44⟩ : ∃ z, T44.heap = z := ⟨_, rfl⟩
    rw [e44] at KC44
    have sz44 := KC44.1
    have O44 := O39.keep KC44 all0
    have K44 := K39.trans KC44 all0
    have N44 := Fr.app N39 NC44
    refine own_by (B := T44.setTop (mkF m 40 #[VI ua, VI 3, VR a_OUTPUT_WORD, VR r0_N38, UU, UU] [(.int 81), (.int 81)])) (fun _ k => XS.bipush X44.here hx rfl (hb hby at_38) k) ?_
    refine own_by (B := T44.setTop (mkF m 43 #[VI ua, VI 3, VR a_OUTPUT_WORD, VR r0_N38, UU, UU] [])) (fun _ k => XS.icmpNo X44.here hx rfl (hb hby at_40) rfl (XT.ii_ne_f (by decide)) k) ?_
    refine own_by (B := T44.setTop (mkF m 44 #[VI ua, VI 3, VR a_OUTPUT_WORD, VR r0_N38, UU, UU] [(.int 1)])) (fun _ k => XS.iconst X44.here hx rfl (hb hby at_43) k) ?_
    refine own_by (B := T44.setTop (mkF m 48 #[VI ua, VI 3, VR a_OUTPUT_WORD, VR r0_N38, UU, UU] [(.int 1)])) (fun _ k => XS.goto X44.here hx rfl (pc0 := 44) (pc' := 48) rfl (hb hby at_44) (by decide) (by decide) k) ?_
    refine own_by (B := T44.setTop (mkF m 50 #[VI ua, VI 3, VR a_OUTPUT_WORD, VR r0_N38, VI 1, UU] [])) (fun _ k => XS.istore X44.here hx rfl (hb hby at_48) rfl (l' := #[VI ua, VI 3, VR a_OUTPUT_WORD, VR r0_N38, VI 1, UU]) rfl k) ?_
    refine own_by (B := T44.setTop (mkF m 51 #[VI ua, VI 3, VR a_OUTPUT_WORD, VR r0_N38, VI 1, UU] [(.ref a_OUTPUT_WORD)])) (fun _ k => XS.aloadN X44.here hx rfl (hb hby at_50) rfl rfl  k) ?_
    obtain ⟨cq45, kq45, qa45, qb45, qc45⟩ := isOf hZ e44 (E_OUTPUT_WORD.ext O44.2)
    obtain ⟨_, _, ⟨T45, L45, k45, n45⟩, -, X45, ⟨Lc45, hQ45, l45, y45, z45⟩, st45⟩ := X44.virtualBack hx (y := (⟨"com/example/hotrung/hotrung/image/Address$Area", "isOutput", "()Z"⟩ : MethodName)) (z := (⟨"com/example/hotrung/hotrung/image/Address$Area", "isOutput", "()Z"⟩ : MethodName)) hown (mvT hZ (own_hw 203 hw rfl)) (mvT hZ (own_hw 204 hw rfl)) (notFace_of_selects (args := #[]) (mvT hZ (own_hw 206 hw rfl))) (mvT hZ (own_hw 206 hw rfl)) (mvT hZ (own_hw 205 hw rfl)) (by decide) (backOf (W := 0) (rm_isOutput l Z a0 hw [] a_INPUT_BIT a_OUTPUT_BIT a_OUTPUT_WORD a_INPUT_WORD a_MEMORY_WORD p_INPUT_BIT v_INPUT_BIT p_OUTPUT_WORD v_OUTPUT_WORD p_OUTPUT_BIT v_OUTPUT_BIT p_MEMORY_WORD v_MEMORY_WORD p_INPUT_WORD v_INPUT_WORD a_DigitOnes k_INPUT_BIT k_OUTPUT_WORD k_OUTPUT_BIT k_MEMORY_WORD k_INPUT_WORD ucs uff a_OUTPUT_WORD h44 n0 (own_old_le O44) O44 HW) hZ (own_hw 207 hw rfl) (own_hw 6 hw rfl) (by decide) (by decide)) qa45 qc45 (g := (mkF m 51 #[VI ua, VI 3, VR a_OUTPUT_WORD, VR r0_N38, VI 1, UU] [(.ref a_OUTPUT_WORD)])) rfl (by rw [hml]; rfl) (Steps.refl _) (argsL := []) (rest := []) (lenOf pd_0___Z rfl) rfl (by show 2 * 0 + _ ≤ _; exact Nat.le_of_eq rfl) (hb hby at_51) (fun _ _ => ⟨rfl, e44, (by decide : 5 + 0 ≤ _), (by decide : 30 + 0 ≤ _)⟩)
    dsimp only [Pt.U, Pt.locs, Pt.cells, Pt.slots] at X45 l45 y45 z45 st45 hQ45
    subst l45 y45 z45
    obtain ⟨rfl, N45, e45⟩ := hQ45
    refine own_by (B := T45.setTop (mkF m 54 #[VI ua, VI 3, VR a_OUTPUT_WORD, VR r0_N38, VI 1, UU] [(.int (own_isOutput a_OUTPUT_WORD a_OUTPUT_BIT a_OUTPUT_WORD))])) (fun _ k => st45.trans k) ?_
    have M45 := Fr.app N44 N45
    rw [show (own_isOutput a_OUTPUT_WORD a_OUTPUT_BIT a_OUTPUT_WORD) = (1 : Int32) from by unfold own_isOutput; rw [if_neg (Fld.ne F_OUTPUT_WORD_ordinal F_OUTPUT_BIT_ordinal (by decide)), if_pos rfl]]
    refine own_by (B := T45.setTop (mkF m 56 #[VI ua, VI 3, VR a_OUTPUT_WORD, VR r0_N38, VI 1, VI 1] [])) (fun _ k => XS.istore X45.here hx rfl (hb hby at_54) rfl (l' := #[VI ua, VI 3, VR a_OUTPUT_WORD, VR r0_N38, VI 1, VI 1]) rfl k) ?_
    refine own_by (B := T45.setTop (mkF m 58 #[VI ua, VI 3, VR a_OUTPUT_WORD, VR r0_N38, VI 1, VI 1] [(.int 1)])) (fun _ k => XS.iload X45.here hx rfl (hb hby at_56) rfl  k) ?_
    refine own_by (B := T45.setTop (mkF m 60 #[VI ua, VI 3, VR a_OUTPUT_WORD, VR r0_N38, VI 1, VI 1] [(.int 1), (.int 1)])) (fun _ k => XS.iload X45.here hx rfl (hb hby at_58) rfl  k) ?_
    refine own_by (B := T45.setTop (mkF m 63 #[VI ua, VI 3, VR a_OUTPUT_WORD, VR r0_N38, VI 1, VI 1] [])) (fun _ k => XS.icmpNo X45.here hx rfl (hb hby at_60) rfl (XT.ii_ne_f (by decide)) k) ?_
    refine own_by (B := T45.setTop (mkF m 65 #[VI ua, VI 3, VR a_OUTPUT_WORD, VR r0_N38, VI 1, VI 1] [(.int 1)])) (fun _ k => XS.iload X45.here hx rfl (hb hby at_63) rfl  k) ?_
    refine own_by (B := T45.setTop (mkF m 68 #[VI ua, VI 3, VR a_OUTPUT_WORD, VR r0_N38, VI 1, VI 1] [])) (fun _ k => XS.ifNo X45.here hx rfl (hb hby at_65) rfl (XT.i0_eq_f (by decide)) k) ?_
    refine own_by (B := T45.setTop (mkF m 69 #[VI ua, VI 3, VR a_OUTPUT_WORD, VR r0_N38, VI 1, VI 1] [(.ref a_OUTPUT_WORD)])) (fun _ k => XS.aloadN X45.here hx rfl (hb hby at_68) rfl rfl  k) ?_
    obtain ⟨cq46, kq46, qa46, qb46, qc46⟩ := isOf hZ e45 (E_OUTPUT_WORD.ext O44.2)
    obtain ⟨_, _, ⟨T46, L46, k46, n46⟩, -, X46, ⟨Lc46, hQ46, l46, y46, z46⟩, st46⟩ := X45.virtualBack hx (y := (⟨"com/example/hotrung/hotrung/image/Address$Area", "isInput", "()Z"⟩ : MethodName)) (z := (⟨"com/example/hotrung/hotrung/image/Address$Area", "isInput", "()Z"⟩ : MethodName)) hown (mvT hZ (own_hw 213 hw rfl)) (mvT hZ (own_hw 214 hw rfl)) (notFace_of_selects (args := #[]) (mvT hZ (own_hw 216 hw rfl))) (mvT hZ (own_hw 216 hw rfl)) (mvT hZ (own_hw 215 hw rfl)) (by decide) (backOf (W := 0) (rm_isInput l Z a0 hw [] a_INPUT_BIT a_OUTPUT_BIT a_OUTPUT_WORD a_INPUT_WORD a_MEMORY_WORD p_INPUT_BIT v_INPUT_BIT p_OUTPUT_WORD v_OUTPUT_WORD p_OUTPUT_BIT v_OUTPUT_BIT p_MEMORY_WORD v_MEMORY_WORD p_INPUT_WORD v_INPUT_WORD a_DigitOnes k_INPUT_BIT k_OUTPUT_WORD k_OUTPUT_BIT k_MEMORY_WORD k_INPUT_WORD ucs uff a_OUTPUT_WORD h44 n0 (own_old_le O44) O44 HW) hZ (own_hw 217 hw rfl) (own_hw 6 hw rfl) (by decide) (by decide)) qa46 qc46 (g := (mkF m 69 #[VI ua, VI 3, VR a_OUTPUT_WORD, VR r0_N38, VI 1, VI 1] [(.ref a_OUTPUT_WORD)])) rfl (by rw [hml]; rfl) (Steps.refl _) (argsL := []) (rest := []) (lenOf pd_0___Z rfl) rfl (by show 2 * 0 + _ ≤ _; exact Nat.le_of_eq rfl) (hb hby at_69) (fun _ _ => ⟨rfl, e45, (by decide : 5 + 0 ≤ _), (by decide : 30 + 0 ≤ _)⟩)
    dsimp only [Pt.U, Pt.locs, Pt.cells, Pt.slots] at X46 l46 y46 z46 st46 hQ46
    subst l46 y46 z46
    obtain ⟨rfl, N46, e46⟩ := hQ46
    refine own_by (B := T46.setTop (mkF m 72 #[VI ua, VI 3, VR a_OUTPUT_WORD, VR r0_N38, VI 1, VI 1] [(.int (own_isInput a_OUTPUT_WORD a_INPUT_BIT a_INPUT_WORD))])) (fun _ k => st46.trans k) ?_
    have M46 := Fr.app M45 N46
    rw [show (own_isInput a_OUTPUT_WORD a_INPUT_BIT a_INPUT_WORD) = (0 : Int32) from by unfold own_isInput; rw [if_neg (Fld.ne F_OUTPUT_WORD_ordinal F_INPUT_BIT_ordinal (by decide)), if_neg (Fld.ne F_OUTPUT_WORD_ordinal F_INPUT_WORD_ordinal (by decide))]]
    refine own_by (B := T46.setTop (mkF m 75 #[VI ua, VI 3, VR a_OUTPUT_WORD, VR r0_N38, VI 1, VI 1] [])) (fun _ k => XS.ifNo X46.here hx rfl (hb hby at_72) rfl (XT.i0_ne_f (by decide)) k) ?_
    refine own_by (B := T46.setTop (mkF m 76 #[VI ua, VI 3, VR a_OUTPUT_WORD, VR r0_N38, VI 1, VI 1] [(.int 1)])) (fun _ k => XS.iconst X46.here hx rfl (hb hby at_75) k) ?_
    refine own_by (B := T46.setTop (mkF m 80 #[VI ua, VI 3, VR a_OUTPUT_WORD, VR r0_N38, VI 1, VI 1] [(.int 1)])) (fun _ k => XS.goto X46.here hx rfl (pc0 := 76) (pc' := 80) rfl (hb hby at_76) (by decide) (by decide) k) ?_
    exact own_retZL (s := s) (vm1 := s.vm) X46 hx (k1 := 0) ((State.WarmedH.refl s).since 0) (Nat.zero_le _) hrt hlk rfl (hb hby at_80) (by decide) (by decide) ⟨rfl, M46⟩
  · refine own_by (B := s₁.setTop (mkF m 8 #[VI ua, VI 4, UU, UU, UU, UU] [(.int 4)])) (fun _ k => XS.iloadN X0.here hx rfl (hb hby at_7) rfl  k) ?_
    obtain ⟨_, _, ⟨T47, L47, k47, n47⟩, -, X47, ⟨Lc47, hQ47, l47, y47, z47⟩, st47⟩ := Jvm.LawKit.callS X0 hx (y := (⟨"com/example/hotrung/hotrung/image/AreaIsOutputPinLaw", "pick", "(I)Lcom/example/hotrung/hotrung/image/Address$Area;"⟩ : MethodName)) hown (mvT hZ (own_hw 1 hw rfl)) (mvT hZ (own_hw 2 hw rfl)) (mvT hZ (own_hw 3 hw rfl)) (mvT hZ (own_hw 4 hw rfl)) (by decide) (backOf (W := 0) (rm_pick l Z a0 hw [] a_INPUT_BIT a_OUTPUT_BIT a_OUTPUT_WORD a_INPUT_WORD a_MEMORY_WORD p_INPUT_BIT v_INPUT_BIT p_OUTPUT_WORD v_OUTPUT_WORD p_OUTPUT_BIT v_OUTPUT_BIT p_MEMORY_WORD v_MEMORY_WORD p_INPUT_WORD v_INPUT_WORD a_DigitOnes k_INPUT_BIT k_OUTPUT_WORD k_OUTPUT_BIT k_MEMORY_WORD k_INPUT_WORD ucs uff (4 : Int32) h0 n0 (own_old_le O0) O0 HW) hZ (own_hw 4 hw rfl) (own_hw 3 hw rfl) (by decide) (by decide)) (g := (mkF m 8 #[VI ua, VI 4, UU, UU, UU, UU] [(.int 4)])) rfl (by rw [hml]; rfl) (argsL := [(.int 4)]) (rest := []) (lenOf pd_0__I_Lcom_example_hotrung_hotrung_image_Address_Area_ rfl) rfl (by show 2 * 0 + _ ≤ _; exact Nat.le_of_eq rfl) (hb hby at_8) (fun _ _ => ⟨rfl, e0, (by decide : 0 + 0 ≤ _), (by decide : 0 + 0 ≤ _)⟩)
    dsimp only [Pt.U, Pt.locs, Pt.cells, Pt.slots] at X47 l47 y47 z47 st47 hQ47
    subst l47 y47 z47
    obtain ⟨rfl, N47, e47⟩ := hQ47
    refine own_by (B := T47.setTop (mkF m 11 #[VI ua, VI 4, UU, UU, UU, UU] [(.ref (own_pick (4 : Int32) a_INPUT_BIT a_OUTPUT_BIT a_INPUT_WORD a_OUTPUT_WORD a_MEMORY_WORD))])) st47 ?_
    have M47 := Fr.app N0 N47
    rw [show (own_pick (4 : Int32) a_INPUT_BIT a_OUTPUT_BIT a_INPUT_WORD a_OUTPUT_WORD a_MEMORY_WORD) = a_MEMORY_WORD from by unfold own_pick; rw [if_neg (by decide), if_neg (by decide), if_neg (by decide), if_neg (by decide)]]
    refine own_by (B := T47.setTop (mkF m 12 #[VI ua, VI 4, VR a_MEMORY_WORD, UU, UU, UU] [])) (fun _ k => XS.astoreN X47.here hx rfl (hb hby at_11) rfl rfl (l' := #[VI ua, VI 4, VR a_MEMORY_WORD, UU, UU, UU]) rfl k) ?_
    obtain ⟨T48, h48, X48, e48, E48, A48, D48, -, st48⟩ := newO X47 hx hZ hown (own_hw 8 hw rfl) (own_hw 9 hw rfl) (own_hw 10 hw rfl) e47 (g := (mkF m 12 #[VI ua, VI 4, VR a_MEMORY_WORD, UU, UU, UU] [])) rfl (hb hby at_12) (by decide) (by decide)
    obtain ⟨b48, g48⟩ : ∃ z, z = h0.size := ⟨_, rfl⟩
    rw [← g48] at A48 D48 st48
    have sz48 := E48.1
    have gn48 : n0 ≤ b48 := g48 ▸ own_old_le O0
    have fz48 : h0.size ≤ b48 := g48 ▸ K0.1
    have lt48 := own_lt A48.lt
    have O48 := O0.ext E48
    have K48 := K0.ext E48
    have F48_area : Fld Z h48 b48 "com/example/hotrung/hotrung/image/Address" "area" "Lcom/example/hotrung/hotrung/image/Address$Area;" .null := D48 (Or.inr (own_hw 23 hw rfl)) (ty := (.object "com/example/hotrung/hotrung/image/Address$Area")) (by decide)
    have F48_cell : Fld Z h48 b48 "com/example/hotrung/hotrung/image/Address" "cell" "I" (.int 0) := D48 (Or.inr (own_hw 25 hw rfl)) (ty := .int) (by decide)
    refine own_by (B := T48.setTop (mkF m 15 #[VI ua, VI 4, VR a_MEMORY_WORD, UU, UU, UU] [(.ref b48)])) st48 ?_
    refine own_by (B := T48.setTop (mkF m 16 #[VI ua, VI 4, VR a_MEMORY_WORD, UU, UU, UU] [(.ref b48), (.ref b48)])) (fun _ k => XS.dup X48.here hx rfl (hb hby at_15) rfl rfl k) ?_
    refine own_by (B := T48.setTop (mkF m 17 #[VI ua, VI 4, VR a_MEMORY_WORD, UU, UU, UU] [(.ref a_MEMORY_WORD), (.ref b48), (.ref b48)])) (fun _ k => XS.aloadN X48.here hx rfl (hb hby at_16) rfl rfl  k) ?_
    refine own_by (B := T48.setTop (mkF m 18 #[VI ua, VI 4, VR a_MEMORY_WORD, UU, UU, UU] [(.int 0), (.ref a_MEMORY_WORD), (.ref b48), (.ref b48)])) (fun _ k => XS.iconst X48.here hx rfl (hb hby at_17) k) ?_
    obtain ⟨_, _, ⟨T49, L49, k49, n49⟩, -, X49, ⟨Lc49, hQ49, l49, y49, z49⟩, st49⟩ := X48.specialBack hx (y := (⟨"com/example/hotrung/hotrung/image/Address", "<init>", "(Lcom/example/hotrung/hotrung/image/Address$Area;I)V"⟩ : MethodName)) rfl hown (mvT hZ (own_hw 11 hw rfl)) (mvT hZ (own_hw 12 hw rfl)) (mvT hZ (own_hw 13 hw rfl)) (by decide) (backOf (W := 1) (rmAd l Z a0 hw [] b48 a_MEMORY_WORD (0 : Int32) h48 n0 (own_old_le O48) O48 A48 F48_area F48_cell gn48) hZ (own_hw 13 hw rfl) (own_hw 10 hw rfl) (by decide) (by decide)) (g := (mkF m 18 #[VI ua, VI 4, VR a_MEMORY_WORD, UU, UU, UU] [(.int 0), (.ref a_MEMORY_WORD), (.ref b48), (.ref b48)])) rfl (by rw [hml]; rfl) (Steps.refl _) (a := b48) (argsL := [(.ref a_MEMORY_WORD), (.int 0)]) (rest := [(.ref b48)]) (lenOf pd_0__Lcom_example_hotrung_hotrung_image_Address_Area_I_V rfl) rfl (by show 2 * 0 + _ ≤ _; exact Nat.le_of_eq rfl) (hb hby at_18) (fun _ _ => ⟨rfl, e48, (by decide : 1 + 0 ≤ _), (by decide : 2 + 0 ≤ _)⟩)
    dsimp only [Pt.U, Pt.locs, Pt.cells, Pt.slots] at X49 l49 y49 z49 st49 hQ49
    subst l49 y49 z49
    obtain ⟨rfl, NC49, KC49, EC49, FC49_0, FC49_1⟩ := hQ49
    refine own_by (B := T49.setTop (mkF m 21 #[VI ua, VI 4, VR a_MEMORY_WORD, UU, UU, UU] [(.ref b48)])) (fun _ k => st49.trans k) ?_
    obtain ⟨h49, e49⟩ : ∃ z, T49.heap = z := ⟨_, rfl⟩
    rw [e49] at KC49 EC49 FC49_0 FC49_1
    have sz49 := KC49.1
    have O49 := O48.keep KC49 (allS gn48 all0)
    have K49 := K48.trans KC49 (allS (Or.inr fz48) all0)
    have N49 := Fr.app M47 NC49
    obtain ⟨cq50, kq50, qa50, qb50, qc50⟩ := isOf hZ e49 EC49
    obtain ⟨_, _, ⟨T50, L50, k50, n50⟩, -, X50, ⟨Lc50, hQ50, l50, y50, z50⟩, st50⟩ := X49.virtualBack hx (y := (⟨"com/example/hotrung/hotrung/image/Address", "toString", "()Ljava/lang/String;"⟩ : MethodName)) (z := (⟨"com/example/hotrung/hotrung/image/Address", "toString", "()Ljava/lang/String;"⟩ : MethodName)) hown (mvT hZ (own_hw 26 hw rfl)) (mvT hZ (own_hw 27 hw rfl)) (notFace_of_selects (args := #[]) (mvT hZ (own_hw 29 hw rfl))) (mvT hZ (own_hw 29 hw rfl)) (mvT hZ (own_hw 28 hw rfl)) (by decide) (backOf (W := 0) (rmToMEMORY_WORD l Z a0 hw [] a_INPUT_BIT a_OUTPUT_BIT a_OUTPUT_WORD a_INPUT_WORD a_MEMORY_WORD p_INPUT_BIT v_INPUT_BIT p_OUTPUT_WORD v_OUTPUT_WORD p_OUTPUT_BIT v_OUTPUT_BIT p_MEMORY_WORD v_MEMORY_WORD p_INPUT_WORD v_INPUT_WORD a_DigitOnes k_INPUT_BIT k_OUTPUT_WORD k_OUTPUT_BIT k_MEMORY_WORD k_INPUT_WORD ucs uff b48 h49 n0 (own_old_le O49) O49 HW EC49 FC49_0 FC49_1) hZ (own_hw 30 hw rfl) (own_hw 10 hw rfl) (by decide) (by decide)) qa50 qc50 (g := (mkF m 21 #[VI ua, VI 4, VR a_MEMORY_WORD, UU, UU, UU] [(.ref b48)])) rfl (by rw [hml]; rfl) (Steps.refl _) (argsL := []) (rest := []) (lenOf pd_0___Ljava_lang_String_ rfl) rfl (by show 2 * 0 + _ ≤ _; exact Nat.le_of_eq rfl) (hb hby at_21) (fun _ _ => ⟨rfl, e49, (by decide : 1 + 4 ≤ _), (by decide : 2 + 28 ≤ _)⟩)
    dsimp only [Pt.U, Pt.locs, Pt.cells, Pt.slots] at X50 l50 y50 z50 st50 hQ50
    subst l50 y50 z50
    obtain ⟨r0_N50, r1_N50, kr0_N50, rfl, NC50, KC50, hb0_N50, hb1_N50, Q0_N50, Q1_N50, Q2_N50, Q3_N50⟩ := hQ50
    refine own_by (B := T50.setTop (mkF m 24 #[VI ua, VI 4, VR a_MEMORY_WORD, UU, UU, UU] [(.ref r0_N50)])) (fun _ k => st50.trans k) ?_
    have gnr0_N50 : n0 ≤ r0_N50 := Nat.le_trans (own_old_le O49) hb0_N50
    have fzr0_N50 : h0.size ≤ r0_N50 := Nat.le_trans K49.1 hb0_N50
    have gnr1_N50 : n0 ≤ r1_N50 := Nat.le_trans (own_old_le O49) hb1_N50
    have fzr1_N50 : h0.size ≤ r1_N50 := Nat.le_trans K49.1 hb1_N50
    obtain ⟨h50, e50⟩ : ∃ z, T50.heap = z := ⟨_, rfl⟩
    rw [e50] at KC50 Q0_N50 Q1_N50 Q2_N50 Q3_N50
    have sz50 := KC50.1
    have O50 := O49.keep KC50 all0
    have K50 := K49.trans KC50 all0
    have N50 := Fr.app N49 NC50
    have ltq0_50 := own_lt Q0_N50.lt
    have ltq3_50 := own_lt Q3_N50.lt
    refine own_by (B := T50.setTop (mkF m 25 #[VI ua, VI 4, VR a_MEMORY_WORD, VR r0_N50, UU, UU] [])) (fun _ k => XS.astoreN X50.here hx rfl (hb hby at_24) rfl rfl (l' := #[VI ua, VI 4, VR a_MEMORY_WORD, VR r0_N50, UU, UU]) rfl k) ?_
    refine own_by (B := T50.setTop (mkF m 26 #[VI ua, VI 4, VR a_MEMORY_WORD, VR r0_N50, UU, UU] [(.ref r0_N50)])) (fun _ k => XS.aloadN X50.here hx rfl (hb hby at_25) rfl rfl  k) ?_
    obtain ⟨cq51, kq51, qa51, qb51, qc51⟩ := isOf hZ e50 Q0_N50
    obtain ⟨_, _, ⟨T51, L51, k51, n51⟩, -, X51, ⟨Lc51, hQ51, l51, y51, z51⟩, st51⟩ := X50.virtualBack hx (y := (⟨"java/lang/String", "length", "()I"⟩ : MethodName)) (z := (⟨"java/lang/String", "length", "()I"⟩ : MethodName)) hown (mvT hZ (own_hw 180 hw rfl)) (mvT hZ (own_hw 70 hw rfl)) (notFace_of_selects (args := #[]) (mvT hZ (own_hw 72 hw rfl))) (mvT hZ (own_hw 72 hw rfl)) (mvT hZ (own_hw 71 hw rfl)) (by decide) (backOf (W := 0) (rmLen4 l Z a0 hw [] a_INPUT_BIT a_OUTPUT_BIT a_OUTPUT_WORD a_INPUT_WORD a_MEMORY_WORD p_INPUT_BIT v_INPUT_BIT p_OUTPUT_WORD v_OUTPUT_WORD p_OUTPUT_BIT v_OUTPUT_BIT p_MEMORY_WORD v_MEMORY_WORD p_INPUT_WORD v_INPUT_WORD a_DigitOnes k_INPUT_BIT k_OUTPUT_WORD k_OUTPUT_BIT k_MEMORY_WORD k_INPUT_WORD ucs uff r0_N50 r1_N50 kr0_N50 (37 : Int32) (77 : Int32) (87 : Int32) (nar .byte (48 : Int32)) h50 n0 (own_old_le O50) O50 HW Q0_N50 Q1_N50 Q2_N50 Q3_N50) hZ (own_hw 73 hw rfl) (own_hw 51 hw rfl) (by decide) (by decide)) qa51 qc51 (g := (mkF m 26 #[VI ua, VI 4, VR a_MEMORY_WORD, VR r0_N50, UU, UU] [(.ref r0_N50)])) rfl (by rw [hml]; rfl) (Steps.refl _) (argsL := []) (rest := []) (lenOf pd_0___I rfl) rfl (by show 2 * 0 + _ ≤ _; exact Nat.le_of_eq rfl) (hb hby at_26) (fun _ _ => ⟨rfl, e50, (by decide : 5 + 0 ≤ _), (by decide : 30 + 0 ≤ _)⟩)
    dsimp only [Pt.U, Pt.locs, Pt.cells, Pt.slots] at X51 l51 y51 z51 st51 hQ51
    subst l51 y51 z51
    obtain ⟨rfl, NC51, KC51⟩ := hQ51
    refine own_by (B := T51.setTop (mkF m 29 #[VI ua, VI 4, VR a_MEMORY_WORD, VR r0_N50, UU, UU] [(.int 4)])) (fun _ k => st51.trans k) ?_
    obtain ⟨h51, e51⟩ : ∃ z, T51.heap = z := ⟨_, rfl⟩
    rw [e51] at KC51
    have sz51 := KC51.1
    have O51 := O50.keep KC51 all0
    have K51 := K50.trans KC51 all0
    have N51 := Fr.app N50 NC51
    refine own_by (B := T51.setTop (mkF m 30 #[VI ua, VI 4, VR a_MEMORY_WORD, VR r0_N50, UU, UU] [(.int 1), (.int 4)])) (fun _ k => XS.iconst X51.here hx rfl (hb hby at_29) k) ?_
    refine own_by (B := T51.setTop (mkF m 33 #[VI ua, VI 4, VR a_MEMORY_WORD, VR r0_N50, UU, UU] [])) (fun _ k => XS.icmpNo X51.here hx rfl (hb hby at_30) rfl (XT.ii_le_f (by decide)) k) ?_
    refine own_by (B := T51.setTop (mkF m 34 #[VI ua, VI 4, VR a_MEMORY_WORD, VR r0_N50, UU, UU] [(.ref r0_N50)])) (fun _ k => XS.aloadN X51.here hx rfl (hb hby at_33) rfl rfl  k) ?_
    refine own_by (B := T51.setTop (mkF m 35 #[VI ua, VI 4, VR a_MEMORY_WORD, VR r0_N50, UU, UU] [(.int 1), (.ref r0_N50)])) (fun _ k => XS.iconst X51.here hx rfl (hb hby at_34) k) ?_
    have c52 := (Q0_N50.keep KC51)
    have c53 := (Q1_N50.keep KC51 nin0)
    have c54 := (Q2_N50.keep KC51 nin0)
    have c55 := (Q3_N50.keep KC51 nin0)
    obtain ⟨cq56, kq56, qa56, qb56, qc56⟩ := isOf hZ e51 c52
    obtain ⟨_, _, ⟨T56, L56, k56, n56⟩, -, X56, ⟨Lc56, hQ56, l56, y56, z56⟩, st56⟩ := X51.virtualBack hx (y := (⟨"java/lang/String", "charAt", "(I)C"⟩ : MethodName)) (z := (⟨"java/lang/String", "charAt", "(I)C"⟩ : MethodName)) hown (mvT hZ (own_hw 181 hw rfl)) (mvT hZ (own_hw 182 hw rfl)) (notFace_of_selects (args := #[]) (mvT hZ (own_hw 184 hw rfl))) (mvT hZ (own_hw 184 hw rfl)) (mvT hZ (own_hw 183 hw rfl)) (by decide) (backOf (W := 0) (rmCa4_77 l Z a0 hw [] a_INPUT_BIT a_OUTPUT_BIT a_OUTPUT_WORD a_INPUT_WORD a_MEMORY_WORD p_INPUT_BIT v_INPUT_BIT p_OUTPUT_WORD v_OUTPUT_WORD p_OUTPUT_BIT v_OUTPUT_BIT p_MEMORY_WORD v_MEMORY_WORD p_INPUT_WORD v_INPUT_WORD a_DigitOnes k_INPUT_BIT k_OUTPUT_WORD k_OUTPUT_BIT k_MEMORY_WORD k_INPUT_WORD ucs uff r0_N50 r1_N50 kr0_N50 (37 : Int32) (87 : Int32) (nar .byte (48 : Int32)) h51 n0 (own_old_le O51) O51 HW c52 c53 c54 c55) hZ (own_hw 185 hw rfl) (own_hw 51 hw rfl) (by decide) (by decide)) qa56 qc56 (g := (mkF m 35 #[VI ua, VI 4, VR a_MEMORY_WORD, VR r0_N50, UU, UU] [(.int 1), (.ref r0_N50)])) rfl (by rw [hml]; rfl) (Steps.refl _) (argsL := [(.int 1)]) (rest := []) (lenOf pd_0__I_C rfl) rfl (by show 2 * 0 + _ ≤ _; exact Nat.le_of_eq rfl) (hb hby at_35) (fun _ _ => ⟨rfl, e51, (by decide : 5 + 0 ≤ _), (by decide : 30 + 0 ≤ _)⟩)
    dsimp only [Pt.U, Pt.locs, Pt.cells, Pt.slots] at X56 l56 y56 z56 st56 hQ56
    subst l56 y56 z56
    obtain ⟨rfl, NC56, KC56⟩ := hQ56
    refine own_by (B := T56.setTop (mkF m 38 #[VI ua, VI 4, VR a_MEMORY_WORD, VR r0_N50, UU, UU] [(.int 77)])) (fun _ k => st56.trans k) ?_
    obtain ⟨h56, e56⟩ : ∃ z, T56.heap = z := ⟨_, rfl⟩
    rw [e56] at KC56
    have sz56 := KC56.1
    have O56 := O51.keep KC56 all0
    have K56 := K51.trans KC56 all0
    have N56 := Fr.app N51 NC56
    refine own_by (B := T56.setTop (mkF m 40 #[VI ua, VI 4, VR a_MEMORY_WORD, VR r0_N50, UU, UU] [(.int 81), (.int 77)])) (fun _ k => XS.bipush X56.here hx rfl (hb hby at_38) k) ?_
    refine own_by (B := T56.setTop (mkF m 47 #[VI ua, VI 4, VR a_MEMORY_WORD, VR r0_N50, UU, UU] [])) (fun _ k => XS.icmpYes X56.here hx rfl (pc0 := 40) (pc' := 47) rfl (hb hby at_40) rfl (XT.ii_ne_t (by decide)) (by decide) (by decide) k) ?_
    refine own_by (B := T56.setTop (mkF m 48 #[VI ua, VI 4, VR a_MEMORY_WORD, VR r0_N50, UU, UU] [(.int 0)])) (fun _ k => XS.iconst X56.here hx rfl (hb hby at_47) k) ?_
    refine own_by (B := T56.setTop (mkF m 50 #[VI ua, VI 4, VR a_MEMORY_WORD, VR r0_N50, VI 0, UU] [])) (fun _ k => XS.istore X56.here hx rfl (hb hby at_48) rfl (l' := #[VI ua, VI 4, VR a_MEMORY_WORD, VR r0_N50, VI 0, UU]) rfl k) ?_
    refine own_by (B := T56.setTop (mkF m 51 #[VI ua, VI 4, VR a_MEMORY_WORD, VR r0_N50, VI 0, UU] [(.ref a_MEMORY_WORD)])) (fun _ k => XS.aloadN X56.here hx rfl (hb hby at_50) rfl rfl  k) ?_
    obtain ⟨cq57, kq57, qa57, qb57, qc57⟩ := isOf hZ e56 (E_MEMORY_WORD.ext O56.2)
    obtain ⟨_, _, ⟨T57, L57, k57, n57⟩, -, X57, ⟨Lc57, hQ57, l57, y57, z57⟩, st57⟩ := X56.virtualBack hx (y := (⟨"com/example/hotrung/hotrung/image/Address$Area", "isOutput", "()Z"⟩ : MethodName)) (z := (⟨"com/example/hotrung/hotrung/image/Address$Area", "isOutput", "()Z"⟩ : MethodName)) hown (mvT hZ (own_hw 203 hw rfl)) (mvT hZ (own_hw 204 hw rfl)) (notFace_of_selects (args := #[]) (mvT hZ (own_hw 206 hw rfl))) (mvT hZ (own_hw 206 hw rfl)) (mvT hZ (own_hw 205 hw rfl)) (by decide) (backOf (W := 0) (rm_isOutput l Z a0 hw [] a_INPUT_BIT a_OUTPUT_BIT a_OUTPUT_WORD a_INPUT_WORD a_MEMORY_WORD p_INPUT_BIT v_INPUT_BIT p_OUTPUT_WORD v_OUTPUT_WORD p_OUTPUT_BIT v_OUTPUT_BIT p_MEMORY_WORD v_MEMORY_WORD p_INPUT_WORD v_INPUT_WORD a_DigitOnes k_INPUT_BIT k_OUTPUT_WORD k_OUTPUT_BIT k_MEMORY_WORD k_INPUT_WORD ucs uff a_MEMORY_WORD h56 n0 (own_old_le O56) O56 HW) hZ (own_hw 207 hw rfl) (own_hw 6 hw rfl) (by decide) (by decide)) qa57 qc57 (g := (mkF m 51 #[VI ua, VI 4, VR a_MEMORY_WORD, VR r0_N50, VI 0, UU] [(.ref a_MEMORY_WORD)])) rfl (by rw [hml]; rfl) (Steps.refl _) (argsL := []) (rest := []) (lenOf pd_0___Z rfl) rfl (by show 2 * 0 + _ ≤ _; exact Nat.le_of_eq rfl) (hb hby at_51) (fun _ _ => ⟨rfl, e56, (by decide : 5 + 0 ≤ _), (by decide : 30 + 0 ≤ _)⟩)
    dsimp only [Pt.U, Pt.locs, Pt.cells, Pt.slots] at X57 l57 y57 z57 st57 hQ57
    subst l57 y57 z57
    obtain ⟨rfl, N57, e57⟩ := hQ57
    refine own_by (B := T57.setTop (mkF m 54 #[VI ua, VI 4, VR a_MEMORY_WORD, VR r0_N50, VI 0, UU] [(.int (own_isOutput a_MEMORY_WORD a_OUTPUT_BIT a_OUTPUT_WORD))])) (fun _ k => st57.trans k) ?_
    have M57 := Fr.app N56 N57
    rw [show (own_isOutput a_MEMORY_WORD a_OUTPUT_BIT a_OUTPUT_WORD) = (0 : Int32) from by unfold own_isOutput; rw [if_neg (Fld.ne F_MEMORY_WORD_ordinal F_OUTPUT_BIT_ordinal (by decide)), if_neg (Fld.ne F_MEMORY_WORD_ordinal F_OUTPUT_WORD_ordinal (by decide))]]
    refine own_by (B := T57.setTop (mkF m 56 #[VI ua, VI 4, VR a_MEMORY_WORD, VR r0_N50, VI 0, VI 0] [])) (fun _ k => XS.istore X57.here hx rfl (hb hby at_54) rfl (l' := #[VI ua, VI 4, VR a_MEMORY_WORD, VR r0_N50, VI 0, VI 0]) rfl k) ?_
    refine own_by (B := T57.setTop (mkF m 58 #[VI ua, VI 4, VR a_MEMORY_WORD, VR r0_N50, VI 0, VI 0] [(.int 0)])) (fun _ k => XS.iload X57.here hx rfl (hb hby at_56) rfl  k) ?_
    refine own_by (B := T57.setTop (mkF m 60 #[VI ua, VI 4, VR a_MEMORY_WORD, VR r0_N50, VI 0, VI 0] [(.int 0), (.int 0)])) (fun _ k => XS.iload X57.here hx rfl (hb hby at_58) rfl  k) ?_
    refine own_by (B := T57.setTop (mkF m 63 #[VI ua, VI 4, VR a_MEMORY_WORD, VR r0_N50, VI 0, VI 0] [])) (fun _ k => XS.icmpNo X57.here hx rfl (hb hby at_60) rfl (XT.ii_ne_f (by decide)) k) ?_
    refine own_by (B := T57.setTop (mkF m 65 #[VI ua, VI 4, VR a_MEMORY_WORD, VR r0_N50, VI 0, VI 0] [(.int 0)])) (fun _ k => XS.iload X57.here hx rfl (hb hby at_63) rfl  k) ?_
    refine own_by (B := T57.setTop (mkF m 75 #[VI ua, VI 4, VR a_MEMORY_WORD, VR r0_N50, VI 0, VI 0] [])) (fun _ k => XS.ifYes X57.here hx rfl (pc0 := 65) (pc' := 75) rfl (hb hby at_65) rfl (XT.i0_eq_t (by decide)) (by decide) (by decide) k) ?_
    refine own_by (B := T57.setTop (mkF m 76 #[VI ua, VI 4, VR a_MEMORY_WORD, VR r0_N50, VI 0, VI 0] [(.int 1)])) (fun _ k => XS.iconst X57.here hx rfl (hb hby at_75) k) ?_
    refine own_by (B := T57.setTop (mkF m 80 #[VI ua, VI 4, VR a_MEMORY_WORD, VR r0_N50, VI 0, VI 0] [(.int 1)])) (fun _ k => XS.goto X57.here hx rfl (pc0 := 76) (pc' := 80) rfl (hb hby at_76) (by decide) (by decide) k) ?_
    exact own_retZL (s := s) (vm1 := s.vm) X57 hx (k1 := 0) ((State.WarmedH.refl s).since 0) (Nat.zero_le _) hrt hlk rfl (hb hby at_80) (by decide) (by decide) ⟨rfl, M57⟩

set_option maxRecDepth 65536 in
set_option maxHeartbeats 40000000 in
theorem comes_1 {Post : Tables → Env → Array Value → State → Outcome → State → Prop} (hpost : ∀ tb e args s v u, (limb_1_1.after args s (.returned v) u = true ∧ limb_1_2.after args s (.returned v) u = true ∧ True) → ReturnedEndW s (.returned v) u (Jvm.fieldLocs frame_1_writes args s ++ Jvm.arrayLocs frame_1_arrays args s ++ Jvm.staticLocs frame_1_statics s) 24 1216 → Post tb e args s (.returned v) u) :
    ArmFor flags0 classFile x code maxLocals ret World_1 tables_1 room_1 Calls_1 rest_1 Pre_1 Post := by
  intro l hfl _ _ p e ha hc hk s m args below hf hA hF happ hP
  obtain ⟨hcalls, hrest, hpre⟩ := hP
  obtain ⟨-, -, -, hnamed, -, -, -, hat⟩ := (Spec.applies_iff hf).mp happ
  obtain ⟨hg, hn⟩ := and_e (Cond.before_iff.mp (show (Jvm.Cond.and given_1 narrow_1).before args s = true from hpre))
  obtain ⟨hg1a, hg1b⟩ := and_e hg
  obtain ⟨w0, rfl⟩ : ∃ w0 : Value, args = #[w0] := by
    have hs : args.size = 1 := by simpa [Cond.value, given_1] using hg1a
    obtain ⟨L⟩ := args
    match L, hs with
    | [w0], _ => exact ⟨w0, rfl⟩
  have hw := fun d (hd : d ∈ tables_1) => atoms_spec (ws := Jvm.Cond.code x code maxLocals ret :: tables_1) hat d (List.mem_cons_of_mem _ hd)
  have hfit : Fit s := fun {y c} hc i hi => by
    obtain ⟨ha, rfl⟩ := Array.getElem?_eq_some_iff.mp hc
    have q := List.all_eq_true.mp ((Array.all_eq_true_iff_forall_mem.mp hF) _ (Array.getElem_mem ha)) i (List.mem_range.mpr hi)
    simpa [Array.getElem?_eq_getElem hi] using q
  obtain ⟨hsets, hown0⟩ := atoms_of _ (rest_1_c_eq ▸ (show rest_1_c.before _ s = true from hrest))
  have hr0 := Cond.before_iff.mp hown0
  obtain ⟨i0, ei0⟩ := is_v hg1b
  obtain rfl : w0 = (.int i0) := Option.some.inj ei0
  obtain ⟨hn1a, hn1b⟩ := and_e hn
  obtain ⟨hn2a, hn2b⟩ := and_e hn1b
  obtain ⟨hn3a, hn3b⟩ := and_e hn2b
  obtain ⟨hn4a, hn4b⟩ := and_e hn3b
  obtain ⟨hn5a, hn5b⟩ := and_e hn4b
  obtain ⟨hn6a, hn6b⟩ := and_e hn5b
  obtain ⟨hn7a, hn7b⟩ := and_e hn6b
  obtain ⟨hn8a, hn8b⟩ := and_e hn7b
  obtain ⟨hn9a, hn9b⟩ := and_e hn8b
  obtain ⟨hn10a, hn10b⟩ := and_e hn9b
  obtain ⟨hn11a, hn11b⟩ := and_e hn10b
  obtain ⟨hn12a, hn12b⟩ := and_e hn11b
  obtain ⟨hn13a, hn13b⟩ := and_e hn12b
  obtain ⟨hn14a, hn14b⟩ := and_e hn13b
  obtain ⟨hn15a, hn15b⟩ := and_e hn14b
  obtain ⟨hn16a, hn16b⟩ := and_e hn15b
  obtain ⟨hn17a, hn17b⟩ := and_e hn16b
  obtain ⟨hn18a, hn18b⟩ := and_e hn17b
  obtain ⟨hn19a, hn19b⟩ := and_e hn18b
  obtain ⟨hn20a, hn20b⟩ := and_e hn19b
  obtain ⟨hn21a, hn21b⟩ := and_e hn20b
  obtain ⟨hn22a, hn22b⟩ := and_e hn21b
  obtain ⟨hn23a, hn23b⟩ := and_e hn22b
  obtain ⟨hn24a, hn24b⟩ := and_e hn23b
  obtain ⟨hn25a, hn25b⟩ := and_e hn24b
  obtain ⟨hn26a, hn26b⟩ := and_e hn25b
  obtain ⟨hn27a, hn27b⟩ := and_e hn26b
  obtain ⟨hn28a, hn28b⟩ := and_e hn27b
  obtain ⟨hn29a, hn29b⟩ := and_e hn28b
  obtain ⟨hn30a, hn30b⟩ := and_e hn29b
  obtain ⟨hn31a, hn31b⟩ := and_e hn30b
  obtain ⟨hn32a, hn32b⟩ := and_e hn31b
  obtain ⟨hn33a, hn33b⟩ := and_e hn32b
  obtain ⟨hn34a, hn34b⟩ := and_e hn33b
  obtain ⟨hn35a, hn35b⟩ := and_e hn34b
  obtain ⟨hn36a, hn36b⟩ := and_e hn35b
  obtain ⟨hn37a, hn37b⟩ := and_e hn36b
  obtain ⟨hn38a, hn38b⟩ := and_e hn37b
  obtain ⟨hn39a, hn39b⟩ := and_e hn38b
  obtain ⟨hn40a, hn40b⟩ := and_e hn39b
  obtain ⟨hn41a, hn41b⟩ := and_e hn40b
  obtain ⟨hn42a, hn42b⟩ := and_e hn41b
  obtain ⟨hn43a, hn43b⟩ := and_e hn42b
  obtain ⟨hn44a, hn44b⟩ := and_e hn43b
  obtain ⟨hn45a, hn45b⟩ := and_e hn44b
  obtain ⟨hn46a, hn46b⟩ := and_e hn45b
  obtain ⟨hn47a, hn47b⟩ := and_e hn46b
  obtain ⟨hn48a, hn48b⟩ := and_e hn47b
  obtain ⟨hn49a, hn49b⟩ := and_e hn48b
  obtain ⟨a_INPUT_BIT, ev_INPUT_BIT⟩ := exa_v hn1a
  have E_INPUT_BIT : Exa s s.heap a_INPUT_BIT "com/example/hotrung/hotrung/image/Address$Area" := Exa.start ev_INPUT_BIT hn1a
  have S_INPUT_BIT : Sta s s.heap "com/example/hotrung/hotrung/image/Address$Area" "INPUT_BIT" "Lcom/example/hotrung/hotrung/image/Address$Area;" (.ref a_INPUT_BIT) := Sta.start ev_INPUT_BIT (Or.inr ⟨(own_hw 6 hw rfl), (own_hw 7 hw rfl)⟩)
  obtain ⟨a_OUTPUT_BIT, ev_OUTPUT_BIT⟩ := exa_v hn10a
  have E_OUTPUT_BIT : Exa s s.heap a_OUTPUT_BIT "com/example/hotrung/hotrung/image/Address$Area" := Exa.start ev_OUTPUT_BIT hn10a
  have S_OUTPUT_BIT : Sta s s.heap "com/example/hotrung/hotrung/image/Address$Area" "OUTPUT_BIT" "Lcom/example/hotrung/hotrung/image/Address$Area;" (.ref a_OUTPUT_BIT) := Sta.start ev_OUTPUT_BIT (Or.inr ⟨(own_hw 6 hw rfl), (own_hw 209 hw rfl)⟩)
  obtain ⟨a_OUTPUT_WORD, ev_OUTPUT_WORD⟩ := exa_v hn13a
  have E_OUTPUT_WORD : Exa s s.heap a_OUTPUT_WORD "com/example/hotrung/hotrung/image/Address$Area" := Exa.start ev_OUTPUT_WORD hn13a
  have S_OUTPUT_WORD : Sta s s.heap "com/example/hotrung/hotrung/image/Address$Area" "OUTPUT_WORD" "Lcom/example/hotrung/hotrung/image/Address$Area;" (.ref a_OUTPUT_WORD) := Sta.start ev_OUTPUT_WORD (Or.inr ⟨(own_hw 6 hw rfl), (own_hw 211 hw rfl)⟩)
  obtain ⟨a_INPUT_WORD, ev_INPUT_WORD⟩ := exa_v hn23a
  have E_INPUT_WORD : Exa s s.heap a_INPUT_WORD "com/example/hotrung/hotrung/image/Address$Area" := Exa.start ev_INPUT_WORD hn23a
  have S_INPUT_WORD : Sta s s.heap "com/example/hotrung/hotrung/image/Address$Area" "INPUT_WORD" "Lcom/example/hotrung/hotrung/image/Address$Area;" (.ref a_INPUT_WORD) := Sta.start ev_INPUT_WORD (Or.inr ⟨(own_hw 6 hw rfl), (own_hw 219 hw rfl)⟩)
  obtain ⟨a_MEMORY_WORD, ev_MEMORY_WORD⟩ := exa_v hn33a
  have E_MEMORY_WORD : Exa s s.heap a_MEMORY_WORD "com/example/hotrung/hotrung/image/Address$Area" := Exa.start ev_MEMORY_WORD hn33a
  have S_MEMORY_WORD : Sta s s.heap "com/example/hotrung/hotrung/image/Address$Area" "MEMORY_WORD" "Lcom/example/hotrung/hotrung/image/Address$Area;" (.ref a_MEMORY_WORD) := Sta.start ev_MEMORY_WORD (Or.inr ⟨(own_hw 6 hw rfl), (own_hw 222 hw rfl)⟩)
  have F_INPUT_BIT_ordinal : Fld s s.heap a_INPUT_BIT "java/lang/Enum" "ordinal" "I" (.int 0) := Fld.start ((fld_at ev_INPUT_BIT).symm.trans (eqv_i (Term.int_eval _) hn11a))
  have F_OUTPUT_BIT_ordinal : Fld s s.heap a_OUTPUT_BIT "java/lang/Enum" "ordinal" "I" (.int 1) := Fld.start ((fld_at ev_OUTPUT_BIT).symm.trans (eqv_i (Term.int_eval _) hn12a))
  have F_OUTPUT_WORD_ordinal : Fld s s.heap a_OUTPUT_WORD "java/lang/Enum" "ordinal" "I" (.int 3) := Fld.start ((fld_at ev_OUTPUT_WORD).symm.trans (eqv_i (Term.int_eval _) hn14a))
  have F_INPUT_WORD_ordinal : Fld s s.heap a_INPUT_WORD "java/lang/Enum" "ordinal" "I" (.int 2) := Fld.start ((fld_at ev_INPUT_WORD).symm.trans (eqv_i (Term.int_eval _) hn24a))
  have F_MEMORY_WORD_ordinal : Fld s s.heap a_MEMORY_WORD "java/lang/Enum" "ordinal" "I" (.int 4) := Fld.start ((fld_at ev_MEMORY_WORD).symm.trans (eqv_i (Term.int_eval _) hn34a))
  obtain ⟨p_INPUT_BIT, evp_INPUT_BIT⟩ := exa_v hn2a
  have E_p_INPUT_BIT : Exa s s.heap p_INPUT_BIT "java/lang/String" := Exa.start evp_INPUT_BIT hn2a
  have F_INPUT_BIT_prefix : Fld s s.heap a_INPUT_BIT "com/example/hotrung/hotrung/image/Address$Area" "prefix" "Ljava/lang/String;" (.ref p_INPUT_BIT) := Fld.start ((fld_at ev_INPUT_BIT).symm.trans evp_INPUT_BIT)
  obtain ⟨v_INPUT_BIT, evv_INPUT_BIT⟩ := arr_v hn3a
  have F_p_INPUT_BIT_value : Fld s s.heap p_INPUT_BIT "java/lang/String" "value" "[B" (.ref v_INPUT_BIT) := Fld.start ((fld_at evp_INPUT_BIT).symm.trans evv_INPUT_BIT)
  have F_p_INPUT_BIT_coder : Fld s s.heap p_INPUT_BIT "java/lang/String" "coder" "B" (.int 0) := Fld.start ((fld_at evp_INPUT_BIT).symm.trans (eqv_i (Term.int_eval _) hn6a))
  obtain ⟨clv_INPUT_BIT, Av_INPUT_BIT⟩ := Arr.start evv_INPUT_BIT hn3a
  obtain ⟨ltv_INPUT_BIT, szv_INPUT_BIT⟩ := own_len (eqv_i (Term.int_eval _) hn5a) evv_INPUT_BIT Av_INPUT_BIT
  have V_v_INPUT_BIT : Arv s s.heap v_INPUT_BIT clv_INPUT_BIT.cls .byte (3 : Int32) [(.int 37), (.int 73), (.int 88)] (.int 0) := Arv.start hfit Av_INPUT_BIT ltv_INPUT_BIT szv_INPUT_BIT (by decide) rfl ⟨(elem_in (eqv_i (Term.int_eval _) hn7a) evv_INPUT_BIT (Term.int_eval _) Av_INPUT_BIT.1).2, (elem_in (eqv_i (Term.int_eval _) hn8a) evv_INPUT_BIT (Term.int_eval _) Av_INPUT_BIT.1).2, (elem_in (eqv_i (Term.int_eval _) hn9a) evv_INPUT_BIT (Term.int_eval _) Av_INPUT_BIT.1).2, trivial⟩
  obtain ⟨p_OUTPUT_WORD, evp_OUTPUT_WORD⟩ := exa_v hn15a
  have E_p_OUTPUT_WORD : Exa s s.heap p_OUTPUT_WORD "java/lang/String" := Exa.start evp_OUTPUT_WORD hn15a
  have F_OUTPUT_WORD_prefix : Fld s s.heap a_OUTPUT_WORD "com/example/hotrung/hotrung/image/Address$Area" "prefix" "Ljava/lang/String;" (.ref p_OUTPUT_WORD) := Fld.start ((fld_at ev_OUTPUT_WORD).symm.trans evp_OUTPUT_WORD)
  obtain ⟨v_OUTPUT_WORD, evv_OUTPUT_WORD⟩ := arr_v hn16a
  have F_p_OUTPUT_WORD_value : Fld s s.heap p_OUTPUT_WORD "java/lang/String" "value" "[B" (.ref v_OUTPUT_WORD) := Fld.start ((fld_at evp_OUTPUT_WORD).symm.trans evv_OUTPUT_WORD)
  have F_p_OUTPUT_WORD_coder : Fld s s.heap p_OUTPUT_WORD "java/lang/String" "coder" "B" (.int 0) := Fld.start ((fld_at evp_OUTPUT_WORD).symm.trans (eqv_i (Term.int_eval _) hn19a))
  obtain ⟨clv_OUTPUT_WORD, Av_OUTPUT_WORD⟩ := Arr.start evv_OUTPUT_WORD hn16a
  obtain ⟨ltv_OUTPUT_WORD, szv_OUTPUT_WORD⟩ := own_len (eqv_i (Term.int_eval _) hn18a) evv_OUTPUT_WORD Av_OUTPUT_WORD
  have V_v_OUTPUT_WORD : Arv s s.heap v_OUTPUT_WORD clv_OUTPUT_WORD.cls .byte (3 : Int32) [(.int 37), (.int 81), (.int 87)] (.int 0) := Arv.start hfit Av_OUTPUT_WORD ltv_OUTPUT_WORD szv_OUTPUT_WORD (by decide) rfl ⟨(elem_in (eqv_i (Term.int_eval _) hn20a) evv_OUTPUT_WORD (Term.int_eval _) Av_OUTPUT_WORD.1).2, (elem_in (eqv_i (Term.int_eval _) hn21a) evv_OUTPUT_WORD (Term.int_eval _) Av_OUTPUT_WORD.1).2, (elem_in (eqv_i (Term.int_eval _) hn22a) evv_OUTPUT_WORD (Term.int_eval _) Av_OUTPUT_WORD.1).2, trivial⟩
  obtain ⟨p_OUTPUT_BIT, evp_OUTPUT_BIT⟩ := exa_v hn25a
  have E_p_OUTPUT_BIT : Exa s s.heap p_OUTPUT_BIT "java/lang/String" := Exa.start evp_OUTPUT_BIT hn25a
  have F_OUTPUT_BIT_prefix : Fld s s.heap a_OUTPUT_BIT "com/example/hotrung/hotrung/image/Address$Area" "prefix" "Ljava/lang/String;" (.ref p_OUTPUT_BIT) := Fld.start ((fld_at ev_OUTPUT_BIT).symm.trans evp_OUTPUT_BIT)
  obtain ⟨v_OUTPUT_BIT, evv_OUTPUT_BIT⟩ := arr_v hn26a
  have F_p_OUTPUT_BIT_value : Fld s s.heap p_OUTPUT_BIT "java/lang/String" "value" "[B" (.ref v_OUTPUT_BIT) := Fld.start ((fld_at evp_OUTPUT_BIT).symm.trans evv_OUTPUT_BIT)
  have F_p_OUTPUT_BIT_coder : Fld s s.heap p_OUTPUT_BIT "java/lang/String" "coder" "B" (.int 0) := Fld.start ((fld_at evp_OUTPUT_BIT).symm.trans (eqv_i (Term.int_eval _) hn29a))
  obtain ⟨clv_OUTPUT_BIT, Av_OUTPUT_BIT⟩ := Arr.start evv_OUTPUT_BIT hn26a
  obtain ⟨ltv_OUTPUT_BIT, szv_OUTPUT_BIT⟩ := own_len (eqv_i (Term.int_eval _) hn28a) evv_OUTPUT_BIT Av_OUTPUT_BIT
  have V_v_OUTPUT_BIT : Arv s s.heap v_OUTPUT_BIT clv_OUTPUT_BIT.cls .byte (3 : Int32) [(.int 37), (.int 81), (.int 88)] (.int 0) := Arv.start hfit Av_OUTPUT_BIT ltv_OUTPUT_BIT szv_OUTPUT_BIT (by decide) rfl ⟨(elem_in (eqv_i (Term.int_eval _) hn30a) evv_OUTPUT_BIT (Term.int_eval _) Av_OUTPUT_BIT.1).2, (elem_in (eqv_i (Term.int_eval _) hn31a) evv_OUTPUT_BIT (Term.int_eval _) Av_OUTPUT_BIT.1).2, (elem_in (eqv_i (Term.int_eval _) hn32a) evv_OUTPUT_BIT (Term.int_eval _) Av_OUTPUT_BIT.1).2, trivial⟩
  obtain ⟨p_MEMORY_WORD, evp_MEMORY_WORD⟩ := exa_v hn35a
  have E_p_MEMORY_WORD : Exa s s.heap p_MEMORY_WORD "java/lang/String" := Exa.start evp_MEMORY_WORD hn35a
  have F_MEMORY_WORD_prefix : Fld s s.heap a_MEMORY_WORD "com/example/hotrung/hotrung/image/Address$Area" "prefix" "Ljava/lang/String;" (.ref p_MEMORY_WORD) := Fld.start ((fld_at ev_MEMORY_WORD).symm.trans evp_MEMORY_WORD)
  obtain ⟨v_MEMORY_WORD, evv_MEMORY_WORD⟩ := arr_v hn36a
  have F_p_MEMORY_WORD_value : Fld s s.heap p_MEMORY_WORD "java/lang/String" "value" "[B" (.ref v_MEMORY_WORD) := Fld.start ((fld_at evp_MEMORY_WORD).symm.trans evv_MEMORY_WORD)
  have F_p_MEMORY_WORD_coder : Fld s s.heap p_MEMORY_WORD "java/lang/String" "coder" "B" (.int 0) := Fld.start ((fld_at evp_MEMORY_WORD).symm.trans (eqv_i (Term.int_eval _) hn39a))
  obtain ⟨clv_MEMORY_WORD, Av_MEMORY_WORD⟩ := Arr.start evv_MEMORY_WORD hn36a
  obtain ⟨ltv_MEMORY_WORD, szv_MEMORY_WORD⟩ := own_len (eqv_i (Term.int_eval _) hn38a) evv_MEMORY_WORD Av_MEMORY_WORD
  have V_v_MEMORY_WORD : Arv s s.heap v_MEMORY_WORD clv_MEMORY_WORD.cls .byte (3 : Int32) [(.int 37), (.int 77), (.int 87)] (.int 0) := Arv.start hfit Av_MEMORY_WORD ltv_MEMORY_WORD szv_MEMORY_WORD (by decide) rfl ⟨(elem_in (eqv_i (Term.int_eval _) hn40a) evv_MEMORY_WORD (Term.int_eval _) Av_MEMORY_WORD.1).2, (elem_in (eqv_i (Term.int_eval _) hn41a) evv_MEMORY_WORD (Term.int_eval _) Av_MEMORY_WORD.1).2, (elem_in (eqv_i (Term.int_eval _) hn42a) evv_MEMORY_WORD (Term.int_eval _) Av_MEMORY_WORD.1).2, trivial⟩
  obtain ⟨p_INPUT_WORD, evp_INPUT_WORD⟩ := exa_v hn43a
  have E_p_INPUT_WORD : Exa s s.heap p_INPUT_WORD "java/lang/String" := Exa.start evp_INPUT_WORD hn43a
  have F_INPUT_WORD_prefix : Fld s s.heap a_INPUT_WORD "com/example/hotrung/hotrung/image/Address$Area" "prefix" "Ljava/lang/String;" (.ref p_INPUT_WORD) := Fld.start ((fld_at ev_INPUT_WORD).symm.trans evp_INPUT_WORD)
  obtain ⟨v_INPUT_WORD, evv_INPUT_WORD⟩ := arr_v hn44a
  have F_p_INPUT_WORD_value : Fld s s.heap p_INPUT_WORD "java/lang/String" "value" "[B" (.ref v_INPUT_WORD) := Fld.start ((fld_at evp_INPUT_WORD).symm.trans evv_INPUT_WORD)
  have F_p_INPUT_WORD_coder : Fld s s.heap p_INPUT_WORD "java/lang/String" "coder" "B" (.int 0) := Fld.start ((fld_at evp_INPUT_WORD).symm.trans (eqv_i (Term.int_eval _) hn47a))
  obtain ⟨clv_INPUT_WORD, Av_INPUT_WORD⟩ := Arr.start evv_INPUT_WORD hn44a
  obtain ⟨ltv_INPUT_WORD, szv_INPUT_WORD⟩ := own_len (eqv_i (Term.int_eval _) hn46a) evv_INPUT_WORD Av_INPUT_WORD
  have V_v_INPUT_WORD : Arv s s.heap v_INPUT_WORD clv_INPUT_WORD.cls .byte (3 : Int32) [(.int 37), (.int 73), (.int 87)] (.int 0) := Arv.start hfit Av_INPUT_WORD ltv_INPUT_WORD szv_INPUT_WORD (by decide) rfl ⟨(elem_in (eqv_i (Term.int_eval _) hn48a) evv_INPUT_WORD (Term.int_eval _) Av_INPUT_WORD.1).2, (elem_in (eqv_i (Term.int_eval _) hn49a) evv_INPUT_WORD (Term.int_eval _) Av_INPUT_WORD.1).2, (elem_in (eqv_i (Term.int_eval _) hn49b) evv_INPUT_WORD (Term.int_eval _) Av_INPUT_WORD.1).2, trivial⟩
  obtain ⟨ucs, ev_CS⟩ := is_v (Cond.before_iff.mp (hsets _ (List.mem_of_getElem? (i := 1) rfl)))
  have S_CS : Sta s s.heap "java/lang/String" "COMPACT_STRINGS" "Z" (.int ucs) := Sta.start ev_CS (Or.inl (hsets _ (List.mem_of_getElem? (i := 0) rfl)))
  have H_CS : ¬ ucs = (0 : Int32) := own_ne0 ev_CS (not_v (Cond.before_iff.mp (hsets _ (List.mem_of_getElem? (i := 2) rfl))))
  obtain ⟨uff, ev_FF, H_FF⟩ := own_isRef (Cond.before_iff.mp (hsets _ (List.mem_of_getElem? (i := 8) rfl)))
  have S_FF : Sta s s.heap "jdk/internal/util/Preconditions" "SIOOBE_FORMATTER" "Ljava/util/function/BiFunction;" uff := Sta.start ev_FF (Or.inl (hsets _ (List.mem_of_getElem? (i := 7) rfl)))
  obtain ⟨a_DigitOnes, ev_DO⟩ := exa_v (Cond.before_iff.mp (hsets _ (List.mem_of_getElem? (i := 12) rfl)))
  have S_DigitOnes : Sta s s.heap "java/lang/Integer" "DigitOnes" "[B" (.ref a_DigitOnes) := Sta.start ev_DO (Or.inl (hsets _ (List.mem_of_getElem? (i := 11) rfl)))
  have H_DG : own_DG s s.heap a_DigitOnes := own_dig (fun _ => ev_DO) (Cond.before_iff.mp (hsets _ (List.mem_of_getElem? (i := 12) rfl))) (eqv_i (Term.int_eval _) (Cond.before_iff.mp (hsets _ (List.mem_of_getElem? (i := 13) rfl)))) (own_hw 52 hw rfl) (Cond.before_iff.mp (hsets _ (List.mem_of_getElem? (i := 14) rfl)))
  have hEL : EW s _ own_EL := EW.cons (own_hw 133 hw rfl) (by decide) EW.nil
  have hCH : CHv s own_EL s.vm s.heap := CHv.start hEL (fun q hq => hcalls.1 q hq) (hsets _ (List.mem_of_getElem? (i := 2) rfl)) (own_hw 52 hw rfl) (own_hw 134 hw rfl)
  obtain ⟨n, o, h1, h2, h3, _, L, rfl, ⟨rfl, N⟩, hq⟩ := rm0 l s _ hw tables_1 a_INPUT_BIT a_OUTPUT_BIT a_OUTPUT_WORD a_INPUT_WORD a_MEMORY_WORD p_INPUT_BIT v_INPUT_BIT p_OUTPUT_WORD v_OUTPUT_WORD p_OUTPUT_BIT v_OUTPUT_BIT p_MEMORY_WORD v_MEMORY_WORD p_INPUT_WORD v_INPUT_WORD a_DigitOnes clv_INPUT_BIT.cls clv_OUTPUT_WORD.cls clv_OUTPUT_BIT.cls clv_MEMORY_WORD.cls clv_INPUT_WORD.cls ucs uff i0 s.heap s.heap.size (Nat.le_refl _) (Old.start s) ⟨S_INPUT_BIT, E_INPUT_BIT, S_OUTPUT_BIT, E_OUTPUT_BIT, S_OUTPUT_WORD, E_OUTPUT_WORD, S_INPUT_WORD, E_INPUT_WORD, S_MEMORY_WORD, E_MEMORY_WORD, F_INPUT_BIT_ordinal, F_OUTPUT_BIT_ordinal, F_OUTPUT_WORD_ordinal, F_INPUT_WORD_ordinal, F_MEMORY_WORD_ordinal, E_p_INPUT_BIT, F_INPUT_BIT_prefix, F_p_INPUT_BIT_value, F_p_INPUT_BIT_coder, V_v_INPUT_BIT, E_p_OUTPUT_WORD, F_OUTPUT_WORD_prefix, F_p_OUTPUT_WORD_value, F_p_OUTPUT_WORD_coder, V_v_OUTPUT_WORD, E_p_OUTPUT_BIT, F_OUTPUT_BIT_prefix, F_p_OUTPUT_BIT_value, F_p_OUTPUT_BIT_coder, V_v_OUTPUT_BIT, E_p_MEMORY_WORD, F_MEMORY_WORD_prefix, F_p_MEMORY_WORD_value, F_p_MEMORY_WORD_coder, V_v_MEMORY_WORD, E_p_INPUT_WORD, F_INPUT_WORD_prefix, F_p_INPUT_WORD_value, F_p_INPUT_WORD_coder, V_v_INPUT_WORD, S_CS, H_CS, S_FF, H_FF, S_DigitOnes, H_DG⟩ p e ha hc hk s m _ below hf ((Spec.applies_iff_loose hf).mp happ).1 ⟨rfl, State.Warmed39.refl s, rfl, hCH⟩ trivial
  refine ⟨n, _, h1, h2, h3, hpost _ _ _ _ _ _ ⟨Cond.after_iff.mpr rfl, Cond.after_iff.mpr (eq_i res_at (Term.int_eval (1)) rfl), trivial⟩ ⟨hq.1, hq.2.1, hq.2.2.1, (hq.2.2.2.sift fun y hy => Or.inr (N y hy)).mono (by decide) (by decide)⟩⟩
theorem main_1_1 : Claimed_1_1 := comes_1 fun _ _ _ _ _ _ h hF => ⟨h.1, hF⟩
theorem main_1_2 : Claimed_1_2 := comes_1 fun _ _ _ _ _ _ h hF => ⟨h.2.1, hF⟩
end Jvm.Pilot.@@N@@
namespace Jvm.Pilot.@@N@@
open Jvm Jvm.ClassFile Sem Op Lib Jvm.Free Jvm.Stand Jvm.Pilot.@@N@@.Jvm.D
/-! MADE BY PROGRAM (witnessworld.py) out of the Statement's table words and the real class files: 28 classes; the members and pool entries that the words name. The judged class is class 1, her method 2. -/
namespace start1
open Jvm.ClassFile
def u (s : String) : CpInfo := .utf8 (stringToUtf16 s)
/-- a pool by its gaps: so many unusable entries, then the entry; so many at the end -/
def gap : Nat → List CpInfo → List CpInfo
  | 0, r => r
  | n + 1, r => .unusable :: gap n r
def poolList (es : List (Nat × CpInfo)) (last : Nat) : List CpInfo := es.foldr (fun e r => gap e.1 (e.2 :: r)) (gap last [])
def pool (es : List (Nat × CpInfo)) (last : Nat) : Array CpInfo := ⟨poolList es last⟩
def fileOf (pool : Array CpInfo) (this : Nat) (attrs : Array Attribute := #[]) (ms : Array MethodInfo := #[]) (fl : Nat := 33) (sup : Nat := 0) (ifs : Array Nat := #[]) (fds : Array FieldInfo := #[]) : ClassFile where
  minorVersion := 0
  majorVersion := 65
  constantPool := pool
  accessFlags := fl
  thisClass := this
  superClass := sup
  interfaces := ifs
  fields := fds
  methods := ms
  attributes := attrs
def plain (name : String) (sup : Option ClassId) : Class where
  name := name
  kind := .ordinary
  loader := none
  accessFlags := 33
  super := sup
  interfaces := #[]
  cf := none
  fields := #[]
  methods := #[]
  instanceTypes := #[]
  staticTypes := #[]
  resolved := #[]
  callSites := []
  init := .initialized
  statics := none
  mirror := none

def pool0 : Array CpInfo := pool [(5, u "<init>"), (0, u "()V"), (1, .class_ 10), (1, u "java/lang/Object")] 113

def k0c0 : Code := { maxStack := 0, maxLocals := 1, code := object_method_1_code, exceptionTable := #[], attributes := #[] }
def k0m0 : Method := { name := "<init>", desc := "()V", sig := { parameters := [], returnType := none }, accessFlags := 1, code := some k0c0 }
/-- java/lang/Object -/
def k0 : Class := { plain "java/lang/Object" none with
  accessFlags := 33
  interfaces := #[]
  cf := some (fileOf pool0 8 #[] #[{ accessFlags := 1, nameIndex := 5, descriptorIndex := 6, attributes := #[] }] 33 0 #[] #[])
  fields := #[]
  methods := #[k0m0]
  instanceTypes := #[]
  staticTypes := #[]
  resolved := Array.replicate 124 none
  statics := none }

def pool1 : Array CpInfo := pool [(2, .class_ 4), (1, u "java/lang/Object"), (0, u "<init>"), (0, u "()V"), (0, .fieldref 8 9), (0, .class_ 10), (0, .nameAndType 11 12), (0, u "com/example/hotrung/hotrung/image/Address$Area"), (0, u "INPUT_BIT"), (0, u "Lcom/example/hotrung/hotrung/image/Address$Area;"), (0, .fieldref 8 14), (0, .nameAndType 15 12), (0, u "OUTPUT_BIT"), (0, .fieldref 8 17), (0, .nameAndType 18 12), (0, u "INPUT_WORD"), (0, .fieldref 8 20), (0, .nameAndType 21 12), (0, u "OUTPUT_WORD"), (0, .fieldref 8 23), (0, .nameAndType 24 12), (0, u "MEMORY_WORD"), (0, .integer 2147483647), (0, .methodref 27 28), (0, .class_ 29), (0, .nameAndType 30 31), (0, u "com/example/hotrung/hotrung/image/AreaIsOutputPinLaw"), (0, u "pick"), (0, u "(I)Lcom/example/hotrung/hotrung/image/Address$Area;"), (0, .class_ 33), (0, u "com/example/hotrung/hotrung/image/Address"), (0, .methodref 32 35), (0, .nameAndType 5 36), (0, u "(Lcom/example/hotrung/hotrung/image/Address$Area;I)V"), (0, .methodref 32 38), (0, .nameAndType 39 40), (0, u "toString"), (0, u "()Ljava/lang/String;"), (0, .methodref 42 43), (0, .class_ 44), (0, .nameAndType 45 46), (0, u "java/lang/String"), (0, u "length"), (0, u "()I"), (0, .methodref 42 48), (0, .nameAndType 49 50), (0, u "charAt"), (0, u "(I)C"), (0, .methodref 8 52), (0, .nameAndType 53 54), (0, u "isOutput"), (0, u "()Z"), (0, .methodref 8 56), (0, .nameAndType 57 54), (0, u "isInput"), (3, u "law"), (0, u "(I)Z")] 4

def k1m0 : Method := { name := "<init>", desc := "()V", sig := { parameters := [], returnType := none }, accessFlags := 1, code := none }
def k1c1 : Code := { maxStack := 2, maxLocals := 1, code := method_2_code, exceptionTable := #[], attributes := #[] }
def k1m1 : Method := { name := "pick", desc := "(I)Lcom/example/hotrung/hotrung/image/Address$Area;", sig := { parameters := [.int], returnType := some (.object "com/example/hotrung/hotrung/image/Address$Area") }, accessFlags := 10, code := some k1c1 }
def k1c2 : Code := { maxStack := 4, maxLocals := 6, code := code, exceptionTable := #[], attributes := #[] }
def k1m2 : Method := { name := "law", desc := "(I)Z", sig := { parameters := [.int], returnType := some .boolean }, accessFlags := 9, code := some k1c2 }
/-- com/example/hotrung/hotrung/image/AreaIsOutputPinLaw -/
def k1 : Class := { plain "com/example/hotrung/hotrung/image/AreaIsOutputPinLaw" (some 0) with
  accessFlags := 49
  interfaces := #[]
  cf := some (fileOf pool1 27 #[] #[{ accessFlags := 1, nameIndex := 5, descriptorIndex := 6, attributes := #[] }, { accessFlags := 10, nameIndex := 30, descriptorIndex := 31, attributes := #[] }, { accessFlags := 9, nameIndex := 61, descriptorIndex := 62, attributes := #[] }] 49 2 #[] #[])
  fields := #[]
  methods := #[k1m0, k1m1, k1m2]
  instanceTypes := #[]
  staticTypes := #[]
  resolved := Array.replicate 67 none
  statics := none }

def pool2 : Array CpInfo := pool [(1, .class_ 2), (0, u "java/lang/constant/Constable"), (0, .class_ 4), (0, u "java/lang/Object")] 6

/-- java/lang/constant/Constable -/
def k2 : Class := { plain "java/lang/constant/Constable" (some 0) with
  accessFlags := 1537
  interfaces := #[]
  cf := some (fileOf pool2 1 #[] #[] 1537 3 #[] #[])
  fields := #[]
  methods := #[]
  instanceTypes := #[]
  staticTypes := #[]
  resolved := Array.replicate 11 none
  statics := none }

def pool3 : Array CpInfo := pool [(1, .class_ 2), (0, u "java/lang/Comparable"), (0, .class_ 4), (0, u "java/lang/Object")] 7

/-- java/lang/Comparable -/
def k3 : Class := { plain "java/lang/Comparable" (some 0) with
  accessFlags := 1537
  interfaces := #[]
  cf := some (fileOf pool3 1 #[] #[] 1537 3 #[] #[])
  fields := #[]
  methods := #[]
  instanceTypes := #[]
  staticTypes := #[]
  resolved := Array.replicate 12 none
  statics := none }

def pool4 : Array CpInfo := pool [(1, .class_ 2), (0, u "java/io/Serializable"), (0, .class_ 4), (0, u "java/lang/Object")] 2

/-- java/io/Serializable -/
def k4 : Class := { plain "java/io/Serializable" (some 0) with
  accessFlags := 1537
  interfaces := #[]
  cf := some (fileOf pool4 1 #[] #[] 1537 3 #[] #[])
  fields := #[]
  methods := #[]
  instanceTypes := #[]
  staticTypes := #[]
  resolved := Array.replicate 7 none
  statics := none }

def pool5 : Array CpInfo := pool [(2, .class_ 4), (1, u "java/lang/Enum"), (0, u "name"), (0, u "Ljava/lang/String;"), (2, u "ordinal"), (0, u "I"), (1, .class_ 14), (1, u "java/lang/Object"), (4, u "hash"), (86, .class_ 108), (1, u "java/lang/Enum$EnumDesc"), (2, .class_ 112), (0, u "java/lang/constant/Constable"), (0, .class_ 114), (0, u "java/lang/Comparable"), (0, .class_ 116), (0, u "java/io/Serializable")] 87

/-- java/lang/Enum -/
def k5 : Class := { plain "java/lang/Enum" (some 0) with
  accessFlags := 1057
  interfaces := #[2, 3, 4]
  cf := some (fileOf pool5 2 #[.nestMembers #[106]] #[] 1057 12 #[111, 113, 115] #[{ accessFlags := 18, nameIndex := 5, descriptorIndex := 6, attributes := #[] }, { accessFlags := 18, nameIndex := 9, descriptorIndex := 10, attributes := #[] }, { accessFlags := 2, nameIndex := 19, descriptorIndex := 10, attributes := #[] }])
  fields := #[{ name := "name", type := (.object "java/lang/String"), accessFlags := 18, slot := 0, constantValue := 0 }, { name := "ordinal", type := .int, accessFlags := 18, slot := 1, constantValue := 0 }, { name := "hash", type := .int, accessFlags := 2, slot := 2, constantValue := 0 }]
  methods := #[]
  instanceTypes := #[(.object "java/lang/String"), .int, .int]
  staticTypes := #[]
  resolved := Array.replicate 204 none
  statics := none }

def pool6 : Array CpInfo := pool [(1, .class_ 2), (0, u "com/example/hotrung/hotrung/image/Address$Area"), (0, .fieldref 1 4), (0, .nameAndType 5 6), (0, u "INPUT_BIT"), (0, u "Lcom/example/hotrung/hotrung/image/Address$Area;"), (0, .fieldref 1 8), (0, .nameAndType 9 6), (0, u "OUTPUT_BIT"), (0, .fieldref 1 11), (0, .nameAndType 12 6), (0, u "INPUT_WORD"), (0, .fieldref 1 14), (0, .nameAndType 15 6), (0, u "OUTPUT_WORD"), (2, u "MEMORY_WORD"), (2, u "$VALUES"), (0, u "[Lcom/example/hotrung/hotrung/image/Address$Area;"), (6, .class_ 31), (1, u "java/lang/Enum"), (8, u "prefix"), (0, u "Ljava/lang/String;"), (2, u "size"), (0, u "I"), (26, .class_ 73), (0, u "com/example/hotrung/hotrung/image/Address"), (42, u "isBit"), (0, u "()Z"), (1, u "isInput"), (0, u "isOutput")] 10

def k6c0 : Code := { maxStack := 2, maxLocals := 1, code := prog_31_method_5_code, exceptionTable := #[], attributes := #[] }
def k6m0 : Method := { name := "isBit", desc := "()Z", sig := { parameters := [], returnType := some .boolean }, accessFlags := 1, code := some k6c0 }
def k6c1 : Code := { maxStack := 2, maxLocals := 1, code := prog_31_method_6_code, exceptionTable := #[], attributes := #[] }
def k6m1 : Method := { name := "isInput", desc := "()Z", sig := { parameters := [], returnType := some .boolean }, accessFlags := 1, code := some k6c1 }
def k6c2 : Code := { maxStack := 2, maxLocals := 1, code := prog_31_method_7_code, exceptionTable := #[], attributes := #[] }
def k6m2 : Method := { name := "isOutput", desc := "()Z", sig := { parameters := [], returnType := some .boolean }, accessFlags := 1, code := some k6c2 }
/-- com/example/hotrung/hotrung/image/Address$Area -/
def k6 : Class := { plain "com/example/hotrung/hotrung/image/Address$Area" (some 5) with
  accessFlags := 16433
  interfaces := #[]
  cf := some (fileOf pool6 1 #[.nestHost 72] #[{ accessFlags := 1, nameIndex := 116, descriptorIndex := 117, attributes := #[] }, { accessFlags := 1, nameIndex := 119, descriptorIndex := 117, attributes := #[] }, { accessFlags := 1, nameIndex := 120, descriptorIndex := 117, attributes := #[] }] 16433 29 #[] #[{ accessFlags := 16409, nameIndex := 5, descriptorIndex := 6, attributes := #[] }, { accessFlags := 16409, nameIndex := 9, descriptorIndex := 6, attributes := #[] }, { accessFlags := 16409, nameIndex := 12, descriptorIndex := 6, attributes := #[] }, { accessFlags := 16409, nameIndex := 15, descriptorIndex := 6, attributes := #[] }, { accessFlags := 16409, nameIndex := 18, descriptorIndex := 6, attributes := #[] }, { accessFlags := 18, nameIndex := 40, descriptorIndex := 41, attributes := #[] }, { accessFlags := 18, nameIndex := 44, descriptorIndex := 45, attributes := #[] }, { accessFlags := 4122, nameIndex := 21, descriptorIndex := 22, attributes := #[] }])
  fields := #[{ name := "INPUT_BIT", type := (.object "com/example/hotrung/hotrung/image/Address$Area"), accessFlags := 16409, slot := 0, constantValue := 0 }, { name := "OUTPUT_BIT", type := (.object "com/example/hotrung/hotrung/image/Address$Area"), accessFlags := 16409, slot := 1, constantValue := 0 }, { name := "INPUT_WORD", type := (.object "com/example/hotrung/hotrung/image/Address$Area"), accessFlags := 16409, slot := 2, constantValue := 0 }, { name := "OUTPUT_WORD", type := (.object "com/example/hotrung/hotrung/image/Address$Area"), accessFlags := 16409, slot := 3, constantValue := 0 }, { name := "MEMORY_WORD", type := (.object "com/example/hotrung/hotrung/image/Address$Area"), accessFlags := 16409, slot := 4, constantValue := 0 }, { name := "prefix", type := (.object "java/lang/String"), accessFlags := 18, slot := 3, constantValue := 0 }, { name := "size", type := .int, accessFlags := 18, slot := 4, constantValue := 0 }, { name := "$VALUES", type := (.array (.object "com/example/hotrung/hotrung/image/Address$Area")), accessFlags := 4122, slot := 5, constantValue := 0 }]
  methods := #[k6m0, k6m1, k6m2]
  instanceTypes := #[(.object "java/lang/String"), .int, .int, (.object "java/lang/String"), .int]
  staticTypes := #[(.object "com/example/hotrung/hotrung/image/Address$Area"), (.object "com/example/hotrung/hotrung/image/Address$Area"), (.object "com/example/hotrung/hotrung/image/Address$Area"), (.object "com/example/hotrung/hotrung/image/Address$Area"), (.object "com/example/hotrung/hotrung/image/Address$Area"), (.array (.object "com/example/hotrung/hotrung/image/Address$Area"))]
  resolved := Array.replicate 131 none
  statics := some 0 }

def pool7 : Array CpInfo := pool [(1, .methodref 2 3), (0, .class_ 4), (0, .nameAndType 5 6), (0, u "java/lang/Object"), (0, u "<init>"), (0, u "()V"), (0, .class_ 8), (0, u "java/lang/Record")] 13

def k7c0 : Code := { maxStack := 1, maxLocals := 1, code := jdk_30_method_1_code, exceptionTable := #[], attributes := #[] }
def k7m0 : Method := { name := "<init>", desc := "()V", sig := { parameters := [], returnType := none }, accessFlags := 4, code := some k7c0 }
/-- java/lang/Record -/
def k7 : Class := { plain "java/lang/Record" (some 0) with
  accessFlags := 1057
  interfaces := #[]
  cf := some (fileOf pool7 7 #[] #[{ accessFlags := 4, nameIndex := 5, descriptorIndex := 6, attributes := #[] }] 1057 2 #[] #[])
  fields := #[]
  methods := #[k7m0]
  instanceTypes := #[]
  staticTypes := #[]
  resolved := Array.replicate 22 none
  statics := none }

def pool8 : Array CpInfo := pool [(1, .methodref 2 3), (0, .class_ 4), (0, .nameAndType 5 6), (0, u "java/lang/Record"), (0, u "<init>"), (0, u "()V"), (0, .fieldref 8 9), (0, .class_ 10), (0, .nameAndType 11 12), (0, u "com/example/hotrung/hotrung/image/Address"), (0, u "area"), (0, u "Lcom/example/hotrung/hotrung/image/Address$Area;"), (0, .fieldref 8 14), (0, .nameAndType 15 16), (0, u "cell"), (0, u "I"), (2, u "TEXT"), (0, u "Ljava/util/regex/Pattern;"), (11, u "()Z"), (1, .class_ 36), (1, u "com/example/hotrung/hotrung/image/Address$Area"), (34, .methodref 34 72), (0, .nameAndType 73 32), (0, u "isBit"), (6, .class_ 81), (0, u "java/lang/StringBuilder"), (0, .methodref 80 3), (2, .methodref 80 86), (0, .nameAndType 87 88), (0, u "append"), (0, u "(Ljava/lang/String;)Ljava/lang/StringBuilder;"), (2, .methodref 80 92), (0, .nameAndType 93 94), (0, u "toString"), (0, u "()Ljava/lang/String;"), (17, u "(Lcom/example/hotrung/hotrung/image/Address$Area;I)V"), (49, .fieldref 34 163), (0, .nameAndType 164 165), (0, u "prefix"), (0, u "Ljava/lang/String;"), (0, .methodref 80 167), (0, .nameAndType 87 168), (0, u "(I)Ljava/lang/StringBuilder;"), (0, .string 170), (0, u ".")] 66

def k8c0 : Code := { maxStack := 2, maxLocals := 3, code := prog_30_method_1_code, exceptionTable := #[], attributes := #[] }
def k8m0 : Method := { name := "<init>", desc := "(Lcom/example/hotrung/hotrung/image/Address$Area;I)V", sig := { parameters := [(.object "com/example/hotrung/hotrung/image/Address$Area"), .int], returnType := none }, accessFlags := 1, code := some k8c0 }
def k8c1 : Code := { maxStack := 3, maxLocals := 1, code := prog_30_method_5_code, exceptionTable := #[], attributes := #[] }
def k8m1 : Method := { name := "toString", desc := "()Ljava/lang/String;", sig := { parameters := [], returnType := some (.object "java/lang/String") }, accessFlags := 1, code := some k8c1 }
/-- com/example/hotrung/hotrung/image/Address -/
def k8 : Class := { plain "com/example/hotrung/hotrung/image/Address" (some 7) with
  accessFlags := 49
  interfaces := #[]
  cf := some (fileOf pool8 8 #[.nestMembers #[34]] #[{ accessFlags := 1, nameIndex := 5, descriptorIndex := 112, attributes := #[] }, { accessFlags := 1, nameIndex := 93, descriptorIndex := 94, attributes := #[] }] 49 2 #[] #[{ accessFlags := 18, nameIndex := 11, descriptorIndex := 12, attributes := #[] }, { accessFlags := 18, nameIndex := 15, descriptorIndex := 16, attributes := #[] }, { accessFlags := 26, nameIndex := 19, descriptorIndex := 20, attributes := #[] }])
  fields := #[{ name := "area", type := (.object "com/example/hotrung/hotrung/image/Address$Area"), accessFlags := 18, slot := 0, constantValue := 0 }, { name := "cell", type := .int, accessFlags := 18, slot := 1, constantValue := 0 }, { name := "TEXT", type := (.object "java/util/regex/Pattern"), accessFlags := 26, slot := 0, constantValue := 0 }]
  methods := #[k8m0, k8m1]
  instanceTypes := #[(.object "com/example/hotrung/hotrung/image/Address$Area"), .int]
  staticTypes := #[(.object "java/util/regex/Pattern")]
  resolved := ((Array.replicate 162 none).push (some (.field 6 5))) ++ Array.replicate 74 none
  statics := none }

def pool9 : Array CpInfo := pool [(1, .class_ 2), (0, u "java/lang/Appendable"), (0, .class_ 4), (0, u "java/lang/Object")] 9

/-- java/lang/Appendable -/
def k9 : Class := { plain "java/lang/Appendable" (some 0) with
  accessFlags := 1537
  interfaces := #[]
  cf := some (fileOf pool9 1 #[] #[] 1537 3 #[] #[])
  fields := #[]
  methods := #[]
  instanceTypes := #[]
  staticTypes := #[]
  resolved := Array.replicate 14 none
  statics := none }

def pool10 : Array CpInfo := pool [(2, .class_ 4), (1, u "java/lang/CharSequence"), (42, .class_ 48), (0, u "java/lang/CharSequence$1CodePointIterator"), (10, .class_ 60), (0, u "java/lang/CharSequence$1CharIterator"), (5, .class_ 67), (0, u "java/lang/Object")] 63

/-- java/lang/CharSequence -/
def k10 : Class := { plain "java/lang/CharSequence" (some 0) with
  accessFlags := 1537
  interfaces := #[]
  cf := some (fileOf pool10 2 #[.nestMembers #[47, 59]] #[] 1537 66 #[] #[])
  fields := #[]
  methods := #[]
  instanceTypes := #[]
  staticTypes := #[]
  resolved := Array.replicate 131 none
  statics := none }

def pool11 : Array CpInfo := pool [(1, .class_ 2), (0, u "java/lang/String"), (0, .methodref 4 5), (0, .class_ 6), (0, .nameAndType 7 8), (0, u "java/lang/Object"), (0, u "<init>"), (0, u "()V"), (1, .class_ 12), (1, u "java/lang/AbstractStringBuilder"), (0, u "EMPTYVALUE"), (0, u "[B"), (0, .fieldref 10 16), (0, .nameAndType 17 14), (0, u "value"), (0, .fieldref 1 19), (0, .nameAndType 20 21), (0, u "COMPACT_STRINGS"), (0, u "Z"), (0, .fieldref 10 23), (0, .nameAndType 24 25), (0, u "coder"), (0, u "B"), (6, .methodref 1 33), (0, .nameAndType 34 35), (0, u "length"), (0, u "()I"), (0, .class_ 37), (0, u "java/lang/Integer"), (2, .methodref 1 41), (0, .nameAndType 24 42), (0, u "()B"), (2, u "append"), (0, u "(Ljava/lang/String;)Ljava/lang/AbstractStringBuilder;"), (1, .class_ 49), (0, u "java/lang/CharSequence"), (19, u "(Ljava/lang/String;)V"), (5, u "maybeLatin1"), (3, .fieldref 10 80), (0, .nameAndType 81 82), (0, u "count"), (0, u "I"), (0, .methodref 10 84), (0, .nameAndType 85 86), (0, u "isLatin1"), (0, u "()Z"), (13, .methodref 10 101), (0, .nameAndType 102 103), (0, u "ensureCapacityInternal"), (0, u "(I)V"), (3, u "(I)I"), (80, u "getChars"), (19, .methodref 10 209), (0, .nameAndType 210 211), (0, u "putStringAt"), (0, u "(ILjava/lang/String;)V"), (5, u "inflateIfNeededFor"), (2, .nameAndType 221 222), (0, u "getBytes"), (0, u "([BIB)V"), (22, .methodref 36 246), (0, .nameAndType 247 107), (0, u "stringSize"), (0, .methodref 36 249), (0, .nameAndType 188 250), (0, u "(II[B)I"), (146, .methodref 10 398), (0, .nameAndType 217 69), (0, .methodref 1 220), (3, u "()[B"), (40, .class_ 445), (0, u "java/lang/Appendable"), (65, u "(I)Ljava/lang/AbstractStringBuilder;"), (40, u "getValue")] 56

def k11m0 : Method := { name := "<init>", desc := "()V", sig := { parameters := [], returnType := none }, accessFlags := 0, code := none }
def k11c1 : Code := { maxStack := 2, maxLocals := 2, code := jdk_68_method_2_code, exceptionTable := #[], attributes := #[] }
def k11m1 : Method := { name := "<init>", desc := "(I)V", sig := { parameters := [.int], returnType := none }, accessFlags := 0, code := some k11c1 }
def k11c2 : Code := { maxStack := 1, maxLocals := 1, code := jdk_68_method_6_code, exceptionTable := #[], attributes := #[] }
def k11m2 : Method := { name := "length", desc := "()I", sig := { parameters := [], returnType := some .int }, accessFlags := 1, code := some k11c2 }
def k11c3 : Code := { maxStack := 4, maxLocals := 3, code := jdk_68_method_9_code, exceptionTable := #[], attributes := #[] }
def k11m3 : Method := { name := "ensureCapacityInternal", desc := "(I)V", sig := { parameters := [.int], returnType := none }, accessFlags := 2, code := some k11c3 }
def k11c4 : Code := { maxStack := 3, maxLocals := 3, code := jdk_68_method_22_code, exceptionTable := #[], attributes := #[] }
def k11m4 : Method := { name := "append", desc := "(Ljava/lang/String;)Ljava/lang/AbstractStringBuilder;", sig := { parameters := [(.object "java/lang/String")], returnType := some (.object "java/lang/AbstractStringBuilder") }, accessFlags := 1, code := some k11c4 }
def k11c5 : Code := { maxStack := 4, maxLocals := 4, code := jdk_68_method_32_code, exceptionTable := #[], attributes := #[] }
def k11m5 : Method := { name := "append", desc := "(I)Ljava/lang/AbstractStringBuilder;", sig := { parameters := [.int], returnType := some (.object "java/lang/AbstractStringBuilder") }, accessFlags := 1, code := some k11c5 }
def k11c6 : Code := { maxStack := 1, maxLocals := 1, code := jdk_68_method_64_code, exceptionTable := #[], attributes := #[] }
def k11m6 : Method := { name := "getValue", desc := "()[B", sig := { parameters := [], returnType := some (.array .byte) }, accessFlags := 16, code := some k11c6 }
def k11c7 : Code := { maxStack := 1, maxLocals := 1, code := jdk_68_method_68_code, exceptionTable := #[], attributes := #[] }
def k11m7 : Method := { name := "isLatin1", desc := "()Z", sig := { parameters := [], returnType := some .boolean }, accessFlags := 16, code := some k11c7 }
def k11c8 : Code := { maxStack := 2, maxLocals := 2, code := jdk_68_method_71_code, exceptionTable := #[], attributes := #[] }
def k11m8 : Method := { name := "inflateIfNeededFor", desc := "(Ljava/lang/String;)V", sig := { parameters := [(.object "java/lang/String")], returnType := none }, accessFlags := 2, code := some k11c8 }
def k11c9 : Code := { maxStack := 4, maxLocals := 3, code := jdk_68_method_73_code, exceptionTable := #[], attributes := #[] }
def k11m9 : Method := { name := "putStringAt", desc := "(ILjava/lang/String;)V", sig := { parameters := [.int, (.object "java/lang/String")], returnType := none }, accessFlags := 2, code := some k11c9 }
/-- java/lang/AbstractStringBuilder -/
def k11 : Class := { plain "java/lang/AbstractStringBuilder" (some 0) with
  accessFlags := 1056
  interfaces := #[9, 10]
  cf := some (fileOf pool11 10 #[] #[{ accessFlags := 0, nameIndex := 7, descriptorIndex := 8, attributes := #[] }, { accessFlags := 0, nameIndex := 7, descriptorIndex := 103, attributes := #[] }, { accessFlags := 1, nameIndex := 34, descriptorIndex := 35, attributes := #[] }, { accessFlags := 2, nameIndex := 102, descriptorIndex := 103, attributes := #[] }, { accessFlags := 1, nameIndex := 45, descriptorIndex := 46, attributes := #[] }, { accessFlags := 1, nameIndex := 45, descriptorIndex := 511, attributes := #[] }, { accessFlags := 16, nameIndex := 552, descriptorIndex := 403, attributes := #[] }, { accessFlags := 16, nameIndex := 85, descriptorIndex := 86, attributes := #[] }, { accessFlags := 2, nameIndex := 217, descriptorIndex := 69, attributes := #[] }, { accessFlags := 2, nameIndex := 210, descriptorIndex := 211, attributes := #[] }] 1056 4 #[444, 48] #[{ accessFlags := 0, nameIndex := 17, descriptorIndex := 14, attributes := #[] }, { accessFlags := 0, nameIndex := 24, descriptorIndex := 25, attributes := #[] }, { accessFlags := 0, nameIndex := 75, descriptorIndex := 21, attributes := #[] }, { accessFlags := 0, nameIndex := 81, descriptorIndex := 82, attributes := #[] }, { accessFlags := 26, nameIndex := 13, descriptorIndex := 14, attributes := #[] }])
  fields := #[{ name := "value", type := (.array .byte), accessFlags := 0, slot := 0, constantValue := 0 }, { name := "coder", type := .byte, accessFlags := 0, slot := 1, constantValue := 0 }, { name := "maybeLatin1", type := .boolean, accessFlags := 0, slot := 2, constantValue := 0 }, { name := "count", type := .int, accessFlags := 0, slot := 3, constantValue := 0 }, { name := "EMPTYVALUE", type := (.array .byte), accessFlags := 26, slot := 0, constantValue := 0 }]
  methods := #[k11m0, k11m1, k11m2, k11m3, k11m4, k11m5, k11m6, k11m7, k11m8, k11m9]
  instanceTypes := #[(.array .byte), .byte, .boolean, .int]
  staticTypes := #[(.array .byte)]
  resolved := Array.replicate 609 none
  statics := none }

def pool12 : Array CpInfo := pool [(1, .methodref 2 3), (0, .class_ 4), (0, .nameAndType 5 6), (0, u "java/lang/AbstractStringBuilder"), (0, u "<init>"), (0, u "(I)V"), (11, .class_ 20), (1, u "java/lang/String"), (3, .class_ 26), (1, u "java/lang/StringBuilder"), (0, u "append"), (0, u "(Ljava/lang/String;)Ljava/lang/StringBuilder;"), (0, .methodref 2 30), (0, .nameAndType 27 31), (0, u "(Ljava/lang/String;)Ljava/lang/AbstractStringBuilder;"), (21, .methodref 2 54), (0, .nameAndType 27 55), (0, u "(I)Ljava/lang/AbstractStringBuilder;"), (81, .methodref 18 138), (0, .nameAndType 5 139), (0, u "(Ljava/lang/StringBuilder;)V"), (5, u "()V"), (10, u "()I"), (111, u "(I)Ljava/lang/StringBuilder;"), (74, .methodref 2 344), (0, .nameAndType 345 156), (0, u "length"), (3, .class_ 350), (0, u "java/lang/Appendable"), (0, .class_ 352), (0, u "java/io/Serializable"), (0, .class_ 354), (0, u "java/lang/Comparable"), (0, .class_ 356), (0, u "java/lang/CharSequence"), (0, u "serialVersionUID"), (0, u "J"), (40, u "toString"), (0, u "()Ljava/lang/String;")] 21

def k12c0 : Code := { maxStack := 2, maxLocals := 1, code := jdk_67_method_1_code, exceptionTable := #[], attributes := #[] }
def k12m0 : Method := { name := "<init>", desc := "()V", sig := { parameters := [], returnType := none }, accessFlags := 1, code := some k12c0 }
def k12c1 : Code := { maxStack := 2, maxLocals := 2, code := jdk_67_method_7_code, exceptionTable := #[], attributes := #[] }
def k12m1 : Method := { name := "append", desc := "(Ljava/lang/String;)Ljava/lang/StringBuilder;", sig := { parameters := [(.object "java/lang/String")], returnType := some (.object "java/lang/StringBuilder") }, accessFlags := 1, code := some k12c1 }
def k12c2 : Code := { maxStack := 2, maxLocals := 2, code := jdk_67_method_15_code, exceptionTable := #[], attributes := #[] }
def k12m2 : Method := { name := "append", desc := "(I)Ljava/lang/StringBuilder;", sig := { parameters := [.int], returnType := some (.object "java/lang/StringBuilder") }, accessFlags := 1, code := some k12c2 }
def k12c3 : Code := { maxStack := 3, maxLocals := 1, code := jdk_67_method_42_code, exceptionTable := #[], attributes := #[] }
def k12m3 : Method := { name := "toString", desc := "()Ljava/lang/String;", sig := { parameters := [], returnType := some (.object "java/lang/String") }, accessFlags := 1, code := some k12c3 }
def k12c4 : Code := { maxStack := 1, maxLocals := 1, code := jdk_67_method_93_code, exceptionTable := #[], attributes := #[] }
def k12m4 : Method := { name := "length", desc := "()I", sig := { parameters := [], returnType := some .int }, accessFlags := 4161, code := some k12c4 }
/-- java/lang/StringBuilder -/
def k12 : Class := { plain "java/lang/StringBuilder" (some 11) with
  accessFlags := 49
  interfaces := #[9, 4, 3, 10]
  cf := some (fileOf pool12 24 #[] #[{ accessFlags := 1, nameIndex := 5, descriptorIndex := 145, attributes := #[] }, { accessFlags := 1, nameIndex := 27, descriptorIndex := 28, attributes := #[] }, { accessFlags := 1, nameIndex := 27, descriptorIndex := 268, attributes := #[] }, { accessFlags := 1, nameIndex := 399, descriptorIndex := 400, attributes := #[] }, { accessFlags := 4161, nameIndex := 345, descriptorIndex := 156, attributes := #[] }] 49 2 #[349, 351, 353, 355] #[{ accessFlags := 24, nameIndex := 357, descriptorIndex := 358, attributes := #[] }])
  fields := #[{ name := "serialVersionUID", type := .long, accessFlags := 24, slot := 0, constantValue := 0 }]
  methods := #[k12m0, k12m1, k12m2, k12m3, k12m4]
  instanceTypes := #[(.array .byte), .byte, .boolean, .int]
  staticTypes := #[.long]
  resolved := Array.replicate 422 none
  statics := none }

def pool13 : Array CpInfo := pool [(1, .class_ 2), (0, u "java/lang/constant/ConstantDesc"), (0, .class_ 4), (0, u "java/lang/Object")] 32

/-- java/lang/constant/ConstantDesc -/
def k13 : Class := { plain "java/lang/constant/ConstantDesc" (some 0) with
  accessFlags := 1537
  interfaces := #[]
  cf := some (fileOf pool13 1 #[] #[] 1537 3 #[] #[])
  fields := #[]
  methods := #[]
  instanceTypes := #[]
  staticTypes := #[]
  resolved := Array.replicate 37 none
  statics := none }

def pool14 : Array CpInfo := pool [(1, .methodref 2 3), (0, .class_ 4), (0, .nameAndType 5 6), (0, u "java/lang/Object"), (0, u "<init>"), (0, u "()V"), (2, .fieldref 10 11), (0, .class_ 12), (0, .nameAndType 13 14), (0, u "java/lang/String"), (0, u "value"), (0, u "[B"), (0, .fieldref 10 16), (0, .nameAndType 17 18), (0, u "coder"), (0, u "B"), (2, u "hash"), (0, u "I"), (2, u "hashIsZero"), (0, u "Z"), (11, .fieldref 10 39), (0, .nameAndType 40 26), (0, u "COMPACT_STRINGS"), (13, .methodref 55 56), (0, .class_ 57), (0, .nameAndType 58 59), (0, u "java/util/Arrays"), (0, u "copyOfRange"), (0, u "([BII)[B"), (47, .class_ 109), (1, u "java/lang/StringLatin1"), (32, u "()Z"), (50, .class_ 195), (1, u "java/lang/System"), (16, .methodref 193 213), (0, .nameAndType 214 215), (0, u "arraycopy"), (0, u "(Ljava/lang/Object;ILjava/lang/Object;II)V"), (118, u "()I"), (0, .methodref 10 336), (0, .nameAndType 17 337), (0, u "()B"), (2, u "()[B"), (22, u "([BI)C"), (27, u "(II)V"), (35, u "(I)C"), (61, .methodref 10 490), (0, .nameAndType 5 491), (0, u "(Ljava/lang/AbstractStringBuilder;Ljava/lang/Void;)V"), (0, .methodref 10 493), (0, .nameAndType 494 142), (0, u "isLatin1"), (0, .methodref 107 496), (0, .nameAndType 497 363), (0, u "charAt"), (3, u "checkIndex"), (4, .nameAndType 507 334), (0, u "length"), (24, u "getBytes"), (16, .methodref 550 506), (0, .class_ 551), (0, u "java/lang/AbstractStringBuilder"), (0, .methodref 550 553), (0, .nameAndType 554 340), (0, u "getValue"), (20, .class_ 576), (0, u "java/lang/CharSequence"), (22, u "CASE_INSENSITIVE_ORDER"), (0, u "Ljava/util/Comparator;"), (220, u "([BIB)V"), (225, .methodref 550 493), (5, .fieldref 1054 1055), (0, .class_ 1056), (0, .nameAndType 1057 1058), (0, u "jdk/internal/util/Preconditions"), (0, u "SIOOBE_FORMATTER"), (0, u "Ljava/util/function/BiFunction;"), (0, .methodref 1054 1060), (0, .nameAndType 501 1061), (0, u "(IILjava/util/function/BiFunction;)I"), (39, u "serialPersistentFields"), (0, u "[Ljava/io/ObjectStreamField;"), (0, .class_ 1104), (0, u "java/lang/String$CaseInsensitiveComparator"), (1, .class_ 1107), (0, u "java/io/Serializable"), (0, .class_ 1109), (0, u "java/lang/Comparable"), (0, .class_ 1111), (0, u "java/lang/constant/Constable"), (0, .class_ 1113), (0, u "java/lang/constant/ConstantDesc"), (2, u "serialVersionUID"), (0, u "J"), (3, u "REPL"), (0, u "C"), (2, u "LATIN1"), (1, u "UTF16"), (105, u "(Ljava/lang/StringBuilder;)V")] 217

def k14m0 : Method := { name := "<init>", desc := "()V", sig := { parameters := [], returnType := none }, accessFlags := 1, code := none }
def k14c1 : Code := { maxStack := 3, maxLocals := 2, code := jdk_42_method_53_code, exceptionTable := #[], attributes := #[] }
def k14m1 : Method := { name := "<init>", desc := "(Ljava/lang/StringBuilder;)V", sig := { parameters := [(.object "java/lang/StringBuilder")], returnType := none }, accessFlags := 1, code := some k14c1 }
def k14c2 : Code := { maxStack := 2, maxLocals := 1, code := jdk_42_method_54_code, exceptionTable := #[], attributes := #[] }
def k14m2 : Method := { name := "length", desc := "()I", sig := { parameters := [], returnType := some .int }, accessFlags := 1, code := some k14c2 }
def k14c3 : Code := { maxStack := 2, maxLocals := 2, code := jdk_42_method_56_code, exceptionTable := #[], attributes := #[] }
def k14m3 : Method := { name := "charAt", desc := "(I)C", sig := { parameters := [.int], returnType := some .char }, accessFlags := 1, code := some k14c3 }
def k14c4 : Code := { maxStack := 5, maxLocals := 4, code := jdk_42_method_147_code, exceptionTable := #[], attributes := #[] }
def k14m4 : Method := { name := "getBytes", desc := "([BIB)V", sig := { parameters := [(.array .byte), .int, .byte], returnType := none }, accessFlags := 0, code := some k14c4 }
def k14c5 : Code := { maxStack := 5, maxLocals := 5, code := jdk_42_method_150_code, exceptionTable := #[], attributes := #[] }
def k14m5 : Method := { name := "<init>", desc := "(Ljava/lang/AbstractStringBuilder;Ljava/lang/Void;)V", sig := { parameters := [(.object "java/lang/AbstractStringBuilder"), (.object "java/lang/Void")], returnType := none }, accessFlags := 0, code := some k14c5 }
def k14c6 : Code := { maxStack := 1, maxLocals := 1, code := jdk_42_method_152_code, exceptionTable := #[], attributes := #[] }
def k14m6 : Method := { name := "coder", desc := "()B", sig := { parameters := [], returnType := some .byte }, accessFlags := 0, code := some k14c6 }
def k14c7 : Code := { maxStack := 1, maxLocals := 1, code := jdk_42_method_154_code, exceptionTable := #[], attributes := #[] }
def k14m7 : Method := { name := "isLatin1", desc := "()Z", sig := { parameters := [], returnType := some .boolean }, accessFlags := 0, code := some k14c7 }
def k14c8 : Code := { maxStack := 3, maxLocals := 2, code := jdk_42_method_155_code, exceptionTable := #[], attributes := #[] }
def k14m8 : Method := { name := "checkIndex", desc := "(II)V", sig := { parameters := [.int, .int], returnType := none }, accessFlags := 8, code := some k14c8 }
/-- java/lang/String -/
def k14 : Class := { plain "java/lang/String" (some 0) with
  accessFlags := 49
  interfaces := #[4, 3, 10, 2, 13]
  cf := some (fileOf pool14 10 #[.nestMembers #[1103]] #[{ accessFlags := 1, nameIndex := 5, descriptorIndex := 6, attributes := #[] }, { accessFlags := 1, nameIndex := 5, descriptorIndex := 1233, attributes := #[] }, { accessFlags := 1, nameIndex := 507, descriptorIndex := 334, attributes := #[] }, { accessFlags := 1, nameIndex := 497, descriptorIndex := 427, attributes := #[] }, { accessFlags := 0, nameIndex := 532, descriptorIndex := 821, attributes := #[] }, { accessFlags := 0, nameIndex := 5, descriptorIndex := 491, attributes := #[] }, { accessFlags := 0, nameIndex := 17, descriptorIndex := 337, attributes := #[] }, { accessFlags := 0, nameIndex := 494, descriptorIndex := 142, attributes := #[] }, { accessFlags := 8, nameIndex := 501, descriptorIndex := 391, attributes := #[] }] 49 2 #[1106, 1108, 575, 1110, 1112] #[{ accessFlags := 18, nameIndex := 13, descriptorIndex := 14, attributes := #[] }, { accessFlags := 18, nameIndex := 17, descriptorIndex := 18, attributes := #[] }, { accessFlags := 2, nameIndex := 21, descriptorIndex := 22, attributes := #[] }, { accessFlags := 2, nameIndex := 25, descriptorIndex := 26, attributes := #[] }, { accessFlags := 26, nameIndex := 1116, descriptorIndex := 1117, attributes := #[] }, { accessFlags := 24, nameIndex := 40, descriptorIndex := 26, attributes := #[] }, { accessFlags := 26, nameIndex := 1101, descriptorIndex := 1102, attributes := #[] }, { accessFlags := 26, nameIndex := 1121, descriptorIndex := 1122, attributes := #[] }, { accessFlags := 25, nameIndex := 599, descriptorIndex := 600, attributes := #[] }, { accessFlags := 24, nameIndex := 1125, descriptorIndex := 18, attributes := #[] }, { accessFlags := 24, nameIndex := 1127, descriptorIndex := 18, attributes := #[] }])
  fields := #[{ name := "value", type := (.array .byte), accessFlags := 18, slot := 0, constantValue := 0 }, { name := "coder", type := .byte, accessFlags := 18, slot := 1, constantValue := 0 }, { name := "hash", type := .int, accessFlags := 2, slot := 2, constantValue := 0 }, { name := "hashIsZero", type := .boolean, accessFlags := 2, slot := 3, constantValue := 0 }, { name := "serialVersionUID", type := .long, accessFlags := 26, slot := 0, constantValue := 0 }, { name := "COMPACT_STRINGS", type := .boolean, accessFlags := 24, slot := 1, constantValue := 0 }, { name := "serialPersistentFields", type := (.array (.object "java/io/ObjectStreamField")), accessFlags := 26, slot := 2, constantValue := 0 }, { name := "REPL", type := .char, accessFlags := 26, slot := 3, constantValue := 0 }, { name := "CASE_INSENSITIVE_ORDER", type := (.object "java/util/Comparator"), accessFlags := 25, slot := 4, constantValue := 0 }, { name := "LATIN1", type := .byte, accessFlags := 24, slot := 5, constantValue := 0 }, { name := "UTF16", type := .byte, accessFlags := 24, slot := 6, constantValue := 0 }]
  methods := #[k14m0, k14m1, k14m2, k14m3, k14m4, k14m5, k14m6, k14m7, k14m8]
  instanceTypes := #[(.array .byte), .byte, .int, .boolean]
  staticTypes := #[.long, .boolean, (.array (.object "java/io/ObjectStreamField")), .char, (.object "java/util/Comparator"), .byte, .byte]
  resolved := Array.replicate 1451 none
  statics := some 1 }

def pool15 : Array CpInfo := pool [(2, .class_ 4), (1, u "java/lang/Object"), (0, u "<init>"), (0, u "()V"), (1, .class_ 10), (1, u "java/lang/System"), (0, u "allowSecurityManager"), (0, u "I"), (16, u "cons"), (0, u "Ljava/io/Console;"), (77, .class_ 110), (1, u "java/lang/System$CallersHolder"), (43, u "initialErrStream"), (0, u "Ljava/io/PrintStream;"), (19, u "security"), (0, u "Ljava/lang/SecurityManager;"), (31, .class_ 209), (0, u "java/lang/System$1"), (7, u "props"), (0, u "Ljava/util/Properties;"), (2, u "lineSeparator"), (0, u "Ljava/lang/String;"), (96, .class_ 321), (1, u "java/lang/System$LoggerFinder"), (5, .class_ 328), (0, u "java/lang/System$Logger"), (67, u "err"), (2, u "out"), (91, u "notSupportedJnuEncoding"), (15, u "in"), (17, u "initialIn"), (0, u "Ljava/io/InputStream;"), (35, u "bootLayer"), (0, u "Ljava/lang/ModuleLayer;"), (99, .class_ 664), (0, u "java/lang/System$2"), (9, u "NEVER"), (2, u "MAYBE"), (49, u "arraycopy"), (0, u "(Ljava/lang/Object;ILjava/lang/Object;II)V"), (72, .class_ 802), (0, u "java/lang/System$Logger$Level")] 31

def k15m0 : Method := { name := "<init>", desc := "()V", sig := { parameters := [], returnType := none }, accessFlags := 2, code := none }
def k15m1 : Method := { name := "arraycopy", desc := "(Ljava/lang/Object;ILjava/lang/Object;II)V", sig := { parameters := [(.object "java/lang/Object"), .int, (.object "java/lang/Object"), .int, .int], returnType := none }, accessFlags := 265, code := none }
/-- java/lang/System -/
def k15 : Class := { plain "java/lang/System" (some 0) with
  accessFlags := 49
  interfaces := #[]
  cf := some (fileOf pool15 8 #[.nestMembers #[319, 327, 801, 108, 663, 208]] #[{ accessFlags := 2, nameIndex := 5, descriptorIndex := 6, attributes := #[] }, { accessFlags := 265, nameIndex := 727, descriptorIndex := 728, attributes := #[] }] 49 2 #[] #[{ accessFlags := 25, nameIndex := 507, descriptorIndex := 526, attributes := #[] }, { accessFlags := 25, nameIndex := 399, descriptorIndex := 155, attributes := #[] }, { accessFlags := 25, nameIndex := 396, descriptorIndex := 155, attributes := #[] }, { accessFlags := 10, nameIndex := 525, descriptorIndex := 526, attributes := #[] }, { accessFlags := 26, nameIndex := 674, descriptorIndex := 12, attributes := #[] }, { accessFlags := 26, nameIndex := 677, descriptorIndex := 12, attributes := #[] }, { accessFlags := 10, nameIndex := 11, descriptorIndex := 12, attributes := #[] }, { accessFlags := 74, nameIndex := 175, descriptorIndex := 176, attributes := #[] }, { accessFlags := 10, nameIndex := 491, descriptorIndex := 222, attributes := #[] }, { accessFlags := 74, nameIndex := 29, descriptorIndex := 30, attributes := #[] }, { accessFlags := 74, nameIndex := 154, descriptorIndex := 155, attributes := #[] }, { accessFlags := 10, nameIndex := 217, descriptorIndex := 218, attributes := #[] }, { accessFlags := 10, nameIndex := 221, descriptorIndex := 222, attributes := #[] }, { accessFlags := 8, nameIndex := 562, descriptorIndex := 563, attributes := #[] }])
  fields := #[{ name := "in", type := (.object "java/io/InputStream"), accessFlags := 25, slot := 0, constantValue := 0 }, { name := "out", type := (.object "java/io/PrintStream"), accessFlags := 25, slot := 1, constantValue := 0 }, { name := "err", type := (.object "java/io/PrintStream"), accessFlags := 25, slot := 2, constantValue := 0 }, { name := "initialIn", type := (.object "java/io/InputStream"), accessFlags := 10, slot := 3, constantValue := 0 }, { name := "NEVER", type := .int, accessFlags := 26, slot := 4, constantValue := 0 }, { name := "MAYBE", type := .int, accessFlags := 26, slot := 5, constantValue := 0 }, { name := "allowSecurityManager", type := .int, accessFlags := 10, slot := 6, constantValue := 0 }, { name := "security", type := (.object "java/lang/SecurityManager"), accessFlags := 74, slot := 7, constantValue := 0 }, { name := "notSupportedJnuEncoding", type := (.object "java/lang/String"), accessFlags := 10, slot := 8, constantValue := 0 }, { name := "cons", type := (.object "java/io/Console"), accessFlags := 74, slot := 9, constantValue := 0 }, { name := "initialErrStream", type := (.object "java/io/PrintStream"), accessFlags := 74, slot := 10, constantValue := 0 }, { name := "props", type := (.object "java/util/Properties"), accessFlags := 10, slot := 11, constantValue := 0 }, { name := "lineSeparator", type := (.object "java/lang/String"), accessFlags := 10, slot := 12, constantValue := 0 }, { name := "bootLayer", type := (.object "java/lang/ModuleLayer"), accessFlags := 8, slot := 13, constantValue := 0 }]
  methods := #[k15m0, k15m1]
  instanceTypes := #[]
  staticTypes := #[(.object "java/io/InputStream"), (.object "java/io/PrintStream"), (.object "java/io/PrintStream"), (.object "java/io/InputStream"), .int, .int, .int, (.object "java/lang/SecurityManager"), (.object "java/lang/String"), (.object "java/io/Console"), (.object "java/io/PrintStream"), (.object "java/util/Properties"), (.object "java/lang/String"), (.object "java/lang/ModuleLayer")]
  resolved := Array.replicate 834 none
  statics := none }

def pool16 : Array CpInfo := pool [(2, .class_ 4), (1, u "java/lang/Object"), (0, u "<init>"), (0, u "()V"), (1, .class_ 10), (1, u "java/lang/Number"), (2, .class_ 14), (0, u "java/io/Serializable"), (0, u "serialVersionUID"), (0, u "J")] 20

def k16m0 : Method := { name := "<init>", desc := "()V", sig := { parameters := [], returnType := none }, accessFlags := 1, code := none }
/-- java/lang/Number -/
def k16 : Class := { plain "java/lang/Number" (some 0) with
  accessFlags := 1057
  interfaces := #[4]
  cf := some (fileOf pool16 8 #[] #[{ accessFlags := 1, nameIndex := 5, descriptorIndex := 6, attributes := #[] }] 1057 2 #[13] #[{ accessFlags := 26, nameIndex := 15, descriptorIndex := 16, attributes := #[] }])
  fields := #[{ name := "serialVersionUID", type := .long, accessFlags := 26, slot := 0, constantValue := 0 }]
  methods := #[k16m0]
  instanceTypes := #[]
  staticTypes := #[.long]
  resolved := Array.replicate 37 none
  statics := none }

def pool17 : Array CpInfo := pool [(1, .class_ 2), (0, u "java/lang/Integer"), (16, u "digits"), (0, u "[C"), (33, u "(I)I"), (19, u "stringSize"), (2, u "getChars"), (0, u "(II[B)I"), (4, .fieldref 1 84), (0, .nameAndType 85 86), (0, u "DigitOnes"), (0, u "[B"), (2, u "DigitTens"), (99, .class_ 190), (0, u "java/lang/Integer$IntegerCache"), (3, u "I"), (8, .class_ 204), (0, u "java/lang/Number"), (2, u "value"), (94, u "TYPE"), (0, u "Ljava/lang/Class;"), (0, .class_ 305), (0, u "java/lang/Comparable"), (0, .class_ 307), (0, u "java/lang/constant/Constable"), (0, .class_ 309), (0, u "java/lang/constant/ConstantDesc"), (0, u "MIN_VALUE"), (1, u "MAX_VALUE"), (3, u "SIZE"), (1, u "BYTES"), (1, u "serialVersionUID"), (0, u "J")] 131

def k17c0 : Code := { maxStack := 4, maxLocals := 7, code := jdk_33_method_12_code, exceptionTable := #[], attributes := #[] }
def k17m0 : Method := { name := "getChars", desc := "(II[B)I", sig := { parameters := [.int, .int, (.array .byte)], returnType := some .int }, accessFlags := 8, code := some k17c0 }
def k17c1 : Code := { maxStack := 2, maxLocals := 4, code := jdk_33_method_13_code, exceptionTable := #[], attributes := #[] }
def k17m1 : Method := { name := "stringSize", desc := "(I)I", sig := { parameters := [.int], returnType := some .int }, accessFlags := 8, code := some k17c1 }
/-- java/lang/Integer -/
def k17 : Class := { plain "java/lang/Integer" (some 16) with
  accessFlags := 49
  interfaces := #[3, 2, 13]
  cf := some (fileOf pool17 1 #[.nestMembers #[189]] #[{ accessFlags := 8, nameIndex := 77, descriptorIndex := 78, attributes := #[] }, { accessFlags := 8, nameIndex := 74, descriptorIndex := 54, attributes := #[] }] 49 203 #[304, 306, 308] #[{ accessFlags := 25, nameIndex := 310, descriptorIndex := 194, attributes := #[] }, { accessFlags := 25, nameIndex := 312, descriptorIndex := 194, attributes := #[] }, { accessFlags := 25, nameIndex := 302, descriptorIndex := 303, attributes := #[] }, { accessFlags := 24, nameIndex := 19, descriptorIndex := 20, attributes := #[] }, { accessFlags := 24, nameIndex := 89, descriptorIndex := 86, attributes := #[] }, { accessFlags := 24, nameIndex := 85, descriptorIndex := 86, attributes := #[] }, { accessFlags := 18, nameIndex := 207, descriptorIndex := 194, attributes := #[] }, { accessFlags := 25, nameIndex := 316, descriptorIndex := 194, attributes := #[] }, { accessFlags := 25, nameIndex := 318, descriptorIndex := 194, attributes := #[] }, { accessFlags := 26, nameIndex := 320, descriptorIndex := 321, attributes := #[] }])
  fields := #[{ name := "MIN_VALUE", type := .int, accessFlags := 25, slot := 0, constantValue := 0 }, { name := "MAX_VALUE", type := .int, accessFlags := 25, slot := 1, constantValue := 0 }, { name := "TYPE", type := (.object "java/lang/Class"), accessFlags := 25, slot := 2, constantValue := 0 }, { name := "digits", type := (.array .char), accessFlags := 24, slot := 3, constantValue := 0 }, { name := "DigitTens", type := (.array .byte), accessFlags := 24, slot := 4, constantValue := 0 }, { name := "DigitOnes", type := (.array .byte), accessFlags := 24, slot := 5, constantValue := 0 }, { name := "value", type := .int, accessFlags := 18, slot := 0, constantValue := 0 }, { name := "SIZE", type := .int, accessFlags := 25, slot := 6, constantValue := 0 }, { name := "BYTES", type := .int, accessFlags := 25, slot := 7, constantValue := 0 }, { name := "serialVersionUID", type := .long, accessFlags := 26, slot := 8, constantValue := 0 }]
  methods := #[k17m0, k17m1]
  instanceTypes := #[.int]
  staticTypes := #[.int, .int, (.object "java/lang/Class"), (.array .char), (.array .byte), (.array .byte), .int, .int, .long]
  resolved := Array.replicate 453 none
  statics := some 2 }

def pool18 : Array CpInfo := pool [(2, .class_ 4), (1, u "java/lang/Object"), (0, u "<init>"), (0, u "()V"), (7, .class_ 16), (1, u "java/util/Arrays"), (57, .class_ 76), (1, u "java/util/Arrays$NaturalOrder"), (36, .class_ 115), (1, u "java/util/Arrays$LegacyMergeSort"), (1, u "Z"), (21, u "copyOfRange"), (10, .methodref 151 152), (0, .class_ 153), (0, .nameAndType 154 155), (0, u "java/lang/System"), (0, u "arraycopy"), (0, u "(Ljava/lang/Object;ILjava/lang/Object;II)V"), (148, .methodref 305 306), (0, .class_ 307), (0, .nameAndType 308 309), (0, u "java/lang/Math"), (0, u "min"), (0, u "(II)I"), (29, .methodref 14 340), (0, .nameAndType 341 342), (0, u "copyOfRangeByte"), (0, u "([BII)[B"), (0, .methodref 14 344), (0, .nameAndType 345 346), (0, u "checkLength"), (0, u "(II)V"), (28, .class_ 376), (0, u "java/util/Arrays$ArrayList"), (68, u "$assertionsDisabled"), (269, u "MIN_ARRAY_SORT_GRAN"), (0, u "I"), (2, u "INSERTIONSORT_THRESHOLD"), (255, .class_ 976), (0, u "java/util/Arrays$ArrayItr")] 52

def k18m0 : Method := { name := "<init>", desc := "()V", sig := { parameters := [], returnType := none }, accessFlags := 2, code := none }
def k18c1 : Code := { maxStack := 4, maxLocals := 2, code := jdk_65_method_131_code, exceptionTable := #[], attributes := #[] }
def k18m1 : Method := { name := "checkLength", desc := "(II)V", sig := { parameters := [.int, .int], returnType := none }, accessFlags := 10, code := some k18c1 }
def k18c2 : Code := { maxStack := 3, maxLocals := 3, code := jdk_65_method_132_code, exceptionTable := #[], attributes := #[] }
def k18m2 : Method := { name := "copyOfRange", desc := "([BII)[B", sig := { parameters := [(.array .byte), .int, .int], returnType := some (.array .byte) }, accessFlags := 9, code := some k18c2 }
def k18c3 : Code := { maxStack := 6, maxLocals := 5, code := jdk_65_method_133_code, exceptionTable := #[], attributes := #[] }
def k18m3 : Method := { name := "copyOfRangeByte", desc := "([BII)[B", sig := { parameters := [(.array .byte), .int, .int], returnType := some (.array .byte) }, accessFlags := 10, code := some k18c3 }
/-- java/util/Arrays -/
def k18 : Class := { plain "java/util/Arrays" (some 0) with
  accessFlags := 49
  interfaces := #[]
  cf := some (fileOf pool18 14 #[.nestMembers #[975, 375, 113, 74]] #[{ accessFlags := 2, nameIndex := 5, descriptorIndex := 6, attributes := #[] }, { accessFlags := 10, nameIndex := 345, descriptorIndex := 346, attributes := #[] }, { accessFlags := 9, nameIndex := 139, descriptorIndex := 342, attributes := #[] }, { accessFlags := 10, nameIndex := 341, descriptorIndex := 342, attributes := #[] }] 49 2 #[] #[{ accessFlags := 26, nameIndex := 715, descriptorIndex := 716, attributes := #[] }, { accessFlags := 26, nameIndex := 719, descriptorIndex := 716, attributes := #[] }, { accessFlags := 4120, nameIndex := 445, descriptorIndex := 117, attributes := #[] }])
  fields := #[{ name := "MIN_ARRAY_SORT_GRAN", type := .int, accessFlags := 26, slot := 0, constantValue := 0 }, { name := "INSERTIONSORT_THRESHOLD", type := .int, accessFlags := 26, slot := 1, constantValue := 0 }, { name := "$assertionsDisabled", type := .boolean, accessFlags := 4120, slot := 2, constantValue := 0 }]
  methods := #[k18m0, k18m1, k18m2, k18m3]
  instanceTypes := #[]
  staticTypes := #[.int, .int, .boolean]
  resolved := Array.replicate 1029 none
  statics := none }

def pool19 : Array CpInfo := pool [(1, .class_ 2), (0, u "java/lang/Math"), (1, .class_ 6), (1, u "java/lang/Object"), (0, u "<init>"), (0, u "()V"), (89, .class_ 100), (1, u "java/lang/Math$RandomNumberGeneratorHolder"), (71, u "negativeZeroFloatBits"), (0, u "J"), (2, u "negativeZeroDoubleBits"), (24, u "min"), (43, u "$assertionsDisabled"), (0, u "Z"), (88, u "(II)I"), (2, u "twoToTheDoubleScaleDown"), (0, u "D"), (4, u "twoToTheDoubleScaleUp"), (9, u "E"), (3, u "PI"), (2, u "TAU"), (2, u "DEGREES_TO_RADIANS"), (0, u "RADIANS_TO_DEGREES")] 94

def k19m0 : Method := { name := "<init>", desc := "()V", sig := { parameters := [], returnType := none }, accessFlags := 2, code := none }
def k19c1 : Code := { maxStack := 2, maxLocals := 2, code := jdk_29_method_69_code, exceptionTable := #[], attributes := #[] }
def k19m1 : Method := { name := "min", desc := "(II)I", sig := { parameters := [.int, .int], returnType := some .int }, accessFlags := 9, code := some k19c1 }
/-- java/lang/Math -/
def k19 : Class := { plain "java/lang/Math" (some 0) with
  accessFlags := 49
  interfaces := #[]
  cf := some (fileOf pool19 1 #[.nestMembers #[98]] #[{ accessFlags := 2, nameIndex := 7, descriptorIndex := 8, attributes := #[] }, { accessFlags := 9, nameIndex := 201, descriptorIndex := 335, attributes := #[] }] 49 4 #[] #[{ accessFlags := 25, nameIndex := 354, descriptorIndex := 339, attributes := #[] }, { accessFlags := 25, nameIndex := 358, descriptorIndex := 339, attributes := #[] }, { accessFlags := 25, nameIndex := 361, descriptorIndex := 339, attributes := #[] }, { accessFlags := 26, nameIndex := 364, descriptorIndex := 339, attributes := #[] }, { accessFlags := 26, nameIndex := 365, descriptorIndex := 339, attributes := #[] }, { accessFlags := 26, nameIndex := 172, descriptorIndex := 173, attributes := #[] }, { accessFlags := 26, nameIndex := 176, descriptorIndex := 173, attributes := #[] }, { accessFlags := 8, nameIndex := 344, descriptorIndex := 339, attributes := #[] }, { accessFlags := 8, nameIndex := 338, descriptorIndex := 339, attributes := #[] }, { accessFlags := 4120, nameIndex := 245, descriptorIndex := 246, attributes := #[] }])
  fields := #[{ name := "E", type := .double, accessFlags := 25, slot := 0, constantValue := 0 }, { name := "PI", type := .double, accessFlags := 25, slot := 1, constantValue := 0 }, { name := "TAU", type := .double, accessFlags := 25, slot := 2, constantValue := 0 }, { name := "DEGREES_TO_RADIANS", type := .double, accessFlags := 26, slot := 3, constantValue := 0 }, { name := "RADIANS_TO_DEGREES", type := .double, accessFlags := 26, slot := 4, constantValue := 0 }, { name := "negativeZeroFloatBits", type := .long, accessFlags := 26, slot := 5, constantValue := 0 }, { name := "negativeZeroDoubleBits", type := .long, accessFlags := 26, slot := 6, constantValue := 0 }, { name := "twoToTheDoubleScaleUp", type := .double, accessFlags := 8, slot := 7, constantValue := 0 }, { name := "twoToTheDoubleScaleDown", type := .double, accessFlags := 8, slot := 8, constantValue := 0 }, { name := "$assertionsDisabled", type := .boolean, accessFlags := 4120, slot := 9, constantValue := 0 }]
  methods := #[k19m0, k19m1]
  instanceTypes := #[]
  staticTypes := #[.double, .double, .double, .double, .double, .long, .long, .double, .double, .boolean]
  resolved := Array.replicate 460 none
  statics := none }

def pool20 : Array CpInfo := pool [(1, .class_ 2), (0, u "java/lang/String"), (1, .class_ 6), (1, u "java/lang/Object"), (0, u "<init>"), (0, u "()V"), (0, .methodref 1 10), (0, .nameAndType 11 12), (0, u "checkIndex"), (0, u "(II)V"), (1, .class_ 16), (1, u "java/lang/StringLatin1"), (36, u "([BI)C"), (67, u "$assertionsDisabled"), (0, u "Z"), (98, .class_ 223), (1, u "java/lang/StringLatin1$LinesSpliterator"), (28, u "charAt"), (137, .class_ 391), (0, u "java/lang/StringLatin1$CharsSpliterator")] 3

def k20m0 : Method := { name := "<init>", desc := "()V", sig := { parameters := [], returnType := none }, accessFlags := 0, code := none }
def k20c1 : Code := { maxStack := 2, maxLocals := 2, code := jdk_43_method_2_code, exceptionTable := #[], attributes := #[] }
def k20m1 : Method := { name := "charAt", desc := "([BI)C", sig := { parameters := [(.array .byte), .int], returnType := some .char }, accessFlags := 9, code := some k20c1 }
/-- java/lang/StringLatin1 -/
def k20 : Class := { plain "java/lang/StringLatin1" (some 0) with
  accessFlags := 48
  interfaces := #[]
  cf := some (fileOf pool20 14 #[.nestMembers #[390, 221]] #[{ accessFlags := 0, nameIndex := 7, descriptorIndex := 8, attributes := #[] }, { accessFlags := 9, nameIndex := 252, descriptorIndex := 53, attributes := #[] }] 48 4 #[] #[{ accessFlags := 4120, nameIndex := 121, descriptorIndex := 122, attributes := #[] }])
  fields := #[{ name := "$assertionsDisabled", type := .boolean, accessFlags := 4120, slot := 0, constantValue := 0 }]
  methods := #[k20m0, k20m1]
  instanceTypes := #[]
  staticTypes := #[.boolean]
  resolved := Array.replicate 395 none
  statics := none }

def pool21 : Array CpInfo := pool [(2, .class_ 4), (1, u "java/lang/Object"), (0, u "<init>"), (0, u "()V"), (17, .class_ 26), (1, u "jdk/internal/util/Preconditions"), (6, u "checkIndex"), (21, .class_ 56), (0, u "jdk/internal/util/Preconditions$4"), (57, .class_ 115), (0, u "jdk/internal/util/Preconditions$1"), (7, u "SIOOBE_FORMATTER"), (0, u "Ljava/util/function/BiFunction;"), (0, .class_ 126), (0, u "jdk/internal/util/Preconditions$2"), (3, u "AIOOBE_FORMATTER"), (0, .class_ 132), (0, u "jdk/internal/util/Preconditions$3"), (3, u "IOOBE_FORMATTER"), (41, u "(IILjava/util/function/BiFunction;)I")] 15

def k21m0 : Method := { name := "<init>", desc := "()V", sig := { parameters := [], returnType := none }, accessFlags := 1, code := none }
def k21c1 : Code := { maxStack := 3, maxLocals := 3, code := jdk_41_method_11_code, exceptionTable := #[], attributes := #[] }
def k21m1 : Method := { name := "checkIndex", desc := "(IILjava/util/function/BiFunction;)I", sig := { parameters := [.int, .int, (.object "java/util/function/BiFunction")], returnType := some .int }, accessFlags := 9, code := some k21c1 }
/-- jdk/internal/util/Preconditions -/
def k21 : Class := { plain "jdk/internal/util/Preconditions" (some 0) with
  accessFlags := 33
  interfaces := #[]
  cf := some (fileOf pool21 24 #[.nestMembers #[55, 131, 125, 114]] #[{ accessFlags := 1, nameIndex := 5, descriptorIndex := 6, attributes := #[] }, { accessFlags := 9, nameIndex := 33, descriptorIndex := 178, attributes := #[] }] 33 2 #[] #[{ accessFlags := 25, nameIndex := 123, descriptorIndex := 124, attributes := #[] }, { accessFlags := 25, nameIndex := 130, descriptorIndex := 124, attributes := #[] }, { accessFlags := 25, nameIndex := 136, descriptorIndex := 124, attributes := #[] }])
  fields := #[{ name := "SIOOBE_FORMATTER", type := (.object "java/util/function/BiFunction"), accessFlags := 25, slot := 0, constantValue := 0 }, { name := "AIOOBE_FORMATTER", type := (.object "java/util/function/BiFunction"), accessFlags := 25, slot := 1, constantValue := 0 }, { name := "IOOBE_FORMATTER", type := (.object "java/util/function/BiFunction"), accessFlags := 25, slot := 2, constantValue := 0 }]
  methods := #[k21m0, k21m1]
  instanceTypes := #[]
  staticTypes := #[(.object "java/util/function/BiFunction"), (.object "java/util/function/BiFunction"), (.object "java/util/function/BiFunction")]
  resolved := Array.replicate 194 none
  statics := some 3 }

def pool22 : Array CpInfo := pool [(9, u "<init>"), (6, .class_ 18), (1, u "java/lang/Object"), (0, u "()V"), (1, .class_ 23), (1, u "jdk/internal/util/ArraysSupport"), (0, u "LOG2_ARRAY_LONG_INDEX_SCALE"), (0, u "I"), (2, u "U"), (0, u "Ljdk/internal/misc/Unsafe;"), (8, u "BIG_ENDIAN"), (0, u "Z"), (8, u "LOG2_BYTE_BIT_SIZE"), (4, u "LOG2_ARRAY_INT_INDEX_SCALE"), (54, u "JLA"), (0, u "Ljdk/internal/access/JavaLangAccess;"), (11, u "LOG2_ARRAY_BOOLEAN_INDEX_SCALE"), (9, u "LOG2_ARRAY_BYTE_INDEX_SCALE"), (5, u "LOG2_ARRAY_CHAR_INDEX_SCALE"), (5, u "LOG2_ARRAY_SHORT_INDEX_SCALE"), (18, u "LOG2_ARRAY_FLOAT_INDEX_SCALE"), (24, u "LOG2_ARRAY_DOUBLE_INDEX_SCALE"), (89, u "T_BOOLEAN"), (2, u "T_CHAR"), (1, u "T_FLOAT"), (1, u "T_DOUBLE"), (1, u "T_BYTE"), (1, u "T_SHORT"), (1, u "T_INT"), (1, u "T_LONG"), (1, u "SOFT_MAX_ARRAY_LENGTH")] 83

def k22m0 : Method := { name := "<init>", desc := "()V", sig := { parameters := [], returnType := none }, accessFlags := 2, code := none }
/-- jdk/internal/util/ArraysSupport -/
def k22 : Class := { plain "jdk/internal/util/ArraysSupport" (some 0) with
  accessFlags := 33
  interfaces := #[]
  cf := some (fileOf pool22 21 #[] #[{ accessFlags := 2, nameIndex := 9, descriptorIndex := 19, attributes := #[] }] 33 16 #[] #[{ accessFlags := 24, nameIndex := 28, descriptorIndex := 29, attributes := #[] }, { accessFlags := 26, nameIndex := 38, descriptorIndex := 39, attributes := #[] }, { accessFlags := 25, nameIndex := 121, descriptorIndex := 25, attributes := #[] }, { accessFlags := 25, nameIndex := 131, descriptorIndex := 25, attributes := #[] }, { accessFlags := 25, nameIndex := 137, descriptorIndex := 25, attributes := #[] }, { accessFlags := 25, nameIndex := 143, descriptorIndex := 25, attributes := #[] }, { accessFlags := 25, nameIndex := 53, descriptorIndex := 25, attributes := #[] }, { accessFlags := 25, nameIndex := 24, descriptorIndex := 25, attributes := #[] }, { accessFlags := 25, nameIndex := 162, descriptorIndex := 25, attributes := #[] }, { accessFlags := 25, nameIndex := 187, descriptorIndex := 25, attributes := #[] }, { accessFlags := 26, nameIndex := 48, descriptorIndex := 25, attributes := #[] }, { accessFlags := 25, nameIndex := 277, descriptorIndex := 25, attributes := #[] }, { accessFlags := 25, nameIndex := 280, descriptorIndex := 25, attributes := #[] }, { accessFlags := 25, nameIndex := 282, descriptorIndex := 25, attributes := #[] }, { accessFlags := 25, nameIndex := 284, descriptorIndex := 25, attributes := #[] }, { accessFlags := 25, nameIndex := 286, descriptorIndex := 25, attributes := #[] }, { accessFlags := 25, nameIndex := 288, descriptorIndex := 25, attributes := #[] }, { accessFlags := 25, nameIndex := 290, descriptorIndex := 25, attributes := #[] }, { accessFlags := 25, nameIndex := 292, descriptorIndex := 25, attributes := #[] }, { accessFlags := 26, nameIndex := 108, descriptorIndex := 109, attributes := #[] }, { accessFlags := 25, nameIndex := 294, descriptorIndex := 25, attributes := #[] }])
  fields := #[{ name := "U", type := (.object "jdk/internal/misc/Unsafe"), accessFlags := 24, slot := 0, constantValue := 0 }, { name := "BIG_ENDIAN", type := .boolean, accessFlags := 26, slot := 1, constantValue := 0 }, { name := "LOG2_ARRAY_BOOLEAN_INDEX_SCALE", type := .int, accessFlags := 25, slot := 2, constantValue := 0 }, { name := "LOG2_ARRAY_BYTE_INDEX_SCALE", type := .int, accessFlags := 25, slot := 3, constantValue := 0 }, { name := "LOG2_ARRAY_CHAR_INDEX_SCALE", type := .int, accessFlags := 25, slot := 4, constantValue := 0 }, { name := "LOG2_ARRAY_SHORT_INDEX_SCALE", type := .int, accessFlags := 25, slot := 5, constantValue := 0 }, { name := "LOG2_ARRAY_INT_INDEX_SCALE", type := .int, accessFlags := 25, slot := 6, constantValue := 0 }, { name := "LOG2_ARRAY_LONG_INDEX_SCALE", type := .int, accessFlags := 25, slot := 7, constantValue := 0 }, { name := "LOG2_ARRAY_FLOAT_INDEX_SCALE", type := .int, accessFlags := 25, slot := 8, constantValue := 0 }, { name := "LOG2_ARRAY_DOUBLE_INDEX_SCALE", type := .int, accessFlags := 25, slot := 9, constantValue := 0 }, { name := "LOG2_BYTE_BIT_SIZE", type := .int, accessFlags := 26, slot := 10, constantValue := 0 }, { name := "T_BOOLEAN", type := .int, accessFlags := 25, slot := 11, constantValue := 0 }, { name := "T_CHAR", type := .int, accessFlags := 25, slot := 12, constantValue := 0 }, { name := "T_FLOAT", type := .int, accessFlags := 25, slot := 13, constantValue := 0 }, { name := "T_DOUBLE", type := .int, accessFlags := 25, slot := 14, constantValue := 0 }, { name := "T_BYTE", type := .int, accessFlags := 25, slot := 15, constantValue := 0 }, { name := "T_SHORT", type := .int, accessFlags := 25, slot := 16, constantValue := 0 }, { name := "T_INT", type := .int, accessFlags := 25, slot := 17, constantValue := 0 }, { name := "T_LONG", type := .int, accessFlags := 25, slot := 18, constantValue := 0 }, { name := "JLA", type := (.object "jdk/internal/access/JavaLangAccess"), accessFlags := 26, slot := 19, constantValue := 0 }, { name := "SOFT_MAX_ARRAY_LENGTH", type := .int, accessFlags := 25, slot := 20, constantValue := 0 }]
  methods := #[k22m0]
  instanceTypes := #[]
  staticTypes := #[(.object "jdk/internal/misc/Unsafe"), .boolean, .int, .int, .int, .int, .int, .int, .int, .int, .int, .int, .int, .int, .int, .int, .int, .int, .int, (.object "jdk/internal/access/JavaLangAccess"), .int]
  resolved := Array.replicate 378 none
  statics := none }

def pool23 : Array CpInfo := pool [(1, u "java/lang/Cloneable"), (0, .class_ 1), (0, u "java/lang/Object"), (0, .class_ 3)] 3

/-- java/lang/Cloneable -/
def k23 : Class := { plain "java/lang/Cloneable" (some 0) with
  accessFlags := 1537
  interfaces := #[]
  cf := some (fileOf pool23 2 #[] #[] 1537 4 #[] #[])
  fields := #[]
  methods := #[]
  instanceTypes := #[]
  staticTypes := #[]
  resolved := Array.replicate 8 none
  statics := none }

/-- the primitive byte -/
def k24 : Class := { plain "byte" none with kind := .primitive 'B', accessFlags := 0x411 }
/-- [B -/
def k25 : Class := { plain "[B" (some 0) with kind := .array 24 .byte, interfaces := #[23, 4], accessFlags := 1041 }

/-- the primitive int -/
def k26 : Class := { plain "int" none with kind := .primitive 'I', accessFlags := 0x411 }
/-- [I -/
def k27 : Class := { plain "[I" (some 0) with kind := .array 26 .int, interfaces := #[23, 4], accessFlags := 1041 }

def heap : Heap := #[{ cls := 6, slots := #[.ref 4, .ref 7, .ref 11, .ref 8, .ref 14, .null], vm := .statics 6 },
  { cls := 14, slots := #[.long 0, .int 1, .null, .int 0, .null, .int 0, .int 0], vm := .statics 14 },
  { cls := 17, slots := #[.int 0, .int 0, .null, .null, .ref 20, .ref 19, .int 0, .int 0, .long 0], vm := .statics 17 },
  { cls := 21, slots := #[.null, .null, .null], vm := .statics 21 },
  { cls := 6, slots := #[.null, .int 0, .int 0, .ref 5, .int 0], vm := .none },
  { cls := 14, slots := #[.ref 6, .int 0, .int 0, .int 0], vm := .none },
  { cls := 25, slots := #[.int 37, .int 73, .int 88], vm := .none },
  { cls := 6, slots := #[.null, .int 1, .int 0, .ref 12, .int 0], vm := .none },
  { cls := 6, slots := #[.null, .int 3, .int 0, .ref 9, .int 0], vm := .none },
  { cls := 14, slots := #[.ref 10, .int 0, .int 0, .int 0], vm := .none },
  { cls := 25, slots := #[.int 37, .int 81, .int 87], vm := .none },
  { cls := 6, slots := #[.null, .int 2, .int 0, .ref 17, .int 0], vm := .none },
  { cls := 14, slots := #[.ref 13, .int 0, .int 0, .int 0], vm := .none },
  { cls := 25, slots := #[.int 37, .int 81, .int 88], vm := .none },
  { cls := 6, slots := #[.null, .int 4, .int 0, .ref 15, .int 0], vm := .none },
  { cls := 14, slots := #[.ref 16, .int 0, .int 0, .int 0], vm := .none },
  { cls := 25, slots := #[.int 37, .int 77, .int 87], vm := .none },
  { cls := 14, slots := #[.ref 18, .int 0, .int 0, .int 0], vm := .none },
  { cls := 25, slots := #[.int 37, .int 73, .int 87], vm := .none },
  { cls := 25, slots := #[.int 48, .int 49, .int 50, .int 51, .int 52, .int 53, .int 54, .int 55, .int 56, .int 57, .int 48, .int 49, .int 50, .int 51, .int 52, .int 53, .int 54, .int 55, .int 56, .int 57, .int 48, .int 49, .int 50, .int 51, .int 52, .int 53, .int 54, .int 55, .int 56, .int 57, .int 48, .int 49, .int 50, .int 51, .int 52, .int 53, .int 54, .int 55, .int 56, .int 57, .int 48, .int 49, .int 50, .int 51, .int 52, .int 53, .int 54, .int 55, .int 56, .int 57, .int 48, .int 49, .int 50, .int 51, .int 52, .int 53, .int 54, .int 55, .int 56, .int 57, .int 48, .int 49, .int 50, .int 51, .int 52, .int 53, .int 54, .int 55, .int 56, .int 57, .int 48, .int 49, .int 50, .int 51, .int 52, .int 53, .int 54, .int 55, .int 56, .int 57, .int 48, .int 49, .int 50, .int 51, .int 52, .int 53, .int 54, .int 55, .int 56, .int 57, .int 48, .int 49, .int 50, .int 51, .int 52, .int 53, .int 54, .int 55, .int 56, .int 57], vm := .none },
  { cls := 25, slots := #[.int 48, .int 48, .int 48, .int 48, .int 48, .int 48, .int 48, .int 48, .int 48, .int 48, .int 49, .int 49, .int 49, .int 49, .int 49, .int 49, .int 49, .int 49, .int 49, .int 49, .int 50, .int 50, .int 50, .int 50, .int 50, .int 50, .int 50, .int 50, .int 50, .int 50, .int 51, .int 51, .int 51, .int 51, .int 51, .int 51, .int 51, .int 51, .int 51, .int 51, .int 52, .int 52, .int 52, .int 52, .int 52, .int 52, .int 52, .int 52, .int 52, .int 52, .int 53, .int 53, .int 53, .int 53, .int 53, .int 53, .int 53, .int 53, .int 53, .int 53, .int 54, .int 54, .int 54, .int 54, .int 54, .int 54, .int 54, .int 54, .int 54, .int 54, .int 55, .int 55, .int 55, .int 55, .int 55, .int 55, .int 55, .int 55, .int 55, .int 55, .int 56, .int 56, .int 56, .int 56, .int 56, .int 56, .int 56, .int 56, .int 56, .int 56, .int 57, .int 57, .int 57, .int 57, .int 57, .int 57, .int 57, .int 57, .int 57, .int 57], vm := .none }]
def classes : Array Class := #[k0, k1, k2, k3, k4, k5, k6, k7, k8, k9, k10, k11, k12, k13, k14, k15, k16, k17, k18, k19, k20, k21, k22, k23, k24, k25, k26, k27]
def interned : List (Array UInt16 × Addr) := []
def slotsUsed : Nat := 285
def theMethod : MethodId := ⟨1, 2⟩
def args0 : Array Value := #[.int 5]
def aboutOver (below : List Frame) : State where
  vm := { classes := classes, interned := interned.toArray }
  heap := heap
  slotsUsed := slotsUsed
  threads := #[{ frames := .invoking theMethod args0 :: below }]
def below0 : List Frame := [.native { method := ⟨0, 0⟩, args := #[] }]
def about1 : State := aboutOver below0
def p0 : Program := .bare "" "" ""
def e0 : Env := launch0.env 0 0 0
theorem w_frames : about1.frames = Frame.invoking theMethod args0 :: below0 := rfl
set_option maxRecDepth 65536 in
theorem w_args : argsFit about1.vm theMethod args0 = true := by decide +kernel
set_option maxRecDepth 65536 in
theorem w_heap : heapFits about1 = true := by decide +kernel
set_option maxRecDepth 65536 in
theorem w_runnable : about1.curStatus? = some .runnable := by decide +kernel
set_option maxRecDepth 65536 in
theorem w_alone : about1.alone = true := by decide +kernel
set_option maxRecDepth 65536 in
theorem w_named : about1.methodNamed? x = some theMethod := by decide +kernel
set_option maxRecDepth 65536 in
theorem w_hears : about1.hears theMethod below0 = true := by decide +kernel
set_option maxRecDepth 65536 in
theorem w_ripe : about1.ripe theMethod args0 below0 = true := by decide +kernel
theorem w_running : about1.status = .running := rfl
set_option maxRecDepth 65536 in
theorem w_room : about1.hasRoom e0.platform room_1 = true :=
  launch0.hasRoom_least _ room_1 (by decide +kernel) (by decide +kernel) (by decide +kernel) (by decide +kernel) (by decide +kernel) (by decide +kernel)
theorem allAtoms_all (ts : List Jvm.Cond) (a : Array Jvm.Value) (st : Jvm.State) : (allAtoms ts).before a st = ts.all (fun c => c.before a st) := by
  induction ts with
  | nil => rfl
  | cons c t ih =>
    show (Jvm.Cond.and c (allAtoms t)).before a st = _
    rw [Jvm.Cond.before_and, ih, List.all_cons]
def words1 : List Jvm.Cond := Jvm.Cond.code x code maxLocals ret :: tables_1
/-- a 'code' word, met by the world's own term for the bytes: nothing is compared byte by byte -/
theorem code_word {y : MethodName} {bytes : ByteArray} {mx : Nat} {rt : Option FieldType} {a : Array Value} {s : State} {m : MethodId} {meth : Method} {c : Code} (h1 : s.methodNamed? y = some m) (h2 : s.vm.method? m = some meth) (h3 : meth.code = some c) (h4 : c.code = bytes)
    (h5 : (c.maxLocals == mx && c.exceptionTable.isEmpty && decide (c.maxStack ≤ mostOperands) && decide (meth.sig.returnType = rt) && !meth.locks && decide (parseMethodDescriptor y.desc = some meth.sig)) = true) : (Jvm.Cond.code y bytes mx rt).before a s = true := by
  simp only [Bool.and_eq_true, beq_iff_eq, Bool.not_eq_true', decide_eq_true_eq] at h5
  obtain ⟨⟨⟨⟨⟨g1, g2⟩, g3⟩, g4⟩, g5⟩, g6⟩ := h5
  simp [Cond.before, Cond.holds, Cond.value, h1, h2, h3, h4, g1, g2, g3, g4, g5, g6]
def isCode : Jvm.Cond → Bool
  | .code _ _ _ _ => true
  | _ => false
theorem all_split {L : List Jvm.Cond} {P : Jvm.Cond → Bool} (h1 : L.all (fun c => isCode c || P c) = true) (h2 : ∀ c ∈ L.filter isCode, P c = true) : L.all P = true := by
  refine List.all_eq_true.mpr fun c hc => ?_
  have h := List.all_eq_true.mp h1 c hc
  rcases Bool.eq_false_or_eq_true (isCode c) with hi | hi
  · exact h2 c (List.mem_filter.mpr ⟨hc, hi⟩)
  · simpa [hi] using h
set_option maxRecDepth 65536 in
theorem w_c0 : (Jvm.Cond.code x code maxLocals ret).before args0 about1 = true := code_word (m := ⟨1, 2⟩) (meth := k1m2) (c := k1c2) (by decide +kernel) rfl rfl rfl (by decide +kernel)
set_option maxRecDepth 65536 in
theorem w_c1 : (Jvm.Cond.code ({ cls := "com/example/hotrung/hotrung/image/AreaIsOutputPinLaw", name := "pick", desc := "(I)Lcom/example/hotrung/hotrung/image/Address$Area;" } : Jvm.MethodName) method_2_code (1 : Nat) (Option.some (Jvm.ClassFile.FieldType.object "com/example/hotrung/hotrung/image/Address$Area"))).before args0 about1 = true := code_word (m := ⟨1, 1⟩) (meth := k1m1) (c := k1c1) (by decide +kernel) rfl rfl rfl (by decide +kernel)
set_option maxRecDepth 65536 in
theorem w_c2 : (Jvm.Cond.code ({ cls := "com/example/hotrung/hotrung/image/Address", name := "<init>", desc := "(Lcom/example/hotrung/hotrung/image/Address$Area;I)V" } : Jvm.MethodName) prog_30_method_1_code (3 : Nat) (Option.none : Option Jvm.ClassFile.FieldType)).before args0 about1 = true := code_word (m := ⟨8, 0⟩) (meth := k8m0) (c := k8c0) (by decide +kernel) rfl rfl rfl (by decide +kernel)
set_option maxRecDepth 65536 in
theorem w_c3 : (Jvm.Cond.code ({ cls := "java/lang/Record", name := "<init>", desc := "()V" } : Jvm.MethodName) jdk_30_method_1_code (1 : Nat) (Option.none : Option Jvm.ClassFile.FieldType)).before args0 about1 = true := code_word (m := ⟨7, 0⟩) (meth := k7m0) (c := k7c0) (by decide +kernel) rfl rfl rfl (by decide +kernel)
set_option maxRecDepth 65536 in
theorem w_c4 : (Jvm.Cond.code ({ cls := "java/lang/Object", name := "<init>", desc := "()V" } : Jvm.MethodName) object_method_1_code (1 : Nat) (Option.none : Option Jvm.ClassFile.FieldType)).before args0 about1 = true := code_word (m := ⟨0, 0⟩) (meth := k0m0) (c := k0c0) (by decide +kernel) rfl rfl rfl (by decide +kernel)
set_option maxRecDepth 65536 in
theorem w_c5 : (Jvm.Cond.code ({ cls := "com/example/hotrung/hotrung/image/Address", name := "toString", desc := "()Ljava/lang/String;" } : Jvm.MethodName) prog_30_method_5_code (1 : Nat) (Option.some (Jvm.ClassFile.FieldType.object "java/lang/String"))).before args0 about1 = true := code_word (m := ⟨8, 1⟩) (meth := k8m1) (c := k8c1) (by decide +kernel) rfl rfl rfl (by decide +kernel)
set_option maxRecDepth 65536 in
theorem w_c6 : (Jvm.Cond.code ({ cls := "com/example/hotrung/hotrung/image/Address$Area", name := "isBit", desc := "()Z" } : Jvm.MethodName) prog_31_method_5_code (1 : Nat) (Option.some Jvm.ClassFile.FieldType.boolean)).before args0 about1 = true := code_word (m := ⟨6, 0⟩) (meth := k6m0) (c := k6c0) (by decide +kernel) rfl rfl rfl (by decide +kernel)
set_option maxRecDepth 65536 in
theorem w_c7 : (Jvm.Cond.code ({ cls := "java/lang/StringBuilder", name := "<init>", desc := "()V" } : Jvm.MethodName) jdk_67_method_1_code (1 : Nat) (Option.none : Option Jvm.ClassFile.FieldType)).before args0 about1 = true := code_word (m := ⟨12, 0⟩) (meth := k12m0) (c := k12c0) (by decide +kernel) rfl rfl rfl (by decide +kernel)
set_option maxRecDepth 65536 in
theorem w_c8 : (Jvm.Cond.code ({ cls := "java/lang/AbstractStringBuilder", name := "<init>", desc := "(I)V" } : Jvm.MethodName) jdk_68_method_2_code (2 : Nat) (Option.none : Option Jvm.ClassFile.FieldType)).before args0 about1 = true := code_word (m := ⟨11, 1⟩) (meth := k11m1) (c := k11c1) (by decide +kernel) rfl rfl rfl (by decide +kernel)
set_option maxRecDepth 65536 in
theorem w_c9 : (Jvm.Cond.code ({ cls := "java/lang/StringBuilder", name := "append", desc := "(Ljava/lang/String;)Ljava/lang/StringBuilder;" } : Jvm.MethodName) jdk_67_method_7_code (2 : Nat) (Option.some (Jvm.ClassFile.FieldType.object "java/lang/StringBuilder"))).before args0 about1 = true := code_word (m := ⟨12, 1⟩) (meth := k12m1) (c := k12c1) (by decide +kernel) rfl rfl rfl (by decide +kernel)
set_option maxRecDepth 65536 in
theorem w_c10 : (Jvm.Cond.code ({ cls := "java/lang/AbstractStringBuilder", name := "append", desc := "(Ljava/lang/String;)Ljava/lang/AbstractStringBuilder;" } : Jvm.MethodName) jdk_68_method_22_code (3 : Nat) (Option.some (Jvm.ClassFile.FieldType.object "java/lang/AbstractStringBuilder"))).before args0 about1 = true := code_word (m := ⟨11, 4⟩) (meth := k11m4) (c := k11c4) (by decide +kernel) rfl rfl rfl (by decide +kernel)
set_option maxRecDepth 65536 in
theorem w_c11 : (Jvm.Cond.code ({ cls := "java/lang/String", name := "length", desc := "()I" } : Jvm.MethodName) jdk_42_method_54_code (1 : Nat) (Option.some Jvm.ClassFile.FieldType.int)).before args0 about1 = true := code_word (m := ⟨14, 2⟩) (meth := k14m2) (c := k14c2) (by decide +kernel) rfl rfl rfl (by decide +kernel)
set_option maxRecDepth 65536 in
theorem w_c12 : (Jvm.Cond.code ({ cls := "java/lang/String", name := "coder", desc := "()B" } : Jvm.MethodName) jdk_42_method_152_code (1 : Nat) (Option.some Jvm.ClassFile.FieldType.byte)).before args0 about1 = true := code_word (m := ⟨14, 6⟩) (meth := k14m6) (c := k14c6) (by decide +kernel) rfl rfl rfl (by decide +kernel)
set_option maxRecDepth 65536 in
theorem w_c13 : (Jvm.Cond.code ({ cls := "java/lang/AbstractStringBuilder", name := "ensureCapacityInternal", desc := "(I)V" } : Jvm.MethodName) jdk_68_method_9_code (3 : Nat) (Option.none : Option Jvm.ClassFile.FieldType)).before args0 about1 = true := code_word (m := ⟨11, 3⟩) (meth := k11m3) (c := k11c3) (by decide +kernel) rfl rfl rfl (by decide +kernel)
set_option maxRecDepth 65536 in
theorem w_c14 : (Jvm.Cond.code ({ cls := "java/lang/AbstractStringBuilder", name := "putStringAt", desc := "(ILjava/lang/String;)V" } : Jvm.MethodName) jdk_68_method_73_code (3 : Nat) (Option.none : Option Jvm.ClassFile.FieldType)).before args0 about1 = true := code_word (m := ⟨11, 9⟩) (meth := k11m9) (c := k11c9) (by decide +kernel) rfl rfl rfl (by decide +kernel)
set_option maxRecDepth 65536 in
theorem w_c15 : (Jvm.Cond.code ({ cls := "java/lang/AbstractStringBuilder", name := "inflateIfNeededFor", desc := "(Ljava/lang/String;)V" } : Jvm.MethodName) jdk_68_method_71_code (2 : Nat) (Option.none : Option Jvm.ClassFile.FieldType)).before args0 about1 = true := code_word (m := ⟨11, 8⟩) (meth := k11m8) (c := k11c8) (by decide +kernel) rfl rfl rfl (by decide +kernel)
set_option maxRecDepth 65536 in
theorem w_c16 : (Jvm.Cond.code ({ cls := "java/lang/String", name := "getBytes", desc := "([BIB)V" } : Jvm.MethodName) jdk_42_method_147_code (4 : Nat) (Option.none : Option Jvm.ClassFile.FieldType)).before args0 about1 = true := code_word (m := ⟨14, 4⟩) (meth := k14m4) (c := k14c4) (by decide +kernel) rfl rfl rfl (by decide +kernel)
set_option maxRecDepth 65536 in
theorem w_c17 : (Jvm.Cond.code ({ cls := "java/lang/StringBuilder", name := "append", desc := "(I)Ljava/lang/StringBuilder;" } : Jvm.MethodName) jdk_67_method_15_code (2 : Nat) (Option.some (Jvm.ClassFile.FieldType.object "java/lang/StringBuilder"))).before args0 about1 = true := code_word (m := ⟨12, 2⟩) (meth := k12m2) (c := k12c2) (by decide +kernel) rfl rfl rfl (by decide +kernel)
set_option maxRecDepth 65536 in
theorem w_c18 : (Jvm.Cond.code ({ cls := "java/lang/AbstractStringBuilder", name := "append", desc := "(I)Ljava/lang/AbstractStringBuilder;" } : Jvm.MethodName) jdk_68_method_32_code (4 : Nat) (Option.some (Jvm.ClassFile.FieldType.object "java/lang/AbstractStringBuilder"))).before args0 about1 = true := code_word (m := ⟨11, 5⟩) (meth := k11m5) (c := k11c5) (by decide +kernel) rfl rfl rfl (by decide +kernel)
set_option maxRecDepth 65536 in
theorem w_c19 : (Jvm.Cond.code ({ cls := "java/lang/Integer", name := "stringSize", desc := "(I)I" } : Jvm.MethodName) jdk_33_method_13_code (4 : Nat) (Option.some Jvm.ClassFile.FieldType.int)).before args0 about1 = true := code_word (m := ⟨17, 1⟩) (meth := k17m1) (c := k17c1) (by decide +kernel) rfl rfl rfl (by decide +kernel)
set_option maxRecDepth 65536 in
theorem w_c20 : (Jvm.Cond.code ({ cls := "java/lang/AbstractStringBuilder", name := "isLatin1", desc := "()Z" } : Jvm.MethodName) jdk_68_method_68_code (1 : Nat) (Option.some Jvm.ClassFile.FieldType.boolean)).before args0 about1 = true := code_word (m := ⟨11, 7⟩) (meth := k11m7) (c := k11c7) (by decide +kernel) rfl rfl rfl (by decide +kernel)
set_option maxRecDepth 65536 in
theorem w_c21 : (Jvm.Cond.code ({ cls := "java/lang/Integer", name := "getChars", desc := "(II[B)I" } : Jvm.MethodName) jdk_33_method_12_code (7 : Nat) (Option.some Jvm.ClassFile.FieldType.int)).before args0 about1 = true := code_word (m := ⟨17, 0⟩) (meth := k17m0) (c := k17c0) (by decide +kernel) rfl rfl rfl (by decide +kernel)
set_option maxRecDepth 65536 in
theorem w_c22 : (Jvm.Cond.code ({ cls := "java/lang/StringBuilder", name := "toString", desc := "()Ljava/lang/String;" } : Jvm.MethodName) jdk_67_method_42_code (1 : Nat) (Option.some (Jvm.ClassFile.FieldType.object "java/lang/String"))).before args0 about1 = true := code_word (m := ⟨12, 3⟩) (meth := k12m3) (c := k12c3) (by decide +kernel) rfl rfl rfl (by decide +kernel)
set_option maxRecDepth 65536 in
theorem w_c23 : (Jvm.Cond.code ({ cls := "java/lang/String", name := "<init>", desc := "(Ljava/lang/StringBuilder;)V" } : Jvm.MethodName) jdk_42_method_53_code (2 : Nat) (Option.none : Option Jvm.ClassFile.FieldType)).before args0 about1 = true := code_word (m := ⟨14, 1⟩) (meth := k14m1) (c := k14c1) (by decide +kernel) rfl rfl rfl (by decide +kernel)
set_option maxRecDepth 65536 in
theorem w_c24 : (Jvm.Cond.code ({ cls := "java/lang/String", name := "<init>", desc := "(Ljava/lang/AbstractStringBuilder;Ljava/lang/Void;)V" } : Jvm.MethodName) jdk_42_method_150_code (5 : Nat) (Option.none : Option Jvm.ClassFile.FieldType)).before args0 about1 = true := code_word (m := ⟨14, 5⟩) (meth := k14m5) (c := k14c5) (by decide +kernel) rfl rfl rfl (by decide +kernel)
set_option maxRecDepth 65536 in
theorem w_c25 : (Jvm.Cond.code ({ cls := "java/lang/AbstractStringBuilder", name := "getValue", desc := "()[B" } : Jvm.MethodName) jdk_68_method_64_code (1 : Nat) (Option.some (Jvm.ClassFile.FieldType.array Jvm.ClassFile.FieldType.byte))).before args0 about1 = true := code_word (m := ⟨11, 6⟩) (meth := k11m6) (c := k11c6) (by decide +kernel) rfl rfl rfl (by decide +kernel)
set_option maxRecDepth 65536 in
theorem w_c26 : (Jvm.Cond.code ({ cls := "java/lang/StringBuilder", name := "length", desc := "()I" } : Jvm.MethodName) jdk_67_method_93_code (1 : Nat) (Option.some Jvm.ClassFile.FieldType.int)).before args0 about1 = true := code_word (m := ⟨12, 4⟩) (meth := k12m4) (c := k12c4) (by decide +kernel) rfl rfl rfl (by decide +kernel)
set_option maxRecDepth 65536 in
theorem w_c27 : (Jvm.Cond.code ({ cls := "java/lang/AbstractStringBuilder", name := "length", desc := "()I" } : Jvm.MethodName) jdk_68_method_6_code (1 : Nat) (Option.some Jvm.ClassFile.FieldType.int)).before args0 about1 = true := code_word (m := ⟨11, 2⟩) (meth := k11m2) (c := k11c2) (by decide +kernel) rfl rfl rfl (by decide +kernel)
set_option maxRecDepth 65536 in
theorem w_c28 : (Jvm.Cond.code ({ cls := "java/util/Arrays", name := "copyOfRange", desc := "([BII)[B" } : Jvm.MethodName) jdk_65_method_132_code (3 : Nat) (Option.some (Jvm.ClassFile.FieldType.array Jvm.ClassFile.FieldType.byte))).before args0 about1 = true := code_word (m := ⟨18, 2⟩) (meth := k18m2) (c := k18c2) (by decide +kernel) rfl rfl rfl (by decide +kernel)
set_option maxRecDepth 65536 in
theorem w_c29 : (Jvm.Cond.code ({ cls := "java/util/Arrays", name := "copyOfRangeByte", desc := "([BII)[B" } : Jvm.MethodName) jdk_65_method_133_code (5 : Nat) (Option.some (Jvm.ClassFile.FieldType.array Jvm.ClassFile.FieldType.byte))).before args0 about1 = true := code_word (m := ⟨18, 3⟩) (meth := k18m3) (c := k18c3) (by decide +kernel) rfl rfl rfl (by decide +kernel)
set_option maxRecDepth 65536 in
theorem w_c30 : (Jvm.Cond.code ({ cls := "java/util/Arrays", name := "checkLength", desc := "(II)V" } : Jvm.MethodName) jdk_65_method_131_code (2 : Nat) (Option.none : Option Jvm.ClassFile.FieldType)).before args0 about1 = true := code_word (m := ⟨18, 1⟩) (meth := k18m1) (c := k18c1) (by decide +kernel) rfl rfl rfl (by decide +kernel)
set_option maxRecDepth 65536 in
theorem w_c31 : (Jvm.Cond.code ({ cls := "java/lang/Math", name := "min", desc := "(II)I" } : Jvm.MethodName) jdk_29_method_69_code (2 : Nat) (Option.some Jvm.ClassFile.FieldType.int)).before args0 about1 = true := code_word (m := ⟨19, 1⟩) (meth := k19m1) (c := k19c1) (by decide +kernel) rfl rfl rfl (by decide +kernel)
set_option maxRecDepth 65536 in
theorem w_c32 : (Jvm.Cond.code ({ cls := "java/lang/String", name := "charAt", desc := "(I)C" } : Jvm.MethodName) jdk_42_method_56_code (2 : Nat) (Option.some Jvm.ClassFile.FieldType.char)).before args0 about1 = true := code_word (m := ⟨14, 3⟩) (meth := k14m3) (c := k14c3) (by decide +kernel) rfl rfl rfl (by decide +kernel)
set_option maxRecDepth 65536 in
theorem w_c33 : (Jvm.Cond.code ({ cls := "java/lang/String", name := "isLatin1", desc := "()Z" } : Jvm.MethodName) jdk_42_method_154_code (1 : Nat) (Option.some Jvm.ClassFile.FieldType.boolean)).before args0 about1 = true := code_word (m := ⟨14, 7⟩) (meth := k14m7) (c := k14c7) (by decide +kernel) rfl rfl rfl (by decide +kernel)
set_option maxRecDepth 65536 in
theorem w_c34 : (Jvm.Cond.code ({ cls := "java/lang/StringLatin1", name := "charAt", desc := "([BI)C" } : Jvm.MethodName) jdk_43_method_2_code (2 : Nat) (Option.some Jvm.ClassFile.FieldType.char)).before args0 about1 = true := code_word (m := ⟨20, 1⟩) (meth := k20m1) (c := k20c1) (by decide +kernel) rfl rfl rfl (by decide +kernel)
set_option maxRecDepth 65536 in
theorem w_c35 : (Jvm.Cond.code ({ cls := "java/lang/String", name := "checkIndex", desc := "(II)V" } : Jvm.MethodName) jdk_42_method_155_code (2 : Nat) (Option.none : Option Jvm.ClassFile.FieldType)).before args0 about1 = true := code_word (m := ⟨14, 8⟩) (meth := k14m8) (c := k14c8) (by decide +kernel) rfl rfl rfl (by decide +kernel)
set_option maxRecDepth 65536 in
theorem w_c36 : (Jvm.Cond.code ({ cls := "jdk/internal/util/Preconditions", name := "checkIndex", desc := "(IILjava/util/function/BiFunction;)I" } : Jvm.MethodName) jdk_41_method_11_code (3 : Nat) (Option.some Jvm.ClassFile.FieldType.int)).before args0 about1 = true := code_word (m := ⟨21, 1⟩) (meth := k21m1) (c := k21c1) (by decide +kernel) rfl rfl rfl (by decide +kernel)
set_option maxRecDepth 65536 in
theorem w_c37 : (Jvm.Cond.code ({ cls := "com/example/hotrung/hotrung/image/Address$Area", name := "isOutput", desc := "()Z" } : Jvm.MethodName) prog_31_method_7_code (1 : Nat) (Option.some Jvm.ClassFile.FieldType.boolean)).before args0 about1 = true := code_word (m := ⟨6, 2⟩) (meth := k6m2) (c := k6c2) (by decide +kernel) rfl rfl rfl (by decide +kernel)
set_option maxRecDepth 65536 in
theorem w_c38 : (Jvm.Cond.code ({ cls := "com/example/hotrung/hotrung/image/Address$Area", name := "isInput", desc := "()Z" } : Jvm.MethodName) prog_31_method_6_code (1 : Nat) (Option.some Jvm.ClassFile.FieldType.boolean)).before args0 about1 = true := code_word (m := ⟨6, 1⟩) (meth := k6m1) (c := k6c1) (by decide +kernel) rfl rfl rfl (by decide +kernel)
def codes1 : List Jvm.Cond := [Jvm.Cond.code x code maxLocals ret, Jvm.Cond.code ({ cls := "com/example/hotrung/hotrung/image/AreaIsOutputPinLaw", name := "pick", desc := "(I)Lcom/example/hotrung/hotrung/image/Address$Area;" } : Jvm.MethodName) method_2_code (1 : Nat) (Option.some (Jvm.ClassFile.FieldType.object "com/example/hotrung/hotrung/image/Address$Area")), Jvm.Cond.code ({ cls := "com/example/hotrung/hotrung/image/Address", name := "<init>", desc := "(Lcom/example/hotrung/hotrung/image/Address$Area;I)V" } : Jvm.MethodName) prog_30_method_1_code (3 : Nat) (Option.none : Option Jvm.ClassFile.FieldType), Jvm.Cond.code ({ cls := "java/lang/Record", name := "<init>", desc := "()V" } : Jvm.MethodName) jdk_30_method_1_code (1 : Nat) (Option.none : Option Jvm.ClassFile.FieldType), Jvm.Cond.code ({ cls := "java/lang/Object", name := "<init>", desc := "()V" } : Jvm.MethodName) object_method_1_code (1 : Nat) (Option.none : Option Jvm.ClassFile.FieldType), Jvm.Cond.code ({ cls := "com/example/hotrung/hotrung/image/Address", name := "toString", desc := "()Ljava/lang/String;" } : Jvm.MethodName) prog_30_method_5_code (1 : Nat) (Option.some (Jvm.ClassFile.FieldType.object "java/lang/String")), Jvm.Cond.code ({ cls := "com/example/hotrung/hotrung/image/Address$Area", name := "isBit", desc := "()Z" } : Jvm.MethodName) prog_31_method_5_code (1 : Nat) (Option.some Jvm.ClassFile.FieldType.boolean), Jvm.Cond.code ({ cls := "java/lang/StringBuilder", name := "<init>", desc := "()V" } : Jvm.MethodName) jdk_67_method_1_code (1 : Nat) (Option.none : Option Jvm.ClassFile.FieldType), Jvm.Cond.code ({ cls := "java/lang/AbstractStringBuilder", name := "<init>", desc := "(I)V" } : Jvm.MethodName) jdk_68_method_2_code (2 : Nat) (Option.none : Option Jvm.ClassFile.FieldType), Jvm.Cond.code ({ cls := "java/lang/StringBuilder", name := "append", desc := "(Ljava/lang/String;)Ljava/lang/StringBuilder;" } : Jvm.MethodName) jdk_67_method_7_code (2 : Nat) (Option.some (Jvm.ClassFile.FieldType.object "java/lang/StringBuilder")), Jvm.Cond.code ({ cls := "java/lang/AbstractStringBuilder", name := "append", desc := "(Ljava/lang/String;)Ljava/lang/AbstractStringBuilder;" } : Jvm.MethodName) jdk_68_method_22_code (3 : Nat) (Option.some (Jvm.ClassFile.FieldType.object "java/lang/AbstractStringBuilder")), Jvm.Cond.code ({ cls := "java/lang/String", name := "length", desc := "()I" } : Jvm.MethodName) jdk_42_method_54_code (1 : Nat) (Option.some Jvm.ClassFile.FieldType.int), Jvm.Cond.code ({ cls := "java/lang/String", name := "coder", desc := "()B" } : Jvm.MethodName) jdk_42_method_152_code (1 : Nat) (Option.some Jvm.ClassFile.FieldType.byte), Jvm.Cond.code ({ cls := "java/lang/AbstractStringBuilder", name := "ensureCapacityInternal", desc := "(I)V" } : Jvm.MethodName) jdk_68_method_9_code (3 : Nat) (Option.none : Option Jvm.ClassFile.FieldType), Jvm.Cond.code ({ cls := "java/lang/AbstractStringBuilder", name := "putStringAt", desc := "(ILjava/lang/String;)V" } : Jvm.MethodName) jdk_68_method_73_code (3 : Nat) (Option.none : Option Jvm.ClassFile.FieldType), Jvm.Cond.code ({ cls := "java/lang/AbstractStringBuilder", name := "inflateIfNeededFor", desc := "(Ljava/lang/String;)V" } : Jvm.MethodName) jdk_68_method_71_code (2 : Nat) (Option.none : Option Jvm.ClassFile.FieldType), Jvm.Cond.code ({ cls := "java/lang/String", name := "getBytes", desc := "([BIB)V" } : Jvm.MethodName) jdk_42_method_147_code (4 : Nat) (Option.none : Option Jvm.ClassFile.FieldType), Jvm.Cond.code ({ cls := "java/lang/StringBuilder", name := "append", desc := "(I)Ljava/lang/StringBuilder;" } : Jvm.MethodName) jdk_67_method_15_code (2 : Nat) (Option.some (Jvm.ClassFile.FieldType.object "java/lang/StringBuilder")), Jvm.Cond.code ({ cls := "java/lang/AbstractStringBuilder", name := "append", desc := "(I)Ljava/lang/AbstractStringBuilder;" } : Jvm.MethodName) jdk_68_method_32_code (4 : Nat) (Option.some (Jvm.ClassFile.FieldType.object "java/lang/AbstractStringBuilder")), Jvm.Cond.code ({ cls := "java/lang/Integer", name := "stringSize", desc := "(I)I" } : Jvm.MethodName) jdk_33_method_13_code (4 : Nat) (Option.some Jvm.ClassFile.FieldType.int), Jvm.Cond.code ({ cls := "java/lang/AbstractStringBuilder", name := "isLatin1", desc := "()Z" } : Jvm.MethodName) jdk_68_method_68_code (1 : Nat) (Option.some Jvm.ClassFile.FieldType.boolean), Jvm.Cond.code ({ cls := "java/lang/Integer", name := "getChars", desc := "(II[B)I" } : Jvm.MethodName) jdk_33_method_12_code (7 : Nat) (Option.some Jvm.ClassFile.FieldType.int), Jvm.Cond.code ({ cls := "java/lang/StringBuilder", name := "toString", desc := "()Ljava/lang/String;" } : Jvm.MethodName) jdk_67_method_42_code (1 : Nat) (Option.some (Jvm.ClassFile.FieldType.object "java/lang/String")), Jvm.Cond.code ({ cls := "java/lang/String", name := "<init>", desc := "(Ljava/lang/StringBuilder;)V" } : Jvm.MethodName) jdk_42_method_53_code (2 : Nat) (Option.none : Option Jvm.ClassFile.FieldType), Jvm.Cond.code ({ cls := "java/lang/String", name := "<init>", desc := "(Ljava/lang/AbstractStringBuilder;Ljava/lang/Void;)V" } : Jvm.MethodName) jdk_42_method_150_code (5 : Nat) (Option.none : Option Jvm.ClassFile.FieldType), Jvm.Cond.code ({ cls := "java/lang/AbstractStringBuilder", name := "getValue", desc := "()[B" } : Jvm.MethodName) jdk_68_method_64_code (1 : Nat) (Option.some (Jvm.ClassFile.FieldType.array Jvm.ClassFile.FieldType.byte)), Jvm.Cond.code ({ cls := "java/lang/StringBuilder", name := "length", desc := "()I" } : Jvm.MethodName) jdk_67_method_93_code (1 : Nat) (Option.some Jvm.ClassFile.FieldType.int), Jvm.Cond.code ({ cls := "java/lang/AbstractStringBuilder", name := "length", desc := "()I" } : Jvm.MethodName) jdk_68_method_6_code (1 : Nat) (Option.some Jvm.ClassFile.FieldType.int), Jvm.Cond.code ({ cls := "java/util/Arrays", name := "copyOfRange", desc := "([BII)[B" } : Jvm.MethodName) jdk_65_method_132_code (3 : Nat) (Option.some (Jvm.ClassFile.FieldType.array Jvm.ClassFile.FieldType.byte)), Jvm.Cond.code ({ cls := "java/util/Arrays", name := "copyOfRangeByte", desc := "([BII)[B" } : Jvm.MethodName) jdk_65_method_133_code (5 : Nat) (Option.some (Jvm.ClassFile.FieldType.array Jvm.ClassFile.FieldType.byte)), Jvm.Cond.code ({ cls := "java/util/Arrays", name := "checkLength", desc := "(II)V" } : Jvm.MethodName) jdk_65_method_131_code (2 : Nat) (Option.none : Option Jvm.ClassFile.FieldType), Jvm.Cond.code ({ cls := "java/lang/Math", name := "min", desc := "(II)I" } : Jvm.MethodName) jdk_29_method_69_code (2 : Nat) (Option.some Jvm.ClassFile.FieldType.int), Jvm.Cond.code ({ cls := "java/lang/String", name := "charAt", desc := "(I)C" } : Jvm.MethodName) jdk_42_method_56_code (2 : Nat) (Option.some Jvm.ClassFile.FieldType.char), Jvm.Cond.code ({ cls := "java/lang/String", name := "isLatin1", desc := "()Z" } : Jvm.MethodName) jdk_42_method_154_code (1 : Nat) (Option.some Jvm.ClassFile.FieldType.boolean), Jvm.Cond.code ({ cls := "java/lang/StringLatin1", name := "charAt", desc := "([BI)C" } : Jvm.MethodName) jdk_43_method_2_code (2 : Nat) (Option.some Jvm.ClassFile.FieldType.char), Jvm.Cond.code ({ cls := "java/lang/String", name := "checkIndex", desc := "(II)V" } : Jvm.MethodName) jdk_42_method_155_code (2 : Nat) (Option.none : Option Jvm.ClassFile.FieldType), Jvm.Cond.code ({ cls := "jdk/internal/util/Preconditions", name := "checkIndex", desc := "(IILjava/util/function/BiFunction;)I" } : Jvm.MethodName) jdk_41_method_11_code (3 : Nat) (Option.some Jvm.ClassFile.FieldType.int), Jvm.Cond.code ({ cls := "com/example/hotrung/hotrung/image/Address$Area", name := "isOutput", desc := "()Z" } : Jvm.MethodName) prog_31_method_7_code (1 : Nat) (Option.some Jvm.ClassFile.FieldType.boolean), Jvm.Cond.code ({ cls := "com/example/hotrung/hotrung/image/Address$Area", name := "isInput", desc := "()Z" } : Jvm.MethodName) prog_31_method_6_code (1 : Nat) (Option.some Jvm.ClassFile.FieldType.boolean)]
set_option maxRecDepth 65536 in
theorem codes_eq : words1.filter isCode = codes1 := rfl
theorem w_codes : ∀ c ∈ words1.filter isCode, c.before args0 about1 = true := by
  rw [codes_eq]
  intro c hc
  simp only [codes1, List.mem_cons, List.not_mem_nil, or_false] at hc
  rcases hc with rfl | rfl | rfl | rfl | rfl | rfl | rfl | rfl | rfl | rfl | rfl | rfl | rfl | rfl | rfl | rfl | rfl | rfl | rfl | rfl | rfl | rfl | rfl | rfl | rfl | rfl | rfl | rfl | rfl | rfl | rfl | rfl | rfl | rfl | rfl | rfl | rfl | rfl | rfl
  · exact w_c0
  · exact w_c1
  · exact w_c2
  · exact w_c3
  · exact w_c4
  · exact w_c5
  · exact w_c6
  · exact w_c7
  · exact w_c8
  · exact w_c9
  · exact w_c10
  · exact w_c11
  · exact w_c12
  · exact w_c13
  · exact w_c14
  · exact w_c15
  · exact w_c16
  · exact w_c17
  · exact w_c18
  · exact w_c19
  · exact w_c20
  · exact w_c21
  · exact w_c22
  · exact w_c23
  · exact w_c24
  · exact w_c25
  · exact w_c26
  · exact w_c27
  · exact w_c28
  · exact w_c29
  · exact w_c30
  · exact w_c31
  · exact w_c32
  · exact w_c33
  · exact w_c34
  · exact w_c35
  · exact w_c36
  · exact w_c37
  · exact w_c38
set_option maxRecDepth 65536 in
theorem w_t1 : (words1.take 24).all (fun c => isCode c || c.before args0 about1) = true := by decide +kernel
set_option maxRecDepth 65536 in
theorem w_t2 : ((words1.drop 24).take 24).all (fun c => isCode c || c.before args0 about1) = true := by decide +kernel
set_option maxRecDepth 65536 in
theorem w_t3 : (((words1.drop 24).drop 24).take 24).all (fun c => isCode c || c.before args0 about1) = true := by decide +kernel
set_option maxRecDepth 65536 in
theorem w_t4 : ((((words1.drop 24).drop 24).drop 24).take 24).all (fun c => isCode c || c.before args0 about1) = true := by decide +kernel
set_option maxRecDepth 65536 in
theorem w_t5 : (((((words1.drop 24).drop 24).drop 24).drop 24).take 24).all (fun c => isCode c || c.before args0 about1) = true := by decide +kernel
set_option maxRecDepth 65536 in
theorem w_t6 : ((((((words1.drop 24).drop 24).drop 24).drop 24).drop 24).take 24).all (fun c => isCode c || c.before args0 about1) = true := by decide +kernel
set_option maxRecDepth 65536 in
theorem w_t7 : (((((((words1.drop 24).drop 24).drop 24).drop 24).drop 24).drop 24).take 24).all (fun c => isCode c || c.before args0 about1) = true := by decide +kernel
set_option maxRecDepth 65536 in
theorem w_t8 : ((((((((words1.drop 24).drop 24).drop 24).drop 24).drop 24).drop 24).drop 24).take 24).all (fun c => isCode c || c.before args0 about1) = true := by decide +kernel
set_option maxRecDepth 65536 in
theorem w_t9 : (((((((((words1.drop 24).drop 24).drop 24).drop 24).drop 24).drop 24).drop 24).drop 24).take 24).all (fun c => isCode c || c.before args0 about1) = true := by decide +kernel
set_option maxRecDepth 65536 in
theorem w_t10 : (((((((((words1.drop 24).drop 24).drop 24).drop 24).drop 24).drop 24).drop 24).drop 24).drop 24).all (fun c => isCode c || c.before args0 about1) = true := by decide +kernel
theorem w_tables : (allAtoms (Jvm.Cond.code x code maxLocals ret :: tables_1)).before args0 about1 = true := by
  rw [allAtoms_all]
  show words1.all (fun c => c.before args0 about1) = true
  refine all_split ?_ w_codes
  rw [← List.take_append_drop 24 words1, List.all_append, w_t1, ← List.take_append_drop 24 (words1.drop 24), List.all_append, w_t2, ← List.take_append_drop 24 ((words1.drop 24).drop 24), List.all_append, w_t3, ← List.take_append_drop 24 (((words1.drop 24).drop 24).drop 24), List.all_append, w_t4, ← List.take_append_drop 24 ((((words1.drop 24).drop 24).drop 24).drop 24), List.all_append, w_t5, ← List.take_append_drop 24 (((((words1.drop 24).drop 24).drop 24).drop 24).drop 24), List.all_append, w_t6, ← List.take_append_drop 24 ((((((words1.drop 24).drop 24).drop 24).drop 24).drop 24).drop 24), List.all_append, w_t7, ← List.take_append_drop 24 (((((((words1.drop 24).drop 24).drop 24).drop 24).drop 24).drop 24).drop 24), List.all_append, w_t8, ← List.take_append_drop 24 ((((((((words1.drop 24).drop 24).drop 24).drop 24).drop 24).drop 24).drop 24).drop 24), List.all_append, w_t9, w_t10]
  rfl
set_option maxRecDepth 65536 in
theorem w_rest : rest_1_c.before args0 about1 = true := by decide +kernel
set_option maxRecDepth 65536 in
theorem w_case : (Jvm.Cond.and given_1 narrow_1).before args0 about1 = true := by decide +kernel
set_option maxRecDepth 65536 in
theorem w_consts : constsHeld consts_1 about1 := Jvm.Lit.constsHeldB_iff.mp (by decide +kernel)
theorem w_applies : (headSpec (Jvm.Cond.code x code maxLocals ret :: tables_1) room_1).applies x e0.platform about1 = true :=
  (Spec.applies_iff w_frames).mpr ⟨w_running, w_runnable, w_alone, w_named, w_hears, w_ripe, w_room, w_tables⟩
theorem atStart : AtStart classFile x code maxLocals ret World_1 tables_1 room_1 Calls_1 rest_1 Pre_1 launch0 p0 e0 about1 theMethod args0 below0 :=
  ⟨lists_1, trivial, launch0.admits_env _ _ _, launch0.least_env, fairChoices_fair.cas, fairChoices_fair.clock, w_frames, w_args, w_heap, w_applies, ⟨w_consts, trivial⟩, w_rest, w_case⟩
end start1
theorem witness_1 : WitnessClaimed_1 := ⟨start1.p0, start1.e0, start1.about1, start1.theMethod, start1.args0, start1.below0, start1.atStart⟩
end Jvm.Pilot.@@N@@
