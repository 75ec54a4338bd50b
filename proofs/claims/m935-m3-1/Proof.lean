import JvmDerived
import JvmDerived.Pilot.@@N@@Statement
import JvmDerived.Pilot.@@N@@Code
set_option linter.unusedVariables false
set_option linter.unusedSimpArgs false

namespace Jvm.Pilot.@@N@@
open Jvm Jvm.ClassFile Sem Op Lib Jvm.Free Jvm.Stand Jvm.LawKit Jvm.RoadKit Bundle Jvm.Pilot.@@N@@.Jvm.D
/-! continuation style: from A the run comes to a state of which K holds -/
def own_Go (tb : Tables) (e : Env) (below : List Frame) (K : State → Prop) (A : State) : Prop := ∃ U, Steps tb e below A U ∧ K U
theorem own_by {tb : Tables} {e : Env} {below : List Frame} {K : State → Prop} {A B : State} (h : ∀ t, Steps tb e below B t → Steps tb e below A t) (k : own_Go tb e below K B) : own_Go tb e below K A := by
  obtain ⟨U, s, q⟩ := k; exact ⟨U, h U s, q⟩
def own_K (s : State) (below : List Frame) (Q : Option Value → Heap → List Loc → Prop) (kc ks : Nat) (U : State) : Prop :=
  ∃ v L, U.status = .running ∧ Ended U below (.returned v) ∧ Q v U.heap L ∧ FrameEnd s (.returned v) U L kc ks
theorem own_done {tb : Tables} {e : Env} {below : List Frame} {s A B : State} {Q : Option Value → Heap → List Loc → Prop} {kc ks : Nat} (h : ∀ t, Steps tb e below B t → Steps tb e below A t) (k : own_Go tb e below (own_K s below Q kc ks) B) :
    ∃ s₂ o, Steps tb e below A s₂ ∧ s₂.status = .running ∧ Ended s₂ below o ∧ ∃ v L, o = .returned v ∧ Q v s₂.heap L ∧ FrameEnd s o s₂ L kc ks := by
  obtain ⟨U, st, v, L, h1, h2, h3, h4⟩ := k
  exact ⟨U, _, h U st, h1, h2, v, L, rfl, h3, h4⟩
theorem own_cat1 (x : Int32) : Value.category (.int x) = 1 := rfl
theorem own_cat2 (x : Addr) : Value.category (.ref x) = 1 := rfl
theorem own_cat3 : Value.category .null = 1 := rfl
theorem own_cat4 (x : Int64) : Value.category (.long x) = 2 := rfl
section OwnRet
variable {p : Program} {l : Launch} {e : Env} {R : Room} {s : State} {m : MethodId} {args : Array Value} {below : List Frame} {meth : Method} {c : Code} {T : State} {locs : List Loc} {cells slots : Nat} {Q : Option Value → Heap → List Loc → Prop} {kc ks : Nat}
theorem own_retW (X : Stand p l e R s m args below meth c T locs cells slots) (hx : p.tables.exec = Jvm.exec) {pc : Nat} {Ls : Array Slot} {w : Value} {t : FieldType} {i : Instr} {rest : List Value} (hrt : meth.sig.returnType = some t) (hlk : meth.locks = false) (hn : narrow t w = w)
    (hi : (i = .ireturn ∧ (t = .int ∨ t = .boolean ∨ t = .byte ∨ t = .char ∨ t = .short) ∧ ∃ z, w = .int z) ∨ (i = .lreturn ∧ t = .long ∧ ∃ z, w = .long z) ∨ (i = .dreturn ∧ t = .double ∧ ∃ z, w = .double z) ∨ (i = .freturn ∧ t = .float ∧ ∃ z, w = .float z) ∨ (i = .areturn ∧ t.isReference = true ∧ w.isRef = true))
    (hd : decode c.code pc = .ok (i, 1)) (hc : cells ≤ kc) (hs : slots ≤ ks) (hq : Q (some w) T.heap locs) :
    own_Go p.tables e below (own_K s below Q kc ks) (T.setTop (mkF m pc Ls (w :: rest))) := by
  obtain ⟨fs, hr, hrun, hended, hW, hsame⟩ := X.leave (v := some w) (fun h => by rw [hrt] at h; cases h) hlk
  exact ⟨_, retOut X hx hrt hn hi hd hr, some w, locs, hrun, hended, hq, ⟨_, rfl⟩, hW, hsame.mono hc hs⟩
theorem own_retI (X : Stand p l e R s m args below meth c T locs cells slots) (hx : p.tables.exec = Jvm.exec) {pc : Nat} {Ls : Array Slot} {z : Int32} {rest : List Value} (hrt : meth.sig.returnType = some .int) (hlk : meth.locks = false)
    (hd : decode c.code pc = .ok (.ireturn, 1)) (hc : cells ≤ kc) (hs : slots ≤ ks) (hq : Q (some (.int z)) T.heap locs) :
    own_Go p.tables e below (own_K s below Q kc ks) (T.setTop (mkF m pc Ls (.int z :: rest))) :=
  own_retW X hx hrt hlk rfl (Or.inl ⟨rfl, Or.inl rfl, _, rfl⟩) hd hc hs hq
theorem own_retZ (X : Stand p l e R s m args below meth c T locs cells slots) (hx : p.tables.exec = Jvm.exec) {pc : Nat} {Ls : Array Slot} {z : Int32} {rest : List Value} (hrt : meth.sig.returnType = some .boolean) (hlk : meth.locks = false) (hn : narrow .boolean (.int z) = .int z)
    (hd : decode c.code pc = .ok (.ireturn, 1)) (hc : cells ≤ kc) (hs : slots ≤ ks) (hq : Q (some (.int z)) T.heap locs) :
    own_Go p.tables e below (own_K s below Q kc ks) (T.setTop (mkF m pc Ls (.int z :: rest))) :=
  own_retW X hx hrt hlk hn (Or.inl ⟨rfl, Or.inr (Or.inl rfl), _, rfl⟩) hd hc hs hq
theorem own_retJ (X : Stand p l e R s m args below meth c T locs cells slots) (hx : p.tables.exec = Jvm.exec) {pc : Nat} {Ls : Array Slot} {z : Int64} {rest : List Value} (hrt : meth.sig.returnType = some .long) (hlk : meth.locks = false)
    (hd : decode c.code pc = .ok (.lreturn, 1)) (hc : cells ≤ kc) (hs : slots ≤ ks) (hq : Q (some (.long z)) T.heap locs) :
    own_Go p.tables e below (own_K s below Q kc ks) (T.setTop (mkF m pc Ls (.long z :: rest))) :=
  own_retW X hx hrt hlk rfl (Or.inr (Or.inl ⟨rfl, rfl, _, rfl⟩)) hd hc hs hq
theorem own_retA (X : Stand p l e R s m args below meth c T locs cells slots) (hx : p.tables.exec = Jvm.exec) {pc : Nat} {Ls : Array Slot} {w : Value} {t : FieldType} {rest : List Value} (hrt : meth.sig.returnType = some t) (ht : t.isReference = true) (hw : w.isRef = true) (hlk : meth.locks = false)
    (hd : decode c.code pc = .ok (.areturn, 1)) (hc : cells ≤ kc) (hs : slots ≤ ks) (hq : Q (some w) T.heap locs) :
    own_Go p.tables e below (own_K s below Q kc ks) (T.setTop (mkF m pc Ls (w :: rest))) :=
  own_retW X hx hrt hlk (by rcases ref_cases hw with rfl | ⟨a, rfl⟩ <;> cases t <;> first | rfl | (cases ht)) (Or.inr (Or.inr (Or.inr (Or.inr ⟨rfl, ht, hw⟩)))) hd hc hs hq
theorem own_retV (X : Stand p l e R s m args below meth c T locs cells slots) (hx : p.tables.exec = Jvm.exec) {pc : Nat} {Ls : Array Slot} (hrt : meth.sig.returnType = none) (hlk : meth.locks = false)
    (hd : decode c.code pc = .ok (.return_, 1)) (hc : cells ≤ kc) (hs : slots ≤ ks) (hq : Q none T.heap locs) :
    own_Go p.tables e below (own_K s below Q kc ks) (T.setTop (mkF m pc Ls [])) := by
  obtain ⟨fs, hr, hrun, hended, hW, hsame⟩ := X.leave (v := none) (fun _ => rfl) hlk
  exact ⟨_, X.returnOut hx hrt hd hr, none, locs, hrun, hended, hq, ⟨_, rfl⟩, hW, hsame.mono hc hs⟩
theorem own_retB (X : Stand p l e R s m args below meth c T locs cells slots) (hx : p.tables.exec = Jvm.exec) {pc : Nat} {Ls : Array Slot} {z : Int32} {rest : List Value} (hrt : meth.sig.returnType = some .boolean) (hlk : meth.locks = false)
    (hd : decode c.code pc = .ok (.ireturn, 1)) (hc : cells ≤ kc) (hs : slots ≤ ks) (hq : Q (some (.int (z &&& (1 : Int32)))) T.heap locs) :
    own_Go p.tables e below (own_K s below Q kc ks) (T.setTop (mkF m pc Ls (.int z :: rest))) := by
  obtain ⟨fs, hr, hrun, hended, hW, hsame⟩ := X.leave (v := some (.int (nar .boolean z))) (fun h => by rw [hrt] at h; cases h) hlk
  exact ⟨_, retN X hx (t := .boolean) hrt (Or.inl rfl) hd hr, some (.int (nar .boolean z)), locs, hrun, hended, hq, ⟨_, rfl⟩, hW, hsame.mono hc hs⟩
end OwnRet
def own_P (r : Value) (h0 : Heap) (n0 : Nat) (v : Option Value) (h : Heap) (L : List Loc) : Prop := v = some r ∧ Fr n0 L ∧ h = h0
theorem own_selpriv {Z : State} {a0 : Array Value} {y : MethodName} {n : Nat} (wi : (Cond.instantiable y.cls n).before a0 Z = true) (wp : (Cond.privateMethod y).before a0 Z = true) (wm : (Cond.instanceMethod y).before a0 Z = true) (hy : y.cls ≠ "java/lang/invoke/MethodHandle" ∧ y.cls ≠ "java/lang/invoke/VarHandle") : (Cond.selects y.cls y y).before a0 Z = true := by
  obtain ⟨c, k, h1, h2, h3, h4, -⟩ := Cond.instantiable_spec wi
  exact selects_self_of_private h1 h2 (Bool.or_eq_false_iff.mp h4).1 (Cond.privateMethod_at wp) wm hy
theorem own_old_le {Z : State} {n0 : Nat} {h : Heap} (O : Old Z n0 h) : n0 ≤ h.size := by rw [← O.1]; exact O.2.1

def own_PV (h0 : Heap) (n0 : Nat) (v : Option Value) (h : Heap) (L : List Loc) : Prop := v = none ∧ Fr n0 L ∧ h = h0

theorem own_eqvR {Z : State} {args : Array Value} {X F : Term} {idx : List Nat} {a : Addr} (hF : F.eval args Z none idx Z = some (.ref a)) (h : (Cond.eq X F).value args Z none Z idx = some true) : X.eval args Z none idx Z = some (.ref a) := by
  simp only [Cond.value, hF] at h
  cases hX : X.eval args Z none idx Z with
  | none => simp [hX] at h
  | some x => cases x <;> simp [hX] at h ⊢; exact h
theorem own_len {Z : State} {args : Array Value} {t : Term} {a : Addr} {cl : Cell} {ty : FieldType} {z : Int32} (h : (Term.length t).eval args Z none [] Z = some (.int z)) (ht : t.eval args Z none [] Z = some (.ref a)) (A : Arr Z Z.heap a cl ty) : cl.slots.size < 2 ^ 31 ∧ cl.slots.size.toInt32 = z := by
  have e : Z.arrayAt? a = some cl := A.fin (U := Z) (Vm.Alike.refl _)
  simp only [Term.eval, ht, e, Option.bind_eq_bind, Option.bind_some] at h
  split at h
  · rename_i q; exact ⟨q, by simpa using h⟩
  · simp at h

theorem own_mod (x n : Int32) (hn : 0 < n.toInt) : 0 ≤ ((x &&& (2147483647 : Int32)) % n).toInt ∧ ((x &&& (2147483647 : Int32)) % n).toInt < n.toInt := by
  have h0 := (c_and x (2147483647 : Int32) (by decide)).1
  have h1 := (c_iremV (x &&& (2147483647 : Int32)) n).1 h0 hn
  exact ⟨h1.1, h1.2.1⟩

theorem own_enum4 {z : Int32} (h0 : 0 ≤ z.toInt) (h1 : z.toInt < 4) : z = (0 : Int32) ∨ z = (1 : Int32) ∨ z = (2 : Int32) ∨ z = (3 : Int32) := by
  have h : z.toInt = 0 ∨ z.toInt = 1 ∨ z.toInt = 2 ∨ z.toInt = 3 := by omega
  rcases h with h | h | h | h
  · exact Or.inl (Int32.toInt_inj.mp (h.trans (by decide)))
  · exact Or.inr (Or.inl (Int32.toInt_inj.mp (h.trans (by decide))))
  · exact Or.inr (Or.inr (Or.inl (Int32.toInt_inj.mp (h.trans (by decide)))))
  · exact Or.inr (Or.inr (Or.inr ((Int32.toInt_inj.mp (h.trans (by decide))))))

def own_W (Z : State) (h : Heap) (a_INTEGER a_BIGINT a_DECIMAL a_OTHER a_APPROXIMATE a_EMPTY : Addr) : Prop := Sta Z h "com/example/planwright/planwright/query/NumericKind" "INTEGER" "Lcom/example/planwright/planwright/query/NumericKind;" (.ref a_INTEGER) ∧ Exa Z h a_INTEGER "com/example/planwright/planwright/query/NumericKind" ∧ Sta Z h "com/example/planwright/planwright/query/NumericType" "BIGINT" "Lcom/example/planwright/planwright/query/NumericType;" (.ref a_BIGINT) ∧ Exa Z h a_BIGINT "com/example/planwright/planwright/query/NumericType" ∧ Sta Z h "com/example/planwright/planwright/query/NumericKind" "DECIMAL" "Lcom/example/planwright/planwright/query/NumericKind;" (.ref a_DECIMAL) ∧ Exa Z h a_DECIMAL "com/example/planwright/planwright/query/NumericKind" ∧ Sta Z h "com/example/planwright/planwright/query/NumericKind" "OTHER" "Lcom/example/planwright/planwright/query/NumericKind;" (.ref a_OTHER) ∧ Exa Z h a_OTHER "com/example/planwright/planwright/query/NumericKind" ∧ Sta Z h "com/example/planwright/planwright/query/NumericKind" "APPROXIMATE" "Lcom/example/planwright/planwright/query/NumericKind;" (.ref a_APPROXIMATE) ∧ Exa Z h a_APPROXIMATE "com/example/planwright/planwright/query/NumericKind" ∧ Fld Z h a_BIGINT "com/example/planwright/planwright/query/NumericType" "precision" "I" (.int (19 : Int32)) ∧ Fld Z h a_BIGINT "com/example/planwright/planwright/query/NumericType" "scale" "I" (.int (0 : Int32)) ∧ Fld Z h a_DECIMAL "java/lang/Enum" "ordinal" "I" (.int (1 : Int32)) ∧ Fld Z h a_INTEGER "java/lang/Enum" "ordinal" "I" (.int (0 : Int32)) ∧ Fld Z h a_BIGINT "com/example/planwright/planwright/query/NumericType" "kind" "Lcom/example/planwright/planwright/query/NumericKind;" (.ref a_INTEGER) ∧ Sta Z h "java/util/Optional" "EMPTY" "Ljava/util/Optional;" (.ref a_EMPTY) ∧ Exa Z h a_EMPTY "java/util/Optional" ∧ Fld Z h a_EMPTY "java/util/Optional" "value" "Ljava/lang/Object;" .null

theorem d2_0 : decode jdk_30_method_1_code 0 = .ok (.aload_n 0, 1) := by decide +kernel
theorem d2_1 : decode jdk_30_method_1_code 1 = .ok (.invokespecial 1, 3) := by decide +kernel
theorem d2_4 : decode jdk_30_method_1_code 4 = .ok (.return_, 1) := by decide +kernel
theorem pn_rmRec : plainFor (⟨"java/lang/Record", "<init>", "()V"⟩ : MethodName) = true := by first | exact plainFor_of_name (by first | (simp [plainName, overriddenIn]; done) | decide +kernel) | exact Jvm.Free.JP.mathPlain rfl (by decide +kernel) | decide +kernel
theorem ef_rmRec (m : MethodId) (x0 : Addr) : entryFrame m #[(.ref x0)] 1 = mkF m 0 #[.val (.ref x0)] [] := by first | (simp [entryFrame, mkF, argsToLocals, Value.category]; done) | rfl
set_option maxRecDepth 65536 in
set_option maxHeartbeats 40000000 in
theorem rmRec (l : Launch) (Z : State) (a0 : Array Value) (hw : ∀ d ∈ tables_1, d.before a0 Z = true) (ws : List Jvm.Cond) (ua : Addr) (h0 : Heap) (n0 : Nat) (Z0 : n0 ≤ h0.size)  :
    MetFree l (⟨"java/lang/Record", "<init>", "()V"⟩ : MethodName) (head1 (Jvm.Cond.code (⟨"java/lang/Record", "<init>", "()V"⟩ : MethodName) jdk_30_method_1_code 1 none :: ws) ({ frames := 1, cells := 0, slots := 0, locals := 12 } : Room)) (fun a U => a = #[(.ref ua)] ∧ Z.Warmed39 U.vm ∧ U.heap = h0) (fun _ _ _ _ _ => True) (fun _ U o U' => ∃ v L, o = .returned v ∧ (own_PV h0 n0) v U'.heap L ∧ FrameEnd U o U' L 0 0) := by
  refine MetFree.of_bodySF pn_rmRec hisR ?_
  intro p e s m args below meth c s₁ Bd hml0 hP hK
  obtain ⟨rfl, hZ, hh⟩ := hP
  have hx := Bd.exec
  have hby := Bd.bytes
  have hml : c.maxLocals = 1 := hml0
  have hown : s.vm.findClass "java/lang/Record" = some m.cls := findClass_of_methodNamed Bd.named
  have hnm := (name_of_methodNamed Bd.named Bd.method).1
  have hrt := Bd.returns
  have hlk := Bd.notSynchronized
  have X0 : Stand p l e ({ frames := 1, cells := 0, slots := 0, locals := 12 } : Room) s m #[(.ref ua)] below meth c s₁ [] 0 0 := Stand.of_body Bd
  have e0 : s₁.heap = h0 := by rw [← hh, Bd.state]; rfl
  have N0 := Fr.nil n0
  have K0 := Keep.refl h0 []
  refine own_done (B := s₁.setTop (mkF m 0 #[.val (.ref ua)] [])) (fun t k => castTop (ef_rmRec m ua) k) ?_
  refine own_by (B := s₁.setTop (mkF m 1 #[.val (.ref ua)] [(.ref ua)])) (fun _ k => XS.aloadN X0.here hx rfl (hb hby d2_0) rfl rfl  k) ?_
  obtain ⟨T1, X1, e1, st1⟩ := initO X0 hx hZ hown (hw _ (List.mem_of_getElem? (i := 16) rfl)) (hw _ (List.mem_of_getElem? (i := 17) rfl)) (hw _ (List.mem_of_getElem? (i := 18) rfl)) e0 (g := (mkF m 1 #[.val (.ref ua)] [(.ref ua)])) rfl (by rw [hml]; rfl) rfl (hb hby d2_1) (by decide) (W := 0) (by show 2 * 0 + _ ≤ _; exact Nat.le_of_eq rfl) (by decide)
  refine own_by (B := T1.setTop (mkF m 4 #[.val (.ref ua)] [])) st1 ?_
  exact own_retV X1 hx hrt hlk (hb hby d2_4) (by decide) (by decide) ⟨rfl, N0, e1⟩

def own_QNT (Z : State) (ua : Addr) (uk : Addr) (up us : Int32) (h0 : Heap) (n0 : Nat) (v : Option Value) (h : Heap) (L : List Loc) : Prop := v = none ∧ Fr n0 L ∧ Keep h0 h [ua] ∧ Exa Z h ua "com/example/planwright/planwright/query/NumericType" ∧ Fld Z h ua "com/example/planwright/planwright/query/NumericType" "kind" "Lcom/example/planwright/planwright/query/NumericKind;" (.ref uk) ∧ Fld Z h ua "com/example/planwright/planwright/query/NumericType" "precision" "I" (.int up) ∧ Fld Z h ua "com/example/planwright/planwright/query/NumericType" "scale" "I" (.int us)

theorem d1_0 : decode prog_46_method_1_code 0 = .ok (.aload_n 0, 1) := by decide +kernel
theorem d1_1 : decode prog_46_method_1_code 1 = .ok (.invokespecial 1, 3) := by decide +kernel
theorem d1_4 : decode prog_46_method_1_code 4 = .ok (.aload_n 0, 1) := by decide +kernel
theorem d1_5 : decode prog_46_method_1_code 5 = .ok (.aload_n 1, 1) := by decide +kernel
theorem d1_6 : decode prog_46_method_1_code 6 = .ok (.putfield 7, 3) := by decide +kernel
theorem d1_9 : decode prog_46_method_1_code 9 = .ok (.aload_n 0, 1) := by decide +kernel
theorem d1_10 : decode prog_46_method_1_code 10 = .ok (.iload_n 2, 1) := by decide +kernel
theorem d1_11 : decode prog_46_method_1_code 11 = .ok (.putfield 13, 3) := by decide +kernel
theorem d1_14 : decode prog_46_method_1_code 14 = .ok (.aload_n 0, 1) := by decide +kernel
theorem d1_15 : decode prog_46_method_1_code 15 = .ok (.iload_n 3, 1) := by decide +kernel
theorem d1_16 : decode prog_46_method_1_code 16 = .ok (.putfield 17, 3) := by decide +kernel
theorem d1_19 : decode prog_46_method_1_code 19 = .ok (.return_, 1) := by decide +kernel
theorem pd_1___V : parseMethodDescriptor "()V" = some ⟨[], none⟩ := by decide +kernel
theorem pn_rmNT : plainFor (⟨"com/example/planwright/planwright/query/NumericType", "<init>", "(Lcom/example/planwright/planwright/query/NumericKind;II)V"⟩ : MethodName) = true := by first | exact plainFor_of_name (by first | (simp [plainName, overriddenIn]; done) | decide +kernel) | exact Jvm.Free.JP.mathPlain rfl (by decide +kernel) | decide +kernel
theorem ef_rmNT (m : MethodId) (x0 : Addr) (x1 : Addr) (x2 : Int32) (x3 : Int32) : entryFrame m #[(.ref x0), (.ref x1), (.int x2), (.int x3)] 4 = mkF m 0 #[.val (.ref x0), .val (.ref x1), .val (.int x2), .val (.int x3)] [] := by first | (simp [entryFrame, mkF, argsToLocals, Value.category]; done) | rfl
set_option maxRecDepth 65536 in
set_option maxHeartbeats 40000000 in
theorem rmNT (l : Launch) (Z : State) (a0 : Array Value) (hw : ∀ d ∈ tables_1, d.before a0 Z = true) (ws : List Jvm.Cond) (ua : Addr) (uk : Addr) (up us : Int32) (h0 : Heap) (n0 : Nat) (Z0 : n0 ≤ h0.size) (O0 : Old Z n0 h0) (E_ua : Exa Z h0 ua "com/example/planwright/planwright/query/NumericType") (F_kind : Fld Z h0 ua "com/example/planwright/planwright/query/NumericType" "kind" "Lcom/example/planwright/planwright/query/NumericKind;" .null) (F_precision : Fld Z h0 ua "com/example/planwright/planwright/query/NumericType" "precision" "I" (.int (0 : Int32))) (F_scale : Fld Z h0 ua "com/example/planwright/planwright/query/NumericType" "scale" "I" (.int (0 : Int32))) (gn_ua : n0 ≤ ua) :
    MetFree l (⟨"com/example/planwright/planwright/query/NumericType", "<init>", "(Lcom/example/planwright/planwright/query/NumericKind;II)V"⟩ : MethodName) (head1 (Jvm.Cond.code (⟨"com/example/planwright/planwright/query/NumericType", "<init>", "(Lcom/example/planwright/planwright/query/NumericKind;II)V"⟩ : MethodName) prog_46_method_1_code 4 none :: ws) ({ frames := 2, cells := 0, slots := 0, locals := 24 } : Room)) (fun a U => a = #[(.ref ua), (.ref uk), (.int up), (.int us)] ∧ Z.Warmed39 U.vm ∧ U.heap = h0) (fun _ _ _ _ _ => True) (fun _ U o U' => ∃ v L, o = .returned v ∧ (own_QNT Z ua uk up us h0 n0) v U'.heap L ∧ FrameEnd U o U' L 0 0) := by
  refine MetFree.of_bodySF pn_rmNT hisR ?_
  intro p e s m args below meth c s₁ Bd hml0 hP hK
  obtain ⟨rfl, hZ, hh⟩ := hP
  have hx := Bd.exec
  have hby := Bd.bytes
  have hml : c.maxLocals = 4 := hml0
  have hown : s.vm.findClass "com/example/planwright/planwright/query/NumericType" = some m.cls := findClass_of_methodNamed Bd.named
  have hnm := (name_of_methodNamed Bd.named Bd.method).1
  have hrt := Bd.returns
  have hlk := Bd.notSynchronized
  have X0 : Stand p l e ({ frames := 2, cells := 0, slots := 0, locals := 24 } : Room) s m #[(.ref ua), (.ref uk), (.int up), (.int us)] below meth c s₁ [] 0 0 := Stand.of_body Bd
  have e0 : s₁.heap = h0 := by rw [← hh, Bd.state]; rfl
  have N0 := Fr.nil n0
  have K0 := Keep.refl h0 [ua]
  have lt_ua := E_ua.lt
  refine own_done (B := s₁.setTop (mkF m 0 #[.val (.ref ua), .val (.ref uk), .val (.int up), .val (.int us)] [])) (fun t k => castTop (ef_rmNT m ua uk up us) k) ?_
  refine own_by (B := s₁.setTop (mkF m 1 #[.val (.ref ua), .val (.ref uk), .val (.int up), .val (.int us)] [(.ref ua)])) (fun _ k => XS.aloadN X0.here hx rfl (hb hby d1_0) rfl rfl  k) ?_
  obtain ⟨_, _, ⟨T1, L1, k1, n1⟩, -, X1, ⟨Lc1, hQ1, l1, y1, z1⟩, st1⟩ := X0.specialBack hx (y := (⟨"java/lang/Record", "<init>", "()V"⟩ : MethodName)) rfl hown (mvT hZ (hw _ (List.mem_of_getElem? (i := 11) rfl))) (mvT hZ (hw _ (List.mem_of_getElem? (i := 12) rfl))) (mvT hZ (hw _ (List.mem_of_getElem? (i := 15) rfl))) (by decide) (backOf (W := 0) (rmRec l Z a0 hw [] ua h0 n0 (own_old_le O0)) hZ (hw _ (List.mem_of_getElem? (i := 15) rfl)) (hw _ (List.mem_of_getElem? (i := 14) rfl)) (by decide) (by decide)) (g := (mkF m 1 #[.val (.ref ua), .val (.ref uk), .val (.int up), .val (.int us)] [(.ref ua)])) rfl (by rw [hml]; rfl) (Steps.refl _) (a := ua) (argsL := []) (rest := []) (lenOf pd_1___V rfl) rfl (by show 2 * 0 + _ ≤ _; exact Nat.le_of_eq rfl) (hb hby d1_1) (fun _ _ => ⟨rfl, e0, (by decide : 0 + 0 ≤ _), (by decide : 0 + 0 ≤ _)⟩)
  dsimp only [Pt.U, Pt.locs, Pt.cells, Pt.slots] at X1 l1 y1 z1 st1 hQ1
  subst l1 y1 z1
  obtain ⟨rfl, N1, e1⟩ := hQ1
  refine own_by (B := T1.setTop (mkF m 4 #[.val (.ref ua), .val (.ref uk), .val (.int up), .val (.int us)] [])) (fun _ k => st1.trans k) ?_
  have M1 := Fr.app N0 N1
  refine own_by (B := T1.setTop (mkF m 5 #[.val (.ref ua), .val (.ref uk), .val (.int up), .val (.int us)] [(.ref ua)])) (fun _ k => XS.aloadN X1.here hx rfl (hb hby d1_4) rfl rfl  k) ?_
  refine own_by (B := T1.setTop (mkF m 6 #[.val (.ref ua), .val (.ref uk), .val (.int up), .val (.int us)] [(.ref uk), (.ref ua)])) (fun _ k => XS.aloadN X1.here hx rfl (hb hby d1_5) rfl rfl  k) ?_
  obtain ⟨T2, h2, X2, e2, W2, st2⟩ := putF X1 hx hZ hown (host := "") (Or.inl (hw _ (List.mem_of_getElem? (i := 19) rfl))) Via.refl e1 F_kind E_ua (Or.inr ⟨(hw _ (List.mem_of_getElem? (i := 20) rfl)), rfl, hnm⟩) (hw _ (List.mem_of_getElem? (i := 6) rfl)) (ty := (.object "com/example/planwright/planwright/query/NumericKind")) (by decide) rfl rfl (g := (mkF m 6 #[.val (.ref ua), .val (.ref uk), .val (.int up), .val (.int us)] [(.ref uk), (.ref ua)])) rfl rfl (hb hby d1_6)
  have sz2 := W2.size
  have O2 := O0.wr W2 gn_ua
  have K2 := K0.wr W2 (Or.inl (List.mem_of_getElem? (i := 0) rfl))
  have N2 := Fr.snoc X2 M1 gn_ua
  have F2 := F_kind.same W2
  refine own_by (B := T2.setTop (mkF m 9 #[.val (.ref ua), .val (.ref uk), .val (.int up), .val (.int us)] [])) st2 ?_
  refine own_by (B := T2.setTop (mkF m 10 #[.val (.ref ua), .val (.ref uk), .val (.int up), .val (.int us)] [(.ref ua)])) (fun _ k => XS.aloadN X2.here hx rfl (hb hby d1_9) rfl rfl  k) ?_
  refine own_by (B := T2.setTop (mkF m 11 #[.val (.ref ua), .val (.ref uk), .val (.int up), .val (.int us)] [(.int up), (.ref ua)])) (fun _ k => XS.iloadN X2.here hx rfl (hb hby d1_10) rfl  k) ?_
  have c4 := (E_ua.wr W2)
  have c5 := (F_precision.other W2 (Or.inr (slot_ne (Or.inr (hw _ (List.mem_of_getElem? (i := 22) rfl))) (Or.inr (hw _ (List.mem_of_getElem? (i := 20) rfl))) (by decide) (t := .int) (t' := (.object "com/example/planwright/planwright/query/NumericKind")) (by decide) (by decide))))
  obtain ⟨T3, h3, X3, e3, W3, st3⟩ := putF X2 hx hZ hown (host := "") (Or.inl (hw _ (List.mem_of_getElem? (i := 21) rfl))) Via.refl e2 c5 c4 (Or.inr ⟨(hw _ (List.mem_of_getElem? (i := 22) rfl)), rfl, hnm⟩) (hw _ (List.mem_of_getElem? (i := 6) rfl)) (ty := .int) (by decide) rfl rfl (g := (mkF m 11 #[.val (.ref ua), .val (.ref uk), .val (.int up), .val (.int us)] [(.int up), (.ref ua)])) rfl rfl (hb hby d1_11)
  have sz3 := W3.size
  have O3 := O2.wr W3 gn_ua
  have K3 := K2.wr W3 (Or.inl (List.mem_of_getElem? (i := 0) rfl))
  have N3 := Fr.snoc X3 N2 gn_ua
  have F3 := c5.same W3
  refine own_by (B := T3.setTop (mkF m 14 #[.val (.ref ua), .val (.ref uk), .val (.int up), .val (.int us)] [])) st3 ?_
  refine own_by (B := T3.setTop (mkF m 15 #[.val (.ref ua), .val (.ref uk), .val (.int up), .val (.int us)] [(.ref ua)])) (fun _ k => XS.aloadN X3.here hx rfl (hb hby d1_14) rfl rfl  k) ?_
  refine own_by (B := T3.setTop (mkF m 16 #[.val (.ref ua), .val (.ref uk), .val (.int up), .val (.int us)] [(.int us), (.ref ua)])) (fun _ k => XS.iloadN X3.here hx rfl (hb hby d1_15) rfl  k) ?_
  have c7 := (c4.wr W3)
  have c8 := ((F_scale.other W2 (Or.inr (slot_ne (Or.inr (hw _ (List.mem_of_getElem? (i := 24) rfl))) (Or.inr (hw _ (List.mem_of_getElem? (i := 20) rfl))) (by decide) (t := .int) (t' := (.object "com/example/planwright/planwright/query/NumericKind")) (by decide) (by decide)))).other W3 (Or.inr (slot_ne (Or.inr (hw _ (List.mem_of_getElem? (i := 24) rfl))) (Or.inr (hw _ (List.mem_of_getElem? (i := 22) rfl))) (by decide) (t := .int) (t' := .int) (by decide) (by decide))))
  obtain ⟨T6, h6, X6, e6, W6, st6⟩ := putF X3 hx hZ hown (host := "") (Or.inl (hw _ (List.mem_of_getElem? (i := 23) rfl))) Via.refl e3 c8 c7 (Or.inr ⟨(hw _ (List.mem_of_getElem? (i := 24) rfl)), rfl, hnm⟩) (hw _ (List.mem_of_getElem? (i := 6) rfl)) (ty := .int) (by decide) rfl rfl (g := (mkF m 16 #[.val (.ref ua), .val (.ref uk), .val (.int up), .val (.int us)] [(.int us), (.ref ua)])) rfl rfl (hb hby d1_16)
  have sz6 := W6.size
  have O6 := O3.wr W6 gn_ua
  have K6 := K3.wr W6 (Or.inl (List.mem_of_getElem? (i := 0) rfl))
  have N6 := Fr.snoc X6 N3 gn_ua
  have F6 := c8.same W6
  refine own_by (B := T6.setTop (mkF m 19 #[.val (.ref ua), .val (.ref uk), .val (.int up), .val (.int us)] [])) st6 ?_
  have c9 := ((F2.other W3 (Or.inr (slot_ne (Or.inr (hw _ (List.mem_of_getElem? (i := 20) rfl))) (Or.inr (hw _ (List.mem_of_getElem? (i := 22) rfl))) (by decide) (t := (.object "com/example/planwright/planwright/query/NumericKind")) (t' := .int) (by decide) (by decide)))).other W6 (Or.inr (slot_ne (Or.inr (hw _ (List.mem_of_getElem? (i := 20) rfl))) (Or.inr (hw _ (List.mem_of_getElem? (i := 24) rfl))) (by decide) (t := (.object "com/example/planwright/planwright/query/NumericKind")) (t' := .int) (by decide) (by decide))))
  have c10 := (F3.other W6 (Or.inr (slot_ne (Or.inr (hw _ (List.mem_of_getElem? (i := 22) rfl))) (Or.inr (hw _ (List.mem_of_getElem? (i := 24) rfl))) (by decide) (t := .int) (t' := .int) (by decide) (by decide))))
  have c11 := (c7.wr W6)
  exact own_retV X6 hx hrt hlk (hb hby d1_19) (by decide) (by decide) (by show own_QNT Z ua uk up us h0 n0 none T6.heap _; rw [e6]; exact ⟨rfl, N6, K6, c11, c9, c10, F6⟩)

def own_QOI (Z : State) (ua : Addr) (uo : Addr) (h0 : Heap) (n0 : Nat) (v : Option Value) (h : Heap) (L : List Loc) : Prop := v = none ∧ Fr n0 L ∧ Keep h0 h [ua] ∧ Exa Z h ua "java/util/Optional" ∧ Fld Z h ua "java/util/Optional" "value" "Ljava/lang/Object;" (.ref uo)

theorem d7_0 : decode jdk_32_method_2_code 0 = .ok (.aload_n 0, 1) := by decide +kernel
theorem d7_1 : decode jdk_32_method_2_code 1 = .ok (.invokespecial 7, 3) := by decide +kernel
theorem d7_4 : decode jdk_32_method_2_code 4 = .ok (.aload_n 0, 1) := by decide +kernel
theorem d7_5 : decode jdk_32_method_2_code 5 = .ok (.aload_n 1, 1) := by decide +kernel
theorem d7_6 : decode jdk_32_method_2_code 6 = .ok (.putfield 13, 3) := by decide +kernel
theorem d7_9 : decode jdk_32_method_2_code 9 = .ok (.return_, 1) := by decide +kernel
theorem pn_rmOI : plainFor (⟨"java/util/Optional", "<init>", "(Ljava/lang/Object;)V"⟩ : MethodName) = true := by first | exact plainFor_of_name (by first | (simp [plainName, overriddenIn]; done) | decide +kernel) | exact Jvm.Free.JP.mathPlain rfl (by decide +kernel) | decide +kernel
theorem ef_rmOI (m : MethodId) (x0 : Addr) (x1 : Addr) : entryFrame m #[(.ref x0), (.ref x1)] 2 = mkF m 0 #[.val (.ref x0), .val (.ref x1)] [] := by first | (simp [entryFrame, mkF, argsToLocals, Value.category]; done) | rfl
set_option maxRecDepth 65536 in
set_option maxHeartbeats 40000000 in
theorem rmOI (l : Launch) (Z : State) (a0 : Array Value) (hw : ∀ d ∈ tables_1, d.before a0 Z = true) (ws : List Jvm.Cond) (ua : Addr) (uo : Addr) (h0 : Heap) (n0 : Nat) (Z0 : n0 ≤ h0.size) (O0 : Old Z n0 h0) (E_ua : Exa Z h0 ua "java/util/Optional") (F_value : Fld Z h0 ua "java/util/Optional" "value" "Ljava/lang/Object;" .null) (gn_ua : n0 ≤ ua) :
    MetFree l (⟨"java/util/Optional", "<init>", "(Ljava/lang/Object;)V"⟩ : MethodName) (head1 (Jvm.Cond.code (⟨"java/util/Optional", "<init>", "(Ljava/lang/Object;)V"⟩ : MethodName) jdk_32_method_2_code 2 none :: ws) ({ frames := 1, cells := 0, slots := 0, locals := 12 } : Room)) (fun a U => a = #[(.ref ua), (.ref uo)] ∧ Z.Warmed39 U.vm ∧ U.heap = h0) (fun _ _ _ _ _ => True) (fun _ U o U' => ∃ v L, o = .returned v ∧ (own_QOI Z ua uo h0 n0) v U'.heap L ∧ FrameEnd U o U' L 0 0) := by
  refine MetFree.of_bodySF pn_rmOI hisR ?_
  intro p e s m args below meth c s₁ Bd hml0 hP hK
  obtain ⟨rfl, hZ, hh⟩ := hP
  have hx := Bd.exec
  have hby := Bd.bytes
  have hml : c.maxLocals = 2 := hml0
  have hown : s.vm.findClass "java/util/Optional" = some m.cls := findClass_of_methodNamed Bd.named
  have hnm := (name_of_methodNamed Bd.named Bd.method).1
  have hrt := Bd.returns
  have hlk := Bd.notSynchronized
  have X0 : Stand p l e ({ frames := 1, cells := 0, slots := 0, locals := 12 } : Room) s m #[(.ref ua), (.ref uo)] below meth c s₁ [] 0 0 := Stand.of_body Bd
  have e0 : s₁.heap = h0 := by rw [← hh, Bd.state]; rfl
  have N0 := Fr.nil n0
  have K0 := Keep.refl h0 [ua]
  have lt_ua := E_ua.lt
  refine own_done (B := s₁.setTop (mkF m 0 #[.val (.ref ua), .val (.ref uo)] [])) (fun t k => castTop (ef_rmOI m ua uo) k) ?_
  refine own_by (B := s₁.setTop (mkF m 1 #[.val (.ref ua), .val (.ref uo)] [(.ref ua)])) (fun _ k => XS.aloadN X0.here hx rfl (hb hby d7_0) rfl rfl  k) ?_
  obtain ⟨T1, X1, e1, st1⟩ := initO X0 hx hZ hown (hw _ (List.mem_of_getElem? (i := 47) rfl)) (hw _ (List.mem_of_getElem? (i := 17) rfl)) (hw _ (List.mem_of_getElem? (i := 18) rfl)) e0 (g := (mkF m 1 #[.val (.ref ua), .val (.ref uo)] [(.ref ua)])) rfl (by rw [hml]; rfl) rfl (hb hby d7_1) (by decide) (W := 0) (by show 2 * 0 + _ ≤ _; exact Nat.le_of_eq rfl) (by decide)
  refine own_by (B := T1.setTop (mkF m 4 #[.val (.ref ua), .val (.ref uo)] [])) st1 ?_
  refine own_by (B := T1.setTop (mkF m 5 #[.val (.ref ua), .val (.ref uo)] [(.ref ua)])) (fun _ k => XS.aloadN X1.here hx rfl (hb hby d7_4) rfl rfl  k) ?_
  refine own_by (B := T1.setTop (mkF m 6 #[.val (.ref ua), .val (.ref uo)] [(.ref uo), (.ref ua)])) (fun _ k => XS.aloadN X1.here hx rfl (hb hby d7_5) rfl rfl  k) ?_
  obtain ⟨T2, h2, X2, e2, W2, st2⟩ := putF X1 hx hZ hown (host := "") (Or.inl (hw _ (List.mem_of_getElem? (i := 48) rfl))) Via.refl e1 F_value E_ua (Or.inr ⟨(hw _ (List.mem_of_getElem? (i := 49) rfl)), rfl, hnm⟩) (hw _ (List.mem_of_getElem? (i := 38) rfl)) (ty := (.object "java/lang/Object")) (by decide) rfl rfl (g := (mkF m 6 #[.val (.ref ua), .val (.ref uo)] [(.ref uo), (.ref ua)])) rfl rfl (hb hby d7_6)
  have sz2 := W2.size
  have O2 := O0.wr W2 gn_ua
  have K2 := K0.wr W2 (Or.inl (List.mem_of_getElem? (i := 0) rfl))
  have N2 := Fr.snoc X2 N0 gn_ua
  have F2 := F_value.same W2
  refine own_by (B := T2.setTop (mkF m 9 #[.val (.ref ua), .val (.ref uo)] [])) st2 ?_
  have c3 := (E_ua.wr W2)
  exact own_retV X2 hx hrt hlk (hb hby d7_9) (by decide) (by decide) (by show own_QOI Z ua uo h0 n0 none T2.heap _; rw [e2]; exact ⟨rfl, N2, K2, c3, F2⟩)

def own_rnn (ua : Addr) : Addr := ua

theorem d6_0 : decode jdk_31_method_10_code 0 = .ok (.aload_n 0, 1) := by decide +kernel
theorem d6_1 : decode jdk_31_method_10_code 1 = .ok (.ifnonnull 11, 3) := by decide +kernel
theorem d6_12 : decode jdk_31_method_10_code 12 = .ok (.aload_n 0, 1) := by decide +kernel
theorem d6_13 : decode jdk_31_method_10_code 13 = .ok (.areturn, 1) := by decide +kernel
theorem pn_rmRNN : plainFor (⟨"java/util/Objects", "requireNonNull", "(Ljava/lang/Object;)Ljava/lang/Object;"⟩ : MethodName) = true := by first | exact plainFor_of_name (by first | (simp [plainName, overriddenIn]; done) | decide +kernel) | exact Jvm.Free.JP.mathPlain rfl (by decide +kernel) | decide +kernel
theorem ef_rmRNN (m : MethodId) (x0 : Addr) : entryFrame m #[(.ref x0)] 1 = mkF m 0 #[.val (.ref x0)] [] := by first | (simp [entryFrame, mkF, argsToLocals, Value.category]; done) | rfl
set_option maxRecDepth 65536 in
set_option maxHeartbeats 40000000 in
theorem rmRNN (l : Launch) (Z : State) (a0 : Array Value) (hw : ∀ d ∈ tables_1, d.before a0 Z = true) (ws : List Jvm.Cond) (ua : Addr) (h0 : Heap) (n0 : Nat) (Z0 : n0 ≤ h0.size)  :
    MetFree l (⟨"java/util/Objects", "requireNonNull", "(Ljava/lang/Object;)Ljava/lang/Object;"⟩ : MethodName) (head1 (Jvm.Cond.code (⟨"java/util/Objects", "requireNonNull", "(Ljava/lang/Object;)Ljava/lang/Object;"⟩ : MethodName) jdk_31_method_10_code 1 (some (.object "java/lang/Object")) :: ws) ({ frames := 0, cells := 0, slots := 0, locals := 0 } : Room)) (fun a U => a = #[(.ref ua)] ∧ Z.Warmed39 U.vm ∧ U.heap = h0) (fun _ _ _ _ _ => True) (fun _ U o U' => ∃ v L, o = .returned v ∧ (own_P (.ref (own_rnn ua)) h0 n0) v U'.heap L ∧ FrameEnd U o U' L 0 0) := by
  refine MetFree.of_bodySF pn_rmRNN hisR ?_
  intro p e s m args below meth c s₁ Bd hml0 hP hK
  obtain ⟨rfl, hZ, hh⟩ := hP
  have hx := Bd.exec
  have hby := Bd.bytes
  have hml : c.maxLocals = 1 := hml0
  have hown : s.vm.findClass "java/util/Objects" = some m.cls := findClass_of_methodNamed Bd.named
  have hnm := (name_of_methodNamed Bd.named Bd.method).1
  have hrt := Bd.returns
  have hlk := Bd.notSynchronized
  have X0 : Stand p l e ({ frames := 0, cells := 0, slots := 0, locals := 0 } : Room) s m #[(.ref ua)] below meth c s₁ [] 0 0 := Stand.of_body Bd
  have e0 : s₁.heap = h0 := by rw [← hh, Bd.state]; rfl
  have N0 := Fr.nil n0
  refine own_done (B := s₁.setTop (mkF m 0 #[.val (.ref ua)] [])) (fun t k => castTop (ef_rmRNN m ua) k) ?_
  refine own_by (B := s₁.setTop (mkF m 1 #[.val (.ref ua)] [(.ref ua)])) (fun _ k => XS.aloadN X0.here hx rfl (hb hby d6_0) rfl rfl  k) ?_
  refine own_by (B := s₁.setTop (mkF m 12 #[.val (.ref ua)] [])) (fun _ k => XT.ifnonnullYes X0.here hx rfl (pc0 := 1) (pc' := 12) rfl (hb hby d6_1) rfl (by decide) (by decide) k) ?_
  refine own_by (B := s₁.setTop (mkF m 13 #[.val (.ref ua)] [(.ref ua)])) (fun _ k => XS.aloadN X0.here hx rfl (hb hby d6_12) rfl rfl  k) ?_
  exact own_retA X0 hx hrt rfl rfl hlk (hb hby d6_13) (by decide) (by decide) ⟨rfl, N0, e0⟩

def own_isp1 (uo : Addr) : Int32 := (1 : Int32)

theorem d8_0 : decode jdk_32_method_6_code 0 = .ok (.aload_n 0, 1) := by decide +kernel
theorem d8_1 : decode jdk_32_method_6_code 1 = .ok (.getfield 13, 3) := by decide +kernel
theorem d8_4 : decode jdk_32_method_6_code 4 = .ok (.ifnull 7, 3) := by decide +kernel
theorem d8_7 : decode jdk_32_method_6_code 7 = .ok (.iconst 1, 1) := by decide +kernel
theorem d8_8 : decode jdk_32_method_6_code 8 = .ok (.goto 4, 3) := by decide +kernel
theorem d8_12 : decode jdk_32_method_6_code 12 = .ok (.ireturn, 1) := by decide +kernel
theorem pn_rmIsp1 : plainFor (⟨"java/util/Optional", "isPresent", "()Z"⟩ : MethodName) = true := by first | exact plainFor_of_name (by first | (simp [plainName, overriddenIn]; done) | decide +kernel) | exact Jvm.Free.JP.mathPlain rfl (by decide +kernel) | decide +kernel
theorem ef_rmIsp1 (m : MethodId) (x0 : Addr) : entryFrame m #[(.ref x0)] 1 = mkF m 0 #[.val (.ref x0)] [] := by first | (simp [entryFrame, mkF, argsToLocals, Value.category]; done) | rfl
set_option maxRecDepth 65536 in
set_option maxHeartbeats 40000000 in
theorem rmIsp1 (l : Launch) (Z : State) (a0 : Array Value) (hw : ∀ d ∈ tables_1, d.before a0 Z = true) (ws : List Jvm.Cond) (ua : Addr) (uo : Addr) (h0 : Heap) (n0 : Nat) (Z0 : n0 ≤ h0.size) (F_value : Fld Z h0 ua "java/util/Optional" "value" "Ljava/lang/Object;" (.ref uo)) :
    MetFree l (⟨"java/util/Optional", "isPresent", "()Z"⟩ : MethodName) (head1 (Jvm.Cond.code (⟨"java/util/Optional", "isPresent", "()Z"⟩ : MethodName) jdk_32_method_6_code 1 (some .boolean) :: ws) ({ frames := 0, cells := 0, slots := 0, locals := 0 } : Room)) (fun a U => a = #[(.ref ua)] ∧ Z.Warmed39 U.vm ∧ U.heap = h0) (fun _ _ _ _ _ => True) (fun _ U o U' => ∃ v L, o = .returned v ∧ (own_P (.int (own_isp1 uo)) h0 n0) v U'.heap L ∧ FrameEnd U o U' L 0 0) := by
  refine MetFree.of_bodySF pn_rmIsp1 hisR ?_
  intro p e s m args below meth c s₁ Bd hml0 hP hK
  obtain ⟨rfl, hZ, hh⟩ := hP
  have hx := Bd.exec
  have hby := Bd.bytes
  have hml : c.maxLocals = 1 := hml0
  have hown : s.vm.findClass "java/util/Optional" = some m.cls := findClass_of_methodNamed Bd.named
  have hnm := (name_of_methodNamed Bd.named Bd.method).1
  have hrt := Bd.returns
  have hlk := Bd.notSynchronized
  have X0 : Stand p l e ({ frames := 0, cells := 0, slots := 0, locals := 0 } : Room) s m #[(.ref ua)] below meth c s₁ [] 0 0 := Stand.of_body Bd
  have e0 : s₁.heap = h0 := by rw [← hh, Bd.state]; rfl
  have N0 := Fr.nil n0
  refine own_done (B := s₁.setTop (mkF m 0 #[.val (.ref ua)] [])) (fun t k => castTop (ef_rmIsp1 m ua) k) ?_
  refine own_by (B := s₁.setTop (mkF m 1 #[.val (.ref ua)] [(.ref ua)])) (fun _ k => XS.aloadN X0.here hx rfl (hb hby d8_0) rfl rfl  k) ?_
  obtain ⟨T1, X1, e1, st1⟩ := getF X0 hx hZ hown (host := "") (Or.inl (hw _ (List.mem_of_getElem? (i := 48) rfl))) Via.refl e0 F_value (g := (mkF m 1 #[.val (.ref ua)] [(.ref ua)])) rfl rfl (hb hby d8_1)
  refine own_by (B := T1.setTop (mkF m 4 #[.val (.ref ua)] [(.ref uo)])) st1 ?_
  refine own_by (B := T1.setTop (mkF m 7 #[.val (.ref ua)] [])) (fun _ k => XS.ifnullNo X1.here hx rfl (hb hby d8_4) rfl k) ?_
  refine own_by (B := T1.setTop (mkF m 8 #[.val (.ref ua)] [(.int (1 : Int32))])) (fun _ k => XS.iconst X1.here hx rfl (hb hby d8_7) k) ?_
  refine own_by (B := T1.setTop (mkF m 12 #[.val (.ref ua)] [(.int (1 : Int32))])) (fun _ k => XS.goto X1.here hx rfl (pc0 := 8) (pc' := 12) rfl (hb hby d8_8) (by decide) (by decide) k) ?_
  exact own_retZ X1 hx hrt hlk rfl (hb hby d8_12) (by decide) (by decide) ⟨rfl, N0, e1⟩

def own_isp0  : Int32 := (0 : Int32)

theorem d8_11 : decode jdk_32_method_6_code 11 = .ok (.iconst 0, 1) := by decide +kernel

theorem pn_rmIsp0 : plainFor (⟨"java/util/Optional", "isPresent", "()Z"⟩ : MethodName) = true := by first | exact plainFor_of_name (by first | (simp [plainName, overriddenIn]; done) | decide +kernel) | exact Jvm.Free.JP.mathPlain rfl (by decide +kernel) | decide +kernel
theorem ef_rmIsp0 (m : MethodId) (x0 : Addr) : entryFrame m #[(.ref x0)] 1 = mkF m 0 #[.val (.ref x0)] [] := by first | (simp [entryFrame, mkF, argsToLocals, Value.category]; done) | rfl
set_option maxRecDepth 65536 in
set_option maxHeartbeats 40000000 in
theorem rmIsp0 (l : Launch) (Z : State) (a0 : Array Value) (hw : ∀ d ∈ tables_1, d.before a0 Z = true) (ws : List Jvm.Cond) (ua : Addr) (h0 : Heap) (n0 : Nat) (Z0 : n0 ≤ h0.size) (F_value : Fld Z h0 ua "java/util/Optional" "value" "Ljava/lang/Object;" .null) :
    MetFree l (⟨"java/util/Optional", "isPresent", "()Z"⟩ : MethodName) (head1 (Jvm.Cond.code (⟨"java/util/Optional", "isPresent", "()Z"⟩ : MethodName) jdk_32_method_6_code 1 (some .boolean) :: ws) ({ frames := 0, cells := 0, slots := 0, locals := 0 } : Room)) (fun a U => a = #[(.ref ua)] ∧ Z.Warmed39 U.vm ∧ U.heap = h0) (fun _ _ _ _ _ => True) (fun _ U o U' => ∃ v L, o = .returned v ∧ (own_P (.int (own_isp0 )) h0 n0) v U'.heap L ∧ FrameEnd U o U' L 0 0) := by
  refine MetFree.of_bodySF pn_rmIsp0 hisR ?_
  intro p e s m args below meth c s₁ Bd hml0 hP hK
  obtain ⟨rfl, hZ, hh⟩ := hP
  have hx := Bd.exec
  have hby := Bd.bytes
  have hml : c.maxLocals = 1 := hml0
  have hown : s.vm.findClass "java/util/Optional" = some m.cls := findClass_of_methodNamed Bd.named
  have hnm := (name_of_methodNamed Bd.named Bd.method).1
  have hrt := Bd.returns
  have hlk := Bd.notSynchronized
  have X0 : Stand p l e ({ frames := 0, cells := 0, slots := 0, locals := 0 } : Room) s m #[(.ref ua)] below meth c s₁ [] 0 0 := Stand.of_body Bd
  have e0 : s₁.heap = h0 := by rw [← hh, Bd.state]; rfl
  have N0 := Fr.nil n0
  refine own_done (B := s₁.setTop (mkF m 0 #[.val (.ref ua)] [])) (fun t k => castTop (ef_rmIsp0 m ua) k) ?_
  refine own_by (B := s₁.setTop (mkF m 1 #[.val (.ref ua)] [(.ref ua)])) (fun _ k => XS.aloadN X0.here hx rfl (hb hby d8_0) rfl rfl  k) ?_
  obtain ⟨T2, X2, e2, st2⟩ := getF X0 hx hZ hown (host := "") (Or.inl (hw _ (List.mem_of_getElem? (i := 48) rfl))) Via.refl e0 F_value (g := (mkF m 1 #[.val (.ref ua)] [(.ref ua)])) rfl rfl (hb hby d8_1)
  refine own_by (B := T2.setTop (mkF m 4 #[.val (.ref ua)] [.null])) st2 ?_
  refine own_by (B := T2.setTop (mkF m 11 #[.val (.ref ua)] [])) (fun _ k => XS.ifnullYes X2.here hx rfl (pc0 := 4) (pc' := 11) rfl (hb hby d8_4) rfl (by decide) (by decide) k) ?_
  refine own_by (B := T2.setTop (mkF m 12 #[.val (.ref ua)] [(.int (0 : Int32))])) (fun _ k => XS.iconst X2.here hx rfl (hb hby d8_11) k) ?_
  exact own_retZ X2 hx hrt hlk rfl (hb hby d8_12) (by decide) (by decide) ⟨rfl, N0, e2⟩

def own_get (uo : Addr) : Addr := uo

theorem d9_0 : decode jdk_32_method_5_code 0 = .ok (.aload_n 0, 1) := by decide +kernel
theorem d9_1 : decode jdk_32_method_5_code 1 = .ok (.getfield 13, 3) := by decide +kernel
theorem d9_4 : decode jdk_32_method_5_code 4 = .ok (.ifnonnull 13, 3) := by decide +kernel
theorem d9_17 : decode jdk_32_method_5_code 17 = .ok (.aload_n 0, 1) := by decide +kernel
theorem d9_18 : decode jdk_32_method_5_code 18 = .ok (.getfield 13, 3) := by decide +kernel
theorem d9_21 : decode jdk_32_method_5_code 21 = .ok (.areturn, 1) := by decide +kernel
theorem pn_rmGet : plainFor (⟨"java/util/Optional", "get", "()Ljava/lang/Object;"⟩ : MethodName) = true := by first | exact plainFor_of_name (by first | (simp [plainName, overriddenIn]; done) | decide +kernel) | exact Jvm.Free.JP.mathPlain rfl (by decide +kernel) | decide +kernel
theorem ef_rmGet (m : MethodId) (x0 : Addr) : entryFrame m #[(.ref x0)] 1 = mkF m 0 #[.val (.ref x0)] [] := by first | (simp [entryFrame, mkF, argsToLocals, Value.category]; done) | rfl
set_option maxRecDepth 65536 in
set_option maxHeartbeats 40000000 in
theorem rmGet (l : Launch) (Z : State) (a0 : Array Value) (hw : ∀ d ∈ tables_1, d.before a0 Z = true) (ws : List Jvm.Cond) (ua : Addr) (uo : Addr) (h0 : Heap) (n0 : Nat) (Z0 : n0 ≤ h0.size) (F_value : Fld Z h0 ua "java/util/Optional" "value" "Ljava/lang/Object;" (.ref uo)) :
    MetFree l (⟨"java/util/Optional", "get", "()Ljava/lang/Object;"⟩ : MethodName) (head1 (Jvm.Cond.code (⟨"java/util/Optional", "get", "()Ljava/lang/Object;"⟩ : MethodName) jdk_32_method_5_code 1 (some (.object "java/lang/Object")) :: ws) ({ frames := 0, cells := 0, slots := 0, locals := 0 } : Room)) (fun a U => a = #[(.ref ua)] ∧ Z.Warmed39 U.vm ∧ U.heap = h0) (fun _ _ _ _ _ => True) (fun _ U o U' => ∃ v L, o = .returned v ∧ (own_P (.ref (own_get uo)) h0 n0) v U'.heap L ∧ FrameEnd U o U' L 0 0) := by
  refine MetFree.of_bodySF pn_rmGet hisR ?_
  intro p e s m args below meth c s₁ Bd hml0 hP hK
  obtain ⟨rfl, hZ, hh⟩ := hP
  have hx := Bd.exec
  have hby := Bd.bytes
  have hml : c.maxLocals = 1 := hml0
  have hown : s.vm.findClass "java/util/Optional" = some m.cls := findClass_of_methodNamed Bd.named
  have hnm := (name_of_methodNamed Bd.named Bd.method).1
  have hrt := Bd.returns
  have hlk := Bd.notSynchronized
  have X0 : Stand p l e ({ frames := 0, cells := 0, slots := 0, locals := 0 } : Room) s m #[(.ref ua)] below meth c s₁ [] 0 0 := Stand.of_body Bd
  have e0 : s₁.heap = h0 := by rw [← hh, Bd.state]; rfl
  have N0 := Fr.nil n0
  refine own_done (B := s₁.setTop (mkF m 0 #[.val (.ref ua)] [])) (fun t k => castTop (ef_rmGet m ua) k) ?_
  refine own_by (B := s₁.setTop (mkF m 1 #[.val (.ref ua)] [(.ref ua)])) (fun _ k => XS.aloadN X0.here hx rfl (hb hby d9_0) rfl rfl  k) ?_
  obtain ⟨T1, X1, e1, st1⟩ := getF X0 hx hZ hown (host := "") (Or.inl (hw _ (List.mem_of_getElem? (i := 48) rfl))) Via.refl e0 F_value (g := (mkF m 1 #[.val (.ref ua)] [(.ref ua)])) rfl rfl (hb hby d9_1)
  refine own_by (B := T1.setTop (mkF m 4 #[.val (.ref ua)] [(.ref uo)])) st1 ?_
  refine own_by (B := T1.setTop (mkF m 17 #[.val (.ref ua)] [])) (fun _ k => XT.ifnonnullYes X1.here hx rfl (pc0 := 4) (pc' := 17) rfl (hb hby d9_4) rfl (by decide) (by decide) k) ?_
  refine own_by (B := T1.setTop (mkF m 18 #[.val (.ref ua)] [(.ref ua)])) (fun _ k => XS.aloadN X1.here hx rfl (hb hby d9_17) rfl rfl  k) ?_
  obtain ⟨T2, X2, e2, st2⟩ := getF X1 hx hZ hown (host := "") (Or.inl (hw _ (List.mem_of_getElem? (i := 48) rfl))) Via.refl e1 F_value (g := (mkF m 18 #[.val (.ref ua)] [(.ref ua)])) rfl rfl (hb hby d9_18)
  refine own_by (B := T2.setTop (mkF m 21 #[.val (.ref ua)] [(.ref uo)])) st2 ?_
  exact own_retA X2 hx hrt rfl rfl hlk (hb hby d9_21) (by decide) (by decide) ⟨rfl, N0, e2⟩

def own_gk (uk : Addr) : Addr := uk

theorem d10_0 : decode prog_46_method_17_code 0 = .ok (.aload_n 0, 1) := by decide +kernel
theorem d10_1 : decode prog_46_method_17_code 1 = .ok (.getfield 7, 3) := by decide +kernel
theorem d10_4 : decode prog_46_method_17_code 4 = .ok (.areturn, 1) := by decide +kernel
theorem pn_rmGk : plainFor (⟨"com/example/planwright/planwright/query/NumericType", "kind", "()Lcom/example/planwright/planwright/query/NumericKind;"⟩ : MethodName) = true := by first | exact plainFor_of_name (by first | (simp [plainName, overriddenIn]; done) | decide +kernel) | exact Jvm.Free.JP.mathPlain rfl (by decide +kernel) | decide +kernel
theorem ef_rmGk (m : MethodId) (x0 : Addr) : entryFrame m #[(.ref x0)] 1 = mkF m 0 #[.val (.ref x0)] [] := by first | (simp [entryFrame, mkF, argsToLocals, Value.category]; done) | rfl
set_option maxRecDepth 65536 in
set_option maxHeartbeats 40000000 in
theorem rmGk (l : Launch) (Z : State) (a0 : Array Value) (hw : ∀ d ∈ tables_1, d.before a0 Z = true) (ws : List Jvm.Cond) (ua : Addr) (uk : Addr) (h0 : Heap) (n0 : Nat) (Z0 : n0 ≤ h0.size) (F_kind : Fld Z h0 ua "com/example/planwright/planwright/query/NumericType" "kind" "Lcom/example/planwright/planwright/query/NumericKind;" (.ref uk)) :
    MetFree l (⟨"com/example/planwright/planwright/query/NumericType", "kind", "()Lcom/example/planwright/planwright/query/NumericKind;"⟩ : MethodName) (head1 (Jvm.Cond.code (⟨"com/example/planwright/planwright/query/NumericType", "kind", "()Lcom/example/planwright/planwright/query/NumericKind;"⟩ : MethodName) prog_46_method_17_code 1 (some (.object "com/example/planwright/planwright/query/NumericKind")) :: ws) ({ frames := 0, cells := 0, slots := 0, locals := 0 } : Room)) (fun a U => a = #[(.ref ua)] ∧ Z.Warmed39 U.vm ∧ U.heap = h0) (fun _ _ _ _ _ => True) (fun _ U o U' => ∃ v L, o = .returned v ∧ (own_P (.ref (own_gk uk)) h0 n0) v U'.heap L ∧ FrameEnd U o U' L 0 0) := by
  refine MetFree.of_bodySF pn_rmGk hisR ?_
  intro p e s m args below meth c s₁ Bd hml0 hP hK
  obtain ⟨rfl, hZ, hh⟩ := hP
  have hx := Bd.exec
  have hby := Bd.bytes
  have hml : c.maxLocals = 1 := hml0
  have hown : s.vm.findClass "com/example/planwright/planwright/query/NumericType" = some m.cls := findClass_of_methodNamed Bd.named
  have hnm := (name_of_methodNamed Bd.named Bd.method).1
  have hrt := Bd.returns
  have hlk := Bd.notSynchronized
  have X0 : Stand p l e ({ frames := 0, cells := 0, slots := 0, locals := 0 } : Room) s m #[(.ref ua)] below meth c s₁ [] 0 0 := Stand.of_body Bd
  have e0 : s₁.heap = h0 := by rw [← hh, Bd.state]; rfl
  have N0 := Fr.nil n0
  refine own_done (B := s₁.setTop (mkF m 0 #[.val (.ref ua)] [])) (fun t k => castTop (ef_rmGk m ua) k) ?_
  refine own_by (B := s₁.setTop (mkF m 1 #[.val (.ref ua)] [(.ref ua)])) (fun _ k => XS.aloadN X0.here hx rfl (hb hby d10_0) rfl rfl  k) ?_
  obtain ⟨T1, X1, e1, st1⟩ := getF X0 hx hZ hown (host := "") (Or.inl (hw _ (List.mem_of_getElem? (i := 19) rfl))) Via.refl e0 F_kind (g := (mkF m 1 #[.val (.ref ua)] [(.ref ua)])) rfl rfl (hb hby d10_1)
  refine own_by (B := T1.setTop (mkF m 4 #[.val (.ref ua)] [(.ref uk)])) st1 ?_
  exact own_retA X1 hx hrt rfl rfl hlk (hb hby d10_4) (by decide) (by decide) ⟨rfl, N0, e1⟩

def own_gp (up : Int32) : Int32 := up

theorem d11_0 : decode prog_46_method_18_code 0 = .ok (.aload_n 0, 1) := by decide +kernel
theorem d11_1 : decode prog_46_method_18_code 1 = .ok (.getfield 13, 3) := by decide +kernel
theorem d11_4 : decode prog_46_method_18_code 4 = .ok (.ireturn, 1) := by decide +kernel
theorem pn_rmGp : plainFor (⟨"com/example/planwright/planwright/query/NumericType", "precision", "()I"⟩ : MethodName) = true := by first | exact plainFor_of_name (by first | (simp [plainName, overriddenIn]; done) | decide +kernel) | exact Jvm.Free.JP.mathPlain rfl (by decide +kernel) | decide +kernel
theorem ef_rmGp (m : MethodId) (x0 : Addr) : entryFrame m #[(.ref x0)] 1 = mkF m 0 #[.val (.ref x0)] [] := by first | (simp [entryFrame, mkF, argsToLocals, Value.category]; done) | rfl
set_option maxRecDepth 65536 in
set_option maxHeartbeats 40000000 in
theorem rmGp (l : Launch) (Z : State) (a0 : Array Value) (hw : ∀ d ∈ tables_1, d.before a0 Z = true) (ws : List Jvm.Cond) (ua : Addr) (up : Int32) (h0 : Heap) (n0 : Nat) (Z0 : n0 ≤ h0.size) (F_precision : Fld Z h0 ua "com/example/planwright/planwright/query/NumericType" "precision" "I" (.int up)) :
    MetFree l (⟨"com/example/planwright/planwright/query/NumericType", "precision", "()I"⟩ : MethodName) (head1 (Jvm.Cond.code (⟨"com/example/planwright/planwright/query/NumericType", "precision", "()I"⟩ : MethodName) prog_46_method_18_code 1 (some .int) :: ws) ({ frames := 0, cells := 0, slots := 0, locals := 0 } : Room)) (fun a U => a = #[(.ref ua)] ∧ Z.Warmed39 U.vm ∧ U.heap = h0) (fun _ _ _ _ _ => True) (fun _ U o U' => ∃ v L, o = .returned v ∧ (own_P (.int (own_gp up)) h0 n0) v U'.heap L ∧ FrameEnd U o U' L 0 0) := by
  refine MetFree.of_bodySF pn_rmGp hisR ?_
  intro p e s m args below meth c s₁ Bd hml0 hP hK
  obtain ⟨rfl, hZ, hh⟩ := hP
  have hx := Bd.exec
  have hby := Bd.bytes
  have hml : c.maxLocals = 1 := hml0
  have hown : s.vm.findClass "com/example/planwright/planwright/query/NumericType" = some m.cls := findClass_of_methodNamed Bd.named
  have hnm := (name_of_methodNamed Bd.named Bd.method).1
  have hrt := Bd.returns
  have hlk := Bd.notSynchronized
  have X0 : Stand p l e ({ frames := 0, cells := 0, slots := 0, locals := 0 } : Room) s m #[(.ref ua)] below meth c s₁ [] 0 0 := Stand.of_body Bd
  have e0 : s₁.heap = h0 := by rw [← hh, Bd.state]; rfl
  have N0 := Fr.nil n0
  refine own_done (B := s₁.setTop (mkF m 0 #[.val (.ref ua)] [])) (fun t k => castTop (ef_rmGp m ua) k) ?_
  refine own_by (B := s₁.setTop (mkF m 1 #[.val (.ref ua)] [(.ref ua)])) (fun _ k => XS.aloadN X0.here hx rfl (hb hby d11_0) rfl rfl  k) ?_
  obtain ⟨T1, X1, e1, st1⟩ := getF X0 hx hZ hown (host := "") (Or.inl (hw _ (List.mem_of_getElem? (i := 21) rfl))) Via.refl e0 F_precision (g := (mkF m 1 #[.val (.ref ua)] [(.ref ua)])) rfl rfl (hb hby d11_1)
  refine own_by (B := T1.setTop (mkF m 4 #[.val (.ref ua)] [(.int up)])) st1 ?_
  exact own_retI X1 hx hrt hlk (hb hby d11_4) (by decide) (by decide) ⟨rfl, N0, e1⟩

def own_gs (us : Int32) : Int32 := us

theorem d12_0 : decode prog_46_method_19_code 0 = .ok (.aload_n 0, 1) := by decide +kernel
theorem d12_1 : decode prog_46_method_19_code 1 = .ok (.getfield 17, 3) := by decide +kernel
theorem d12_4 : decode prog_46_method_19_code 4 = .ok (.ireturn, 1) := by decide +kernel
theorem pn_rmGs : plainFor (⟨"com/example/planwright/planwright/query/NumericType", "scale", "()I"⟩ : MethodName) = true := by first | exact plainFor_of_name (by first | (simp [plainName, overriddenIn]; done) | decide +kernel) | exact Jvm.Free.JP.mathPlain rfl (by decide +kernel) | decide +kernel
theorem ef_rmGs (m : MethodId) (x0 : Addr) : entryFrame m #[(.ref x0)] 1 = mkF m 0 #[.val (.ref x0)] [] := by first | (simp [entryFrame, mkF, argsToLocals, Value.category]; done) | rfl
set_option maxRecDepth 65536 in
set_option maxHeartbeats 40000000 in
theorem rmGs (l : Launch) (Z : State) (a0 : Array Value) (hw : ∀ d ∈ tables_1, d.before a0 Z = true) (ws : List Jvm.Cond) (ua : Addr) (us : Int32) (h0 : Heap) (n0 : Nat) (Z0 : n0 ≤ h0.size) (F_scale : Fld Z h0 ua "com/example/planwright/planwright/query/NumericType" "scale" "I" (.int us)) :
    MetFree l (⟨"com/example/planwright/planwright/query/NumericType", "scale", "()I"⟩ : MethodName) (head1 (Jvm.Cond.code (⟨"com/example/planwright/planwright/query/NumericType", "scale", "()I"⟩ : MethodName) prog_46_method_19_code 1 (some .int) :: ws) ({ frames := 0, cells := 0, slots := 0, locals := 0 } : Room)) (fun a U => a = #[(.ref ua)] ∧ Z.Warmed39 U.vm ∧ U.heap = h0) (fun _ _ _ _ _ => True) (fun _ U o U' => ∃ v L, o = .returned v ∧ (own_P (.int (own_gs us)) h0 n0) v U'.heap L ∧ FrameEnd U o U' L 0 0) := by
  refine MetFree.of_bodySF pn_rmGs hisR ?_
  intro p e s m args below meth c s₁ Bd hml0 hP hK
  obtain ⟨rfl, hZ, hh⟩ := hP
  have hx := Bd.exec
  have hby := Bd.bytes
  have hml : c.maxLocals = 1 := hml0
  have hown : s.vm.findClass "com/example/planwright/planwright/query/NumericType" = some m.cls := findClass_of_methodNamed Bd.named
  have hnm := (name_of_methodNamed Bd.named Bd.method).1
  have hrt := Bd.returns
  have hlk := Bd.notSynchronized
  have X0 : Stand p l e ({ frames := 0, cells := 0, slots := 0, locals := 0 } : Room) s m #[(.ref ua)] below meth c s₁ [] 0 0 := Stand.of_body Bd
  have e0 : s₁.heap = h0 := by rw [← hh, Bd.state]; rfl
  have N0 := Fr.nil n0
  refine own_done (B := s₁.setTop (mkF m 0 #[.val (.ref ua)] [])) (fun t k => castTop (ef_rmGs m ua) k) ?_
  refine own_by (B := s₁.setTop (mkF m 1 #[.val (.ref ua)] [(.ref ua)])) (fun _ k => XS.aloadN X0.here hx rfl (hb hby d12_0) rfl rfl  k) ?_
  obtain ⟨T1, X1, e1, st1⟩ := getF X0 hx hZ hown (host := "") (Or.inl (hw _ (List.mem_of_getElem? (i := 23) rfl))) Via.refl e0 F_scale (g := (mkF m 1 #[.val (.ref ua)] [(.ref ua)])) rfl rfl (hb hby d12_1)
  refine own_by (B := T1.setTop (mkF m 4 #[.val (.ref ua)] [(.int us)])) st1 ?_
  exact own_retI X1 hx hrt hlk (hb hby d12_4) (by decide) (by decide) ⟨rfl, N0, e1⟩

def own_min (ux : Int32) (uy : Int32) : Int32 := if uy < ux then uy else ux

theorem d14_0 : decode jdk_29_method_69_code 0 = .ok (.iload_n 0, 1) := by decide +kernel
theorem d14_1 : decode jdk_29_method_69_code 1 = .ok (.iload_n 1, 1) := by decide +kernel
theorem d14_2 : decode jdk_29_method_69_code 2 = .ok (.if_icmp .gt 7, 3) := by decide +kernel
theorem d14_5 : decode jdk_29_method_69_code 5 = .ok (.iload_n 0, 1) := by decide +kernel
theorem d14_6 : decode jdk_29_method_69_code 6 = .ok (.goto 4, 3) := by decide +kernel
theorem d14_9 : decode jdk_29_method_69_code 9 = .ok (.iload_n 1, 1) := by decide +kernel
theorem d14_10 : decode jdk_29_method_69_code 10 = .ok (.ireturn, 1) := by decide +kernel
theorem pn_rmMin : plainFor (⟨"java/lang/Math", "min", "(II)I"⟩ : MethodName) = true := by first | exact plainFor_of_name (by first | (simp [plainName, overriddenIn]; done) | decide +kernel) | exact Jvm.Free.JP.mathPlain rfl (by decide +kernel) | decide +kernel
theorem ef_rmMin (m : MethodId) (x0 : Int32) (x1 : Int32) : entryFrame m #[(.int x0), (.int x1)] 2 = mkF m 0 #[.val (.int x0), .val (.int x1)] [] := by first | (simp [entryFrame, mkF, argsToLocals, Value.category]; done) | rfl
set_option maxRecDepth 65536 in
set_option maxHeartbeats 40000000 in
theorem rmMin (l : Launch) (Z : State) (a0 : Array Value) (hw : ∀ d ∈ tables_1, d.before a0 Z = true) (ws : List Jvm.Cond) (ux uy : Int32) (h0 : Heap) (n0 : Nat) (Z0 : n0 ≤ h0.size)  :
    MetFree l (⟨"java/lang/Math", "min", "(II)I"⟩ : MethodName) (head1 (Jvm.Cond.code (⟨"java/lang/Math", "min", "(II)I"⟩ : MethodName) jdk_29_method_69_code 2 (some .int) :: ws) ({ frames := 0, cells := 0, slots := 0, locals := 0 } : Room)) (fun a U => a = #[(.int ux), (.int uy)] ∧ Z.Warmed39 U.vm ∧ U.heap = h0) (fun _ _ _ _ _ => True) (fun _ U o U' => ∃ v L, o = .returned v ∧ (own_P (.int (own_min ux uy)) h0 n0) v U'.heap L ∧ FrameEnd U o U' L 0 0) := by
  refine MetFree.of_bodySF pn_rmMin hisR ?_
  intro p e s m args below meth c s₁ Bd hml0 hP hK
  obtain ⟨rfl, hZ, hh⟩ := hP
  have hx := Bd.exec
  have hby := Bd.bytes
  have hml : c.maxLocals = 2 := hml0
  have hown : s.vm.findClass "java/lang/Math" = some m.cls := findClass_of_methodNamed Bd.named
  have hnm := (name_of_methodNamed Bd.named Bd.method).1
  have hrt := Bd.returns
  have hlk := Bd.notSynchronized
  have X0 : Stand p l e ({ frames := 0, cells := 0, slots := 0, locals := 0 } : Room) s m #[(.int ux), (.int uy)] below meth c s₁ [] 0 0 := Stand.of_body Bd
  have e0 : s₁.heap = h0 := by rw [← hh, Bd.state]; rfl
  have N0 := Fr.nil n0
  refine own_done (B := s₁.setTop (mkF m 0 #[.val (.int ux), .val (.int uy)] [])) (fun t k => castTop (ef_rmMin m ux uy) k) ?_
  refine own_by (B := s₁.setTop (mkF m 1 #[.val (.int ux), .val (.int uy)] [(.int ux)])) (fun _ k => XS.iloadN X0.here hx rfl (hb hby d14_0) rfl  k) ?_
  refine own_by (B := s₁.setTop (mkF m 2 #[.val (.int ux), .val (.int uy)] [(.int uy), (.int ux)])) (fun _ k => XS.iloadN X0.here hx rfl (hb hby d14_1) rfl  k) ?_
  by_cases hc1 : uy < ux
  · refine own_by (B := s₁.setTop (mkF m 9 #[.val (.int ux), .val (.int uy)] [])) (fun _ k => XS.icmpYes X0.here hx rfl (pc0 := 2) (pc' := 9) rfl (hb hby d14_2) rfl (XT.ii_gt_t hc1) (by decide) (by decide) k) ?_
    refine own_by (B := s₁.setTop (mkF m 10 #[.val (.int ux), .val (.int uy)] [(.int uy)])) (fun _ k => XS.iloadN X0.here hx rfl (hb hby d14_9) rfl  k) ?_
    exact own_retI X0 hx hrt hlk (hb hby d14_10) (by decide) (by decide) ⟨(by unfold own_min; rw [if_pos hc1]), N0, e0⟩
  · refine own_by (B := s₁.setTop (mkF m 5 #[.val (.int ux), .val (.int uy)] [])) (fun _ k => XS.icmpNo X0.here hx rfl (hb hby d14_2) rfl (XT.ii_gt_f hc1) k) ?_
    refine own_by (B := s₁.setTop (mkF m 6 #[.val (.int ux), .val (.int uy)] [(.int ux)])) (fun _ k => XS.iloadN X0.here hx rfl (hb hby d14_5) rfl  k) ?_
    refine own_by (B := s₁.setTop (mkF m 10 #[.val (.int ux), .val (.int uy)] [(.int ux)])) (fun _ k => XS.goto X0.here hx rfl (pc0 := 6) (pc' := 10) rfl (hb hby d14_6) (by decide) (by decide) k) ?_
    exact own_retI X0 hx hrt hlk (hb hby d14_10) (by decide) (by decide) ⟨(by unfold own_min; rw [if_neg hc1]), N0, e0⟩

def own_em (a_EMPTY : Addr) : Addr := a_EMPTY

theorem d16_0 : decode jdk_32_method_1_code 0 = .ok (.getstatic 1, 3) := by decide +kernel
theorem d16_3 : decode jdk_32_method_1_code 3 = .ok (.astore_n 0, 1) := by decide +kernel
theorem d16_4 : decode jdk_32_method_1_code 4 = .ok (.aload_n 0, 1) := by decide +kernel
theorem d16_5 : decode jdk_32_method_1_code 5 = .ok (.areturn, 1) := by decide +kernel
theorem pn_rmEm : plainFor (⟨"java/util/Optional", "empty", "()Ljava/util/Optional;"⟩ : MethodName) = true := by first | exact plainFor_of_name (by first | (simp [plainName, overriddenIn]; done) | decide +kernel) | exact Jvm.Free.JP.mathPlain rfl (by decide +kernel) | decide +kernel
theorem ef_rmEm (m : MethodId)  : entryFrame m #[] 1 = mkF m 0 #[.unset] [] := by first | (simp [entryFrame, mkF, argsToLocals, Value.category]; done) | rfl
set_option maxRecDepth 65536 in
set_option maxHeartbeats 40000000 in
theorem rmEm (l : Launch) (Z : State) (a0 : Array Value) (hw : ∀ d ∈ tables_1, d.before a0 Z = true) (ws : List Jvm.Cond) (a_INTEGER a_BIGINT a_DECIMAL a_OTHER a_APPROXIMATE a_EMPTY : Addr) (h0 : Heap) (n0 : Nat) (Z0 : n0 ≤ h0.size) (O0 : Old Z n0 h0) (HW : own_W Z Z.heap a_INTEGER a_BIGINT a_DECIMAL a_OTHER a_APPROXIMATE a_EMPTY) :
    MetFree l (⟨"java/util/Optional", "empty", "()Ljava/util/Optional;"⟩ : MethodName) (head1 (Jvm.Cond.code (⟨"java/util/Optional", "empty", "()Ljava/util/Optional;"⟩ : MethodName) jdk_32_method_1_code 1 (some (.object "java/util/Optional")) :: ws) ({ frames := 0, cells := 0, slots := 0, locals := 0 } : Room)) (fun a U => a = #[] ∧ Z.Warmed39 U.vm ∧ U.heap = h0) (fun _ _ _ _ _ => True) (fun _ U o U' => ∃ v L, o = .returned v ∧ (own_P (.ref (own_em a_EMPTY)) h0 n0) v U'.heap L ∧ FrameEnd U o U' L 0 0) := by
  refine MetFree.of_bodySF pn_rmEm hisR ?_
  intro p e s m args below meth c s₁ Bd hml0 hP hK
  obtain ⟨rfl, hZ, hh⟩ := hP
  have hx := Bd.exec
  have hby := Bd.bytes
  have hml : c.maxLocals = 1 := hml0
  have hown : s.vm.findClass "java/util/Optional" = some m.cls := findClass_of_methodNamed Bd.named
  have hnm := (name_of_methodNamed Bd.named Bd.method).1
  have hrt := Bd.returns
  have hlk := Bd.notSynchronized
  have X0 : Stand p l e ({ frames := 0, cells := 0, slots := 0, locals := 0 } : Room) s m #[] below meth c s₁ [] 0 0 := Stand.of_body Bd
  have e0 : s₁.heap = h0 := by rw [← hh, Bd.state]; rfl
  have N0 := Fr.nil n0
  have HW' := HW
  obtain ⟨S_INTEGER, E_INTEGER, S_BIGINT, E_BIGINT, S_DECIMAL, E_DECIMAL, S_OTHER, E_OTHER, S_APPROXIMATE, E_APPROXIMATE, F_BIGINT_precision, F_BIGINT_scale, F_DECIMAL_ordinal, F_INTEGER_ordinal, F_BIGINT_kind, S_EMPTY, E_EMPTY, F_EMPTY_value⟩ := HW'
  refine own_done (B := s₁.setTop (mkF m 0 #[.unset] [])) (fun t k => castTop (ef_rmEm m ) k) ?_
  obtain ⟨T1, X1, e1, st1⟩ := getS2 X0 hx hZ hown (host := "") (Or.inl (hw _ (List.mem_of_getElem? (i := 99) rfl))) Via.refl e0 (S_EMPTY.ext O0.2) (g := (mkF m 0 #[.unset] [])) rfl (hb hby d16_0)
  refine own_by (B := T1.setTop (mkF m 3 #[.unset] [(.ref a_EMPTY)])) st1 ?_
  refine own_by (B := T1.setTop (mkF m 4 #[.val (.ref a_EMPTY)] [])) (fun _ k => XS.astoreN X1.here hx rfl (hb hby d16_3) rfl rfl (l' := #[.val (.ref a_EMPTY)]) rfl k) ?_
  refine own_by (B := T1.setTop (mkF m 5 #[.val (.ref a_EMPTY)] [(.ref a_EMPTY)])) (fun _ k => XS.aloadN X1.here hx rfl (hb hby d16_4) rfl rfl  k) ?_
  exact own_retA X1 hx hrt rfl rfl hlk (hb hby d16_5) (by decide) (by decide) ⟨rfl, N0, e1⟩

theorem d13_0 : decode prog_46_method_7_code 0 = .ok (.aload_n 0, 1) := by decide +kernel
theorem d13_1 : decode prog_46_method_7_code 1 = .ok (.getfield 13, 3) := by decide +kernel
theorem d13_4 : decode prog_46_method_7_code 4 = .ok (.bipush 10, 2) := by decide +kernel
theorem d13_6 : decode prog_46_method_7_code 6 = .ok (.iadd, 1) := by decide +kernel
theorem d13_7 : decode prog_46_method_7_code 7 = .ok (.ldc 96, 2) := by decide +kernel
theorem d13_9 : decode prog_46_method_7_code 9 = .ok (.invokestatic 219, 3) := by decide +kernel
theorem d13_12 : decode prog_46_method_7_code 12 = .ok (.ireturn, 1) := by decide +kernel
theorem pd_13__II_I : parseMethodDescriptor "(II)I" = some ⟨[.int, .int], some .int⟩ := by decide +kernel
theorem pn_rmWd : plainFor (⟨"com/example/planwright/planwright/query/NumericType", "widened", "()I"⟩ : MethodName) = true := by first | exact plainFor_of_name (by first | (simp [plainName, overriddenIn]; done) | decide +kernel) | exact Jvm.Free.JP.mathPlain rfl (by decide +kernel) | decide +kernel
theorem ef_rmWd (m : MethodId) (x0 : Addr) : entryFrame m #[(.ref x0)] 1 = mkF m 0 #[.val (.ref x0)] [] := by first | (simp [entryFrame, mkF, argsToLocals, Value.category]; done) | rfl
set_option maxRecDepth 65536 in
set_option maxHeartbeats 40000000 in
theorem rmWd (l : Launch) (Z : State) (a0 : Array Value) (hw : ∀ d ∈ tables_1, d.before a0 Z = true) (ws : List Jvm.Cond) (ua : Addr) (up : Int32) (h0 : Heap) (n0 : Nat) (Z0 : n0 ≤ h0.size) (F_precision : Fld Z h0 ua "com/example/planwright/planwright/query/NumericType" "precision" "I" (.int up)) :
    MetFree l (⟨"com/example/planwright/planwright/query/NumericType", "widened", "()I"⟩ : MethodName) (head1 (Jvm.Cond.code (⟨"com/example/planwright/planwright/query/NumericType", "widened", "()I"⟩ : MethodName) prog_46_method_7_code 1 (some .int) :: ws) ({ frames := 1, cells := 0, slots := 0, locals := 13 } : Room)) (fun a U => a = #[(.ref ua)] ∧ Z.Warmed39 U.vm ∧ U.heap = h0) (fun _ _ _ _ _ => True) (fun _ U o U' => ∃ v L, o = .returned v ∧ (own_P (.int (own_min (up + (10 : Int32)) (100000 : Int32))) h0 n0) v U'.heap L ∧ FrameEnd U o U' L 0 0) := by
  refine MetFree.of_bodySF pn_rmWd hisR ?_
  intro p e s m args below meth c s₁ Bd hml0 hP hK
  obtain ⟨rfl, hZ, hh⟩ := hP
  have hx := Bd.exec
  have hby := Bd.bytes
  have hml : c.maxLocals = 1 := hml0
  have hown : s.vm.findClass "com/example/planwright/planwright/query/NumericType" = some m.cls := findClass_of_methodNamed Bd.named
  have hnm := (name_of_methodNamed Bd.named Bd.method).1
  have hrt := Bd.returns
  have hlk := Bd.notSynchronized
  have X0 : Stand p l e ({ frames := 1, cells := 0, slots := 0, locals := 13 } : Room) s m #[(.ref ua)] below meth c s₁ [] 0 0 := Stand.of_body Bd
  have e0 : s₁.heap = h0 := by rw [← hh, Bd.state]; rfl
  have N0 := Fr.nil n0
  refine own_done (B := s₁.setTop (mkF m 0 #[.val (.ref ua)] [])) (fun t k => castTop (ef_rmWd m ua) k) ?_
  refine own_by (B := s₁.setTop (mkF m 1 #[.val (.ref ua)] [(.ref ua)])) (fun _ k => XS.aloadN X0.here hx rfl (hb hby d13_0) rfl rfl  k) ?_
  obtain ⟨T1, X1, e1, st1⟩ := getF X0 hx hZ hown (host := "") (Or.inl (hw _ (List.mem_of_getElem? (i := 21) rfl))) Via.refl e0 F_precision (g := (mkF m 1 #[.val (.ref ua)] [(.ref ua)])) rfl rfl (hb hby d13_1)
  refine own_by (B := T1.setTop (mkF m 4 #[.val (.ref ua)] [(.int up)])) st1 ?_
  refine own_by (B := T1.setTop (mkF m 6 #[.val (.ref ua)] [(.int (10 : Int32)), (.int up)])) (fun _ k => XS.bipush X1.here hx rfl (hb hby d13_4) k) ?_
  refine own_by (B := T1.setTop (mkF m 7 #[.val (.ref ua)] [(.int (up + (10 : Int32)))])) (fun _ k => XS.iadd X1.here hx rfl (hb hby d13_6) rfl k) ?_
  refine own_by (B := T1.setTop (mkF m 9 #[.val (.ref ua)] [(.int (100000 : Int32)), (.int (up + (10 : Int32)))])) (fun _ k => X1.ldcI (g := (mkF m 7 #[.val (.ref ua)] [(.int (up + (10 : Int32)))])) hx hown (mvT hZ (hw _ (List.mem_of_getElem? (i := 82) rfl))) rfl (hb hby d13_7) k) ?_
  obtain ⟨_, _, ⟨T2, L2, k2, n2⟩, -, X2, ⟨Lc2, hQ2, l2, y2, z2⟩, st2⟩ := Jvm.LawKit.callS X1 hx (y := (⟨"java/lang/Math", "min", "(II)I"⟩ : MethodName)) hown (mvT hZ (hw _ (List.mem_of_getElem? (i := 83) rfl))) (mvT hZ (hw _ (List.mem_of_getElem? (i := 84) rfl))) (mvT hZ (hw _ (List.mem_of_getElem? (i := 85) rfl))) (mvT hZ (hw _ (List.mem_of_getElem? (i := 86) rfl))) (by decide) (backOf (W := 0) (rmMin l Z a0 hw [] (up + (10 : Int32)) (100000 : Int32) h0 n0 Z0) hZ (hw _ (List.mem_of_getElem? (i := 86) rfl)) (hw _ (List.mem_of_getElem? (i := 85) rfl)) (by decide) (by decide)) (g := (mkF m 9 #[.val (.ref ua)] [(.int (100000 : Int32)), (.int (up + (10 : Int32)))])) rfl (by rw [hml]; rfl) (argsL := [(.int (up + (10 : Int32))), (.int (100000 : Int32))]) (rest := []) (lenOf pd_13__II_I rfl) rfl (by show 2 * 0 + _ ≤ _; exact Nat.le_of_eq rfl) (hb hby d13_9) (fun _ _ => ⟨rfl, e1, (by decide : 0 + 0 ≤ _), (by decide : 0 + 0 ≤ _)⟩)
  dsimp only [Pt.U, Pt.locs, Pt.cells, Pt.slots] at X2 l2 y2 z2 st2 hQ2
  subst l2 y2 z2
  obtain ⟨rfl, N2, e2⟩ := hQ2
  refine own_by (B := T2.setTop (mkF m 12 #[.val (.ref ua)] [(.int (own_min (up + (10 : Int32)) (100000 : Int32)))])) st2 ?_
  have M2 := Fr.app N0 N2
  exact own_retI X2 hx hrt hlk (hb hby d13_12) (by decide) (by decide) ⟨rfl, M2, e2⟩

def own_QOf (Z : State) (uo : Addr) (h0 : Heap) (n0 : Nat) (v : Option Value) (h : Heap) (L : List Loc) : Prop := ∃ b : Addr, v = some (.ref b) ∧ Fr n0 L ∧ Keep h0 h [] ∧ h0.size ≤ b ∧ Exa Z h b "java/util/Optional" ∧ Fld Z h b "java/util/Optional" "value" "Ljava/lang/Object;" (.ref uo)

theorem d5_0 : decode jdk_32_method_3_code 0 = .ok (.new 2, 3) := by decide +kernel
theorem d5_3 : decode jdk_32_method_3_code 3 = .ok (.dup, 1) := by decide +kernel
theorem d5_4 : decode jdk_32_method_3_code 4 = .ok (.aload_n 0, 1) := by decide +kernel
theorem d5_5 : decode jdk_32_method_3_code 5 = .ok (.invokestatic 17, 3) := by decide +kernel
theorem d5_8 : decode jdk_32_method_3_code 8 = .ok (.invokespecial 23, 3) := by decide +kernel
theorem d5_11 : decode jdk_32_method_3_code 11 = .ok (.areturn, 1) := by decide +kernel
theorem pd_5__Ljava_lang_Object__Ljava_lang_Object_ : parseMethodDescriptor "(Ljava/lang/Object;)Ljava/lang/Object;" = some ⟨[(.object "java/lang/Object")], some (.object "java/lang/Object")⟩ := by decide +kernel
theorem pd_5__Ljava_lang_Object__V : parseMethodDescriptor "(Ljava/lang/Object;)V" = some ⟨[(.object "java/lang/Object")], none⟩ := by decide +kernel
theorem pn_rmOf : plainFor (⟨"java/util/Optional", "of", "(Ljava/lang/Object;)Ljava/util/Optional;"⟩ : MethodName) = true := by first | exact plainFor_of_name (by first | (simp [plainName, overriddenIn]; done) | decide +kernel) | exact Jvm.Free.JP.mathPlain rfl (by decide +kernel) | decide +kernel
theorem ef_rmOf (m : MethodId) (x0 : Addr) : entryFrame m #[(.ref x0)] 1 = mkF m 0 #[.val (.ref x0)] [] := by first | (simp [entryFrame, mkF, argsToLocals, Value.category]; done) | rfl
set_option maxRecDepth 65536 in
set_option maxHeartbeats 40000000 in
theorem rmOf (l : Launch) (Z : State) (a0 : Array Value) (hw : ∀ d ∈ tables_1, d.before a0 Z = true) (ws : List Jvm.Cond) (uo : Addr) (h0 : Heap) (n0 : Nat) (Z0 : n0 ≤ h0.size) (O0 : Old Z n0 h0) :
    MetFree l (⟨"java/util/Optional", "of", "(Ljava/lang/Object;)Ljava/util/Optional;"⟩ : MethodName) (head1 (Jvm.Cond.code (⟨"java/util/Optional", "of", "(Ljava/lang/Object;)Ljava/util/Optional;"⟩ : MethodName) jdk_32_method_3_code 1 (some (.object "java/util/Optional")) :: ws) ({ frames := 2, cells := 1, slots := 1, locals := 26 } : Room)) (fun a U => a = #[(.ref uo)] ∧ Z.Warmed39 U.vm ∧ U.heap = h0) (fun _ _ _ _ _ => True) (fun _ U o U' => ∃ v L, o = .returned v ∧ (own_QOf Z uo h0 n0) v U'.heap L ∧ FrameEnd U o U' L 1 1) := by
  refine MetFree.of_bodySF pn_rmOf hisR ?_
  intro p e s m args below meth c s₁ Bd hml0 hP hK
  obtain ⟨rfl, hZ, hh⟩ := hP
  have hx := Bd.exec
  have hby := Bd.bytes
  have hml : c.maxLocals = 1 := hml0
  have hown : s.vm.findClass "java/util/Optional" = some m.cls := findClass_of_methodNamed Bd.named
  have hnm := (name_of_methodNamed Bd.named Bd.method).1
  have hrt := Bd.returns
  have hlk := Bd.notSynchronized
  have X0 : Stand p l e ({ frames := 2, cells := 1, slots := 1, locals := 26 } : Room) s m #[(.ref uo)] below meth c s₁ [] 0 0 := Stand.of_body Bd
  have e0 : s₁.heap = h0 := by rw [← hh, Bd.state]; rfl
  have N0 := Fr.nil n0
  have K0 := Keep.refl h0 []
  refine own_done (B := s₁.setTop (mkF m 0 #[.val (.ref uo)] [])) (fun t k => castTop (ef_rmOf m uo) k) ?_
  obtain ⟨T1, h1, X1, e1, E1, A1, D1, -, st1⟩ := newO X0 hx hZ hown (hw _ (List.mem_of_getElem? (i := 37) rfl)) (hw _ (List.mem_of_getElem? (i := 38) rfl)) (hw _ (List.mem_of_getElem? (i := 35) rfl)) e0 (g := (mkF m 0 #[.val (.ref uo)] [])) rfl (hb hby d5_0) (by decide) (by decide)
  obtain ⟨b1, g1⟩ : ∃ z, z = h0.size := ⟨_, rfl⟩
  rw [← g1] at A1 D1 st1
  have sz1 := E1.1
  have gn1 : n0 ≤ b1 := g1 ▸ own_old_le O0
  have fz1 : h0.size ≤ b1 := g1 ▸ K0.1
  have lt1 := A1.lt
  have O1 := O0.ext E1
  have K1 := K0.ext E1
  have F1_value : Fld Z h1 b1 "java/util/Optional" "value" "Ljava/lang/Object;" .null := D1 (Or.inr (hw _ (List.mem_of_getElem? (i := 49) rfl))) (ty := (.object "java/lang/Object")) (by decide)
  refine own_by (B := T1.setTop (mkF m 3 #[.val (.ref uo)] [(.ref b1)])) st1 ?_
  refine own_by (B := T1.setTop (mkF m 4 #[.val (.ref uo)] [(.ref b1), (.ref b1)])) (fun _ k => XS.dup X1.here hx rfl (hb hby d5_3) rfl rfl k) ?_
  refine own_by (B := T1.setTop (mkF m 5 #[.val (.ref uo)] [(.ref uo), (.ref b1), (.ref b1)])) (fun _ k => XS.aloadN X1.here hx rfl (hb hby d5_4) rfl rfl  k) ?_
  obtain ⟨_, _, ⟨T2, L2, k2, n2⟩, -, X2, ⟨Lc2, hQ2, l2, y2, z2⟩, st2⟩ := Jvm.LawKit.callS X1 hx (y := (⟨"java/util/Objects", "requireNonNull", "(Ljava/lang/Object;)Ljava/lang/Object;"⟩ : MethodName)) hown (mvT hZ (hw _ (List.mem_of_getElem? (i := 39) rfl))) (mvT hZ (hw _ (List.mem_of_getElem? (i := 40) rfl))) (mvT hZ (hw _ (List.mem_of_getElem? (i := 41) rfl))) (mvT hZ (hw _ (List.mem_of_getElem? (i := 42) rfl))) (by decide) (backOf (W := 2) (rmRNN l Z a0 hw [] uo h1 n0 (own_old_le O1)) hZ (hw _ (List.mem_of_getElem? (i := 42) rfl)) (hw _ (List.mem_of_getElem? (i := 41) rfl)) (by decide) (by decide)) (g := (mkF m 5 #[.val (.ref uo)] [(.ref uo), (.ref b1), (.ref b1)])) rfl (by rw [hml]; rfl) (argsL := [(.ref uo)]) (rest := [(.ref b1), (.ref b1)]) (lenOf pd_5__Ljava_lang_Object__Ljava_lang_Object_ rfl) rfl (by show 2 * 0 + _ ≤ _; exact Nat.le_of_eq rfl) (hb hby d5_5) (fun _ _ => ⟨rfl, e1, (by decide : 1 + 0 ≤ _), (by decide : 1 + 0 ≤ _)⟩)
  dsimp only [Pt.U, Pt.locs, Pt.cells, Pt.slots] at X2 l2 y2 z2 st2 hQ2
  subst l2 y2 z2
  obtain ⟨rfl, N2, e2⟩ := hQ2
  refine own_by (B := T2.setTop (mkF m 8 #[.val (.ref uo)] [(.ref (own_rnn uo)), (.ref b1), (.ref b1)])) st2 ?_
  have M2 := Fr.app N0 N2
  rw [show own_rnn uo = uo from rfl]
  obtain ⟨_, _, ⟨T3, L3, k3, n3⟩, -, X3, ⟨Lc3, hQ3, l3, y3, z3⟩, st3⟩ := X2.specialBack hx (y := (⟨"java/util/Optional", "<init>", "(Ljava/lang/Object;)V"⟩ : MethodName)) rfl hown (mvT hZ (hw _ (List.mem_of_getElem? (i := 43) rfl))) (mvT hZ (hw _ (List.mem_of_getElem? (i := 44) rfl))) (mvT hZ (hw _ (List.mem_of_getElem? (i := 46) rfl))) (by decide) (backOf (W := 1) (rmOI l Z a0 hw [] b1 uo h1 n0 (own_old_le O1) O1 A1 F1_value gn1) hZ (hw _ (List.mem_of_getElem? (i := 46) rfl)) (hw _ (List.mem_of_getElem? (i := 35) rfl)) (by decide) (by decide)) (g := (mkF m 8 #[.val (.ref uo)] [(.ref uo), (.ref b1), (.ref b1)])) rfl (by rw [hml]; rfl) (Steps.refl _) (a := b1) (argsL := [(.ref uo)]) (rest := [(.ref b1)]) (lenOf pd_5__Ljava_lang_Object__V rfl) rfl (by show 2 * 0 + _ ≤ _; exact Nat.le_of_eq rfl) (hb hby d5_8) (fun _ _ => ⟨rfl, e2, (by decide : 1 + 0 ≤ _), (by decide : 1 + 0 ≤ _)⟩)
  dsimp only [Pt.U, Pt.locs, Pt.cells, Pt.slots] at X3 l3 y3 z3 st3 hQ3
  subst l3 y3 z3
  obtain ⟨rfl, NC3, KC3, EC3, FC3_0⟩ := hQ3
  refine own_by (B := T3.setTop (mkF m 11 #[.val (.ref uo)] [(.ref b1)])) (fun _ k => st3.trans k) ?_
  obtain ⟨h3, e3⟩ : ∃ z, T3.heap = z := ⟨_, rfl⟩
  rw [e3] at KC3 EC3 FC3_0
  have sz3 := KC3.1
  have O3 := O1.keep KC3 (allS gn1 all0)
  have K3 := K1.trans KC3 (allS (Or.inr fz1) all0)
  have N3 := Fr.app M2 NC3
  exact own_retA X3 hx hrt rfl rfl hlk (hb hby d5_11) (by decide) (by decide) (by show own_QOf Z uo h0 n0 _ T3.heap _; rw [e3]; exact ⟨_, rfl, N3, K3, fz1, EC3, FC3_0⟩)

def own_QDec (Z : State) (uk : Addr) (up us : Int32) (h0 : Heap) (n0 : Nat) (v : Option Value) (h : Heap) (L : List Loc) : Prop := ∃ b : Addr, v = some (.ref b) ∧ Fr n0 L ∧ Keep h0 h [] ∧ h0.size ≤ b ∧ Exa Z h b "com/example/planwright/planwright/query/NumericType" ∧ Fld Z h b "com/example/planwright/planwright/query/NumericType" "kind" "Lcom/example/planwright/planwright/query/NumericKind;" (.ref uk) ∧ Fld Z h b "com/example/planwright/planwright/query/NumericType" "precision" "I" (.int up) ∧ Fld Z h b "com/example/planwright/planwright/query/NumericType" "scale" "I" (.int us)

theorem d15_0 : decode prog_46_method_12_code 0 = .ok (.iload_n 0, 1) := by decide +kernel
theorem d15_1 : decode prog_46_method_12_code 1 = .ok (.ldc 96, 2) := by decide +kernel
theorem d15_3 : decode prog_46_method_12_code 3 = .ok (.if_icmp .le 12, 3) := by decide +kernel
theorem d15_15 : decode prog_46_method_12_code 15 = .ok (.new 8, 3) := by decide +kernel
theorem d15_18 : decode prog_46_method_12_code 18 = .ok (.dup, 1) := by decide +kernel
theorem d15_19 : decode prog_46_method_12_code 19 = .ok (.getstatic 202, 3) := by decide +kernel
theorem d15_22 : decode prog_46_method_12_code 22 = .ok (.iload_n 0, 1) := by decide +kernel
theorem d15_23 : decode prog_46_method_12_code 23 = .ok (.iload_n 1, 1) := by decide +kernel
theorem d15_24 : decode prog_46_method_12_code 24 = .ok (.invokespecial 90, 3) := by decide +kernel
theorem d15_27 : decode prog_46_method_12_code 27 = .ok (.areturn, 1) := by decide +kernel
theorem pd_15__Lcom_example_planwright_planwright_query_NumericKind_II_V : parseMethodDescriptor "(Lcom/example/planwright/planwright/query/NumericKind;II)V" = some ⟨[(.object "com/example/planwright/planwright/query/NumericKind"), .int, .int], none⟩ := by decide +kernel
theorem pn_rmDe : plainFor (⟨"com/example/planwright/planwright/query/NumericType", "decimal", "(II)Lcom/example/planwright/planwright/query/NumericType;"⟩ : MethodName) = true := by first | exact plainFor_of_name (by first | (simp [plainName, overriddenIn]; done) | decide +kernel) | exact Jvm.Free.JP.mathPlain rfl (by decide +kernel) | decide +kernel
theorem ef_rmDe (m : MethodId) (x0 : Int32) (x1 : Int32) : entryFrame m #[(.int x0), (.int x1)] 2 = mkF m 0 #[.val (.int x0), .val (.int x1)] [] := by first | (simp [entryFrame, mkF, argsToLocals, Value.category]; done) | rfl
set_option maxRecDepth 65536 in
set_option maxHeartbeats 40000000 in
theorem rmDe (l : Launch) (Z : State) (a0 : Array Value) (hw : ∀ d ∈ tables_1, d.before a0 Z = true) (ws : List Jvm.Cond) (a_INTEGER a_BIGINT a_DECIMAL a_OTHER a_APPROXIMATE a_EMPTY : Addr) (up us : Int32) (h0 : Heap) (n0 : Nat) (Z0 : n0 ≤ h0.size) (O0 : Old Z n0 h0) (HW : own_W Z Z.heap a_INTEGER a_BIGINT a_DECIMAL a_OTHER a_APPROXIMATE a_EMPTY) (hle : ¬ (100000 : Int32) < up) :
    MetFree l (⟨"com/example/planwright/planwright/query/NumericType", "decimal", "(II)Lcom/example/planwright/planwright/query/NumericType;"⟩ : MethodName) (head1 (Jvm.Cond.code (⟨"com/example/planwright/planwright/query/NumericType", "decimal", "(II)Lcom/example/planwright/planwright/query/NumericType;"⟩ : MethodName) prog_46_method_12_code 2 (some (.object "com/example/planwright/planwright/query/NumericType")) :: ws) ({ frames := 3, cells := 1, slots := 3, locals := 40 } : Room)) (fun a U => a = #[(.int up), (.int us)] ∧ Z.Warmed39 U.vm ∧ U.heap = h0) (fun _ _ _ _ _ => True) (fun _ U o U' => ∃ v L, o = .returned v ∧ (own_QDec Z a_DECIMAL up us h0 n0) v U'.heap L ∧ FrameEnd U o U' L 1 3) := by
  refine MetFree.of_bodySF pn_rmDe hisR ?_
  intro p e s m args below meth c s₁ Bd hml0 hP hK
  obtain ⟨rfl, hZ, hh⟩ := hP
  have hx := Bd.exec
  have hby := Bd.bytes
  have hml : c.maxLocals = 2 := hml0
  have hown : s.vm.findClass "com/example/planwright/planwright/query/NumericType" = some m.cls := findClass_of_methodNamed Bd.named
  have hnm := (name_of_methodNamed Bd.named Bd.method).1
  have hrt := Bd.returns
  have hlk := Bd.notSynchronized
  have X0 : Stand p l e ({ frames := 3, cells := 1, slots := 3, locals := 40 } : Room) s m #[(.int up), (.int us)] below meth c s₁ [] 0 0 := Stand.of_body Bd
  have e0 : s₁.heap = h0 := by rw [← hh, Bd.state]; rfl
  have N0 := Fr.nil n0
  have K0 := Keep.refl h0 []
  have HW' := HW
  obtain ⟨S_INTEGER, E_INTEGER, S_BIGINT, E_BIGINT, S_DECIMAL, E_DECIMAL, S_OTHER, E_OTHER, S_APPROXIMATE, E_APPROXIMATE, F_BIGINT_precision, F_BIGINT_scale, F_DECIMAL_ordinal, F_INTEGER_ordinal, F_BIGINT_kind, S_EMPTY, E_EMPTY, F_EMPTY_value⟩ := HW'
  refine own_done (B := s₁.setTop (mkF m 0 #[.val (.int up), .val (.int us)] [])) (fun t k => castTop (ef_rmDe m up us) k) ?_
  refine own_by (B := s₁.setTop (mkF m 1 #[.val (.int up), .val (.int us)] [(.int up)])) (fun _ k => XS.iloadN X0.here hx rfl (hb hby d15_0) rfl  k) ?_
  refine own_by (B := s₁.setTop (mkF m 3 #[.val (.int up), .val (.int us)] [(.int (100000 : Int32)), (.int up)])) (fun _ k => X0.ldcI (g := (mkF m 1 #[.val (.int up), .val (.int us)] [(.int up)])) hx hown (mvT hZ (hw _ (List.mem_of_getElem? (i := 82) rfl))) rfl (hb hby d15_1) k) ?_
  refine own_by (B := s₁.setTop (mkF m 15 #[.val (.int up), .val (.int us)] [])) (fun _ k => XS.icmpYes X0.here hx rfl (pc0 := 3) (pc' := 15) rfl (hb hby d15_3) rfl (XT.ii_le_t hle) (by decide) (by decide) k) ?_
  obtain ⟨T1, h1, X1, e1, E1, A1, D1, -, st1⟩ := newO X0 hx hZ hown (hw _ (List.mem_of_getElem? (i := 90) rfl)) (hw _ (List.mem_of_getElem? (i := 6) rfl)) (hw _ (List.mem_of_getElem? (i := 7) rfl)) e0 (g := (mkF m 15 #[.val (.int up), .val (.int us)] [])) rfl (hb hby d15_15) (by decide) (by decide)
  obtain ⟨b1, g1⟩ : ∃ z, z = h0.size := ⟨_, rfl⟩
  rw [← g1] at A1 D1 st1
  have sz1 := E1.1
  have gn1 : n0 ≤ b1 := g1 ▸ own_old_le O0
  have fz1 : h0.size ≤ b1 := g1 ▸ K0.1
  have lt1 := A1.lt
  have O1 := O0.ext E1
  have K1 := K0.ext E1
  have F1_kind : Fld Z h1 b1 "com/example/planwright/planwright/query/NumericType" "kind" "Lcom/example/planwright/planwright/query/NumericKind;" .null := D1 (Or.inr (hw _ (List.mem_of_getElem? (i := 20) rfl))) (ty := (.object "com/example/planwright/planwright/query/NumericKind")) (by decide)
  have F1_precision : Fld Z h1 b1 "com/example/planwright/planwright/query/NumericType" "precision" "I" (.int (0 : Int32)) := D1 (Or.inr (hw _ (List.mem_of_getElem? (i := 22) rfl))) (ty := .int) (by decide)
  have F1_scale : Fld Z h1 b1 "com/example/planwright/planwright/query/NumericType" "scale" "I" (.int (0 : Int32)) := D1 (Or.inr (hw _ (List.mem_of_getElem? (i := 24) rfl))) (ty := .int) (by decide)
  refine own_by (B := T1.setTop (mkF m 18 #[.val (.int up), .val (.int us)] [(.ref b1)])) st1 ?_
  refine own_by (B := T1.setTop (mkF m 19 #[.val (.int up), .val (.int us)] [(.ref b1), (.ref b1)])) (fun _ k => XS.dup X1.here hx rfl (hb hby d15_18) rfl rfl k) ?_
  obtain ⟨T2, X2, e2, st2⟩ := getS2 X1 hx hZ hown (host := "") (Or.inl (hw _ (List.mem_of_getElem? (i := 91) rfl))) Via.refl e1 (S_DECIMAL.ext O1.2) (g := (mkF m 19 #[.val (.int up), .val (.int us)] [(.ref b1), (.ref b1)])) rfl (hb hby d15_19)
  refine own_by (B := T2.setTop (mkF m 22 #[.val (.int up), .val (.int us)] [(.ref a_DECIMAL), (.ref b1), (.ref b1)])) st2 ?_
  refine own_by (B := T2.setTop (mkF m 23 #[.val (.int up), .val (.int us)] [(.int up), (.ref a_DECIMAL), (.ref b1), (.ref b1)])) (fun _ k => XS.iloadN X2.here hx rfl (hb hby d15_22) rfl  k) ?_
  refine own_by (B := T2.setTop (mkF m 24 #[.val (.int up), .val (.int us)] [(.int us), (.int up), (.ref a_DECIMAL), (.ref b1), (.ref b1)])) (fun _ k => XS.iloadN X2.here hx rfl (hb hby d15_23) rfl  k) ?_
  obtain ⟨_, _, ⟨T3, L3, k3, n3⟩, -, X3, ⟨Lc3, hQ3, l3, y3, z3⟩, st3⟩ := X2.specialBack hx (y := (⟨"com/example/planwright/planwright/query/NumericType", "<init>", "(Lcom/example/planwright/planwright/query/NumericKind;II)V"⟩ : MethodName)) rfl hown (mvT hZ (hw _ (List.mem_of_getElem? (i := 92) rfl))) (mvT hZ (hw _ (List.mem_of_getElem? (i := 9) rfl))) (mvT hZ (hw _ (List.mem_of_getElem? (i := 10) rfl))) (by decide) (backOf (W := 1) (rmNT l Z a0 hw [] b1 a_DECIMAL up us h1 n0 (own_old_le O1) O1 A1 F1_kind F1_precision F1_scale gn1) hZ (hw _ (List.mem_of_getElem? (i := 10) rfl)) (hw _ (List.mem_of_getElem? (i := 7) rfl)) (by decide) (by decide)) (g := (mkF m 24 #[.val (.int up), .val (.int us)] [(.int us), (.int up), (.ref a_DECIMAL), (.ref b1), (.ref b1)])) rfl (by rw [hml]; rfl) (Steps.refl _) (a := b1) (argsL := [(.ref a_DECIMAL), (.int up), (.int us)]) (rest := [(.ref b1)]) (lenOf pd_15__Lcom_example_planwright_planwright_query_NumericKind_II_V rfl) rfl (by show 2 * 0 + _ ≤ _; exact Nat.le_of_eq rfl) (hb hby d15_24) (fun _ _ => ⟨rfl, e2, (by decide : 1 + 0 ≤ _), (by decide : 3 + 0 ≤ _)⟩)
  dsimp only [Pt.U, Pt.locs, Pt.cells, Pt.slots] at X3 l3 y3 z3 st3 hQ3
  subst l3 y3 z3
  obtain ⟨rfl, NC3, KC3, EC3, FC3_0, FC3_1, FC3_2⟩ := hQ3
  refine own_by (B := T3.setTop (mkF m 27 #[.val (.int up), .val (.int us)] [(.ref b1)])) (fun _ k => st3.trans k) ?_
  obtain ⟨h3, e3⟩ : ∃ z, T3.heap = z := ⟨_, rfl⟩
  rw [e3] at KC3 EC3 FC3_0 FC3_1 FC3_2
  have sz3 := KC3.1
  have O3 := O1.keep KC3 (allS gn1 all0)
  have K3 := K1.trans KC3 (allS (Or.inr fz1) all0)
  have N3 := Fr.app N0 NC3
  exact own_retA X3 hx hrt rfl rfl hlk (hb hby d15_27) (by decide) (by decide) (by show own_QDec Z a_DECIMAL up us h0 n0 _ T3.heap _; rw [e3]; exact ⟨_, rfl, N3, K3, fz1, EC3, FC3_0, FC3_1, FC3_2⟩)

theorem own_min_le (x : Int32) : ¬ (100000 : Int32) < own_min x (100000 : Int32) := by
  unfold own_min; split
  · decide
  · assumption

def own_QSC (Z : State) (uk : Addr) (up us : Int32) (h0 : Heap) (n0 : Nat) (v : Option Value) (h : Heap) (L : List Loc) : Prop := ∃ b d : Addr, v = some (.ref b) ∧ Fr n0 L ∧ Keep h0 h [] ∧ h0.size ≤ b ∧ Exa Z h b "java/util/Optional" ∧ Fld Z h b "java/util/Optional" "value" "Ljava/lang/Object;" (.ref d) ∧ h0.size ≤ d ∧ Exa Z h d "com/example/planwright/planwright/query/NumericType" ∧ Fld Z h d "com/example/planwright/planwright/query/NumericType" "kind" "Lcom/example/planwright/planwright/query/NumericKind;" (.ref uk) ∧ Fld Z h d "com/example/planwright/planwright/query/NumericType" "precision" "I" (.int up) ∧ Fld Z h d "com/example/planwright/planwright/query/NumericType" "scale" "I" (.int us)

theorem d4_0 : decode prog_46_method_4_code 0 = .ok (.aload_n 0, 1) := by decide +kernel

theorem d4_1 : decode prog_46_method_4_code 1 = .ok (.getfield 13, 3) := by decide +kernel

theorem d4_4 : decode prog_46_method_4_code 4 = .ok (.ifCond .ne 7, 3) := by decide +kernel

theorem d4_7 : decode prog_46_method_4_code 7 = .ok (.invokestatic 193, 3) := by decide +kernel

theorem d4_10 : decode prog_46_method_4_code 10 = .ok (.areturn, 1) := by decide +kernel

theorem pd_4___Ljava_util_Optional_ : parseMethodDescriptor "()Ljava/util/Optional;" = some ⟨[], some (.object "java/util/Optional")⟩ := by decide +kernel
theorem pn_rmSumA : plainFor (⟨"com/example/planwright/planwright/query/NumericType", "sum", "()Ljava/util/Optional;"⟩ : MethodName) = true := by first | exact plainFor_of_name (by first | (simp [plainName, overriddenIn]; done) | decide +kernel) | exact Jvm.Free.JP.mathPlain rfl (by decide +kernel) | decide +kernel
theorem ef_rmSumA (m : MethodId) (x0 : Addr) : entryFrame m #[(.ref x0)] 1 = mkF m 0 #[.val (.ref x0)] [] := by first | (simp [entryFrame, mkF, argsToLocals, Value.category]; done) | rfl
set_option maxRecDepth 65536 in
set_option maxHeartbeats 40000000 in
theorem rmSumA (l : Launch) (Z : State) (a0 : Array Value) (hw : ∀ d ∈ tables_1, d.before a0 Z = true) (ws : List Jvm.Cond) (a_INTEGER a_BIGINT a_DECIMAL a_OTHER a_APPROXIMATE a_EMPTY : Addr) (ua uk : Addr) (up us : Int32) (h0 : Heap) (n0 : Nat) (Z0 : n0 ≤ h0.size) (O0 : Old Z n0 h0) (HW : own_W Z Z.heap a_INTEGER a_BIGINT a_DECIMAL a_OTHER a_APPROXIMATE a_EMPTY) (E_ua : Exa Z h0 ua "com/example/planwright/planwright/query/NumericType") (F_kind : Fld Z h0 ua "com/example/planwright/planwright/query/NumericType" "kind" "Lcom/example/planwright/planwright/query/NumericKind;" (.ref uk)) (F_precision : Fld Z h0 ua "com/example/planwright/planwright/query/NumericType" "precision" "I" (.int up)) (F_scale : Fld Z h0 ua "com/example/planwright/planwright/query/NumericType" "scale" "I" (.int us)) (hp0 : up = (0 : Int32)) :
    MetFree l (⟨"com/example/planwright/planwright/query/NumericType", "sum", "()Ljava/util/Optional;"⟩ : MethodName) (head1 (Jvm.Cond.code (⟨"com/example/planwright/planwright/query/NumericType", "sum", "()Ljava/util/Optional;"⟩ : MethodName) prog_46_method_4_code 1 (some (.object "java/util/Optional")) :: ws) ({ frames := 1, cells := 0, slots := 0, locals := 12 } : Room)) (fun a U => a = #[(.ref ua)] ∧ Z.Warmed39 U.vm ∧ U.heap = h0) (fun _ _ _ _ _ => True) (fun _ U o U' => ∃ v L, o = .returned v ∧ (own_P (.ref a_EMPTY) h0 n0) v U'.heap L ∧ FrameEnd U o U' L 0 0) := by
  refine MetFree.of_bodySF pn_rmSumA hisR ?_
  intro p e s m args below meth c s₁ Bd hml0 hP hK
  obtain ⟨rfl, hZ, hh⟩ := hP
  have hx := Bd.exec
  have hby := Bd.bytes
  have hml : c.maxLocals = 1 := hml0
  have hown : s.vm.findClass "com/example/planwright/planwright/query/NumericType" = some m.cls := findClass_of_methodNamed Bd.named
  have hnm := (name_of_methodNamed Bd.named Bd.method).1
  have hrt := Bd.returns
  have hlk := Bd.notSynchronized
  have X0 : Stand p l e ({ frames := 1, cells := 0, slots := 0, locals := 12 } : Room) s m #[(.ref ua)] below meth c s₁ [] 0 0 := Stand.of_body Bd
  have e0 : s₁.heap = h0 := by rw [← hh, Bd.state]; rfl
  have N0 := Fr.nil n0
  have K0 := Keep.refl h0 []
  have lt_ua := E_ua.lt
  have HW' := HW
  obtain ⟨S_INTEGER, E_INTEGER, S_BIGINT, E_BIGINT, S_DECIMAL, E_DECIMAL, S_OTHER, E_OTHER, S_APPROXIMATE, E_APPROXIMATE, F_BIGINT_precision, F_BIGINT_scale, F_DECIMAL_ordinal, F_INTEGER_ordinal, F_BIGINT_kind, S_EMPTY, E_EMPTY, F_EMPTY_value⟩ := HW'
  refine own_done (B := s₁.setTop (mkF m 0 #[.val (.ref ua)] [])) (fun t k => castTop (ef_rmSumA m ua) k) ?_
  refine own_by (B := s₁.setTop (mkF m 1 #[.val (.ref ua)] [(.ref ua)])) (fun _ k => XS.aloadN X0.here hx rfl (hb hby d4_0) rfl rfl  k) ?_
  obtain ⟨T3, X3, e3, st3⟩ := getF X0 hx hZ hown (host := "") (Or.inl (hw _ (List.mem_of_getElem? (i := 21) rfl))) Via.refl e0 F_precision (g := (mkF m 1 #[.val (.ref ua)] [(.ref ua)])) rfl rfl (hb hby d4_1)
  refine own_by (B := T3.setTop (mkF m 4 #[.val (.ref ua)] [(.int up)])) st3 ?_
  refine own_by (B := T3.setTop (mkF m 7 #[.val (.ref ua)] [])) (fun _ k => XS.ifNo X3.here hx rfl (hb hby d4_4) rfl (XT.i0_ne_f hp0) k) ?_
  obtain ⟨_, _, ⟨T4, L4, k4, n4⟩, -, X4, ⟨Lc4, hQ4, l4, y4, z4⟩, st4⟩ := Jvm.LawKit.callS X3 hx (y := (⟨"java/util/Optional", "empty", "()Ljava/util/Optional;"⟩ : MethodName)) hown (mvT hZ (hw _ (List.mem_of_getElem? (i := 96) rfl))) (mvT hZ (hw _ (List.mem_of_getElem? (i := 97) rfl))) (mvT hZ (hw _ (List.mem_of_getElem? (i := 35) rfl))) (mvT hZ (hw _ (List.mem_of_getElem? (i := 98) rfl))) (by decide) (backOf (W := 0) (rmEm l Z a0 hw [] a_INTEGER a_BIGINT a_DECIMAL a_OTHER a_APPROXIMATE a_EMPTY h0 n0 (own_old_le O0) O0 HW) hZ (hw _ (List.mem_of_getElem? (i := 98) rfl)) (hw _ (List.mem_of_getElem? (i := 35) rfl)) (by decide) (by decide)) (g := (mkF m 7 #[.val (.ref ua)] [])) rfl (by rw [hml]; rfl) (argsL := []) (rest := []) (lenOf pd_4___Ljava_util_Optional_ rfl) rfl (by show 2 * 0 + _ ≤ _; exact Nat.le_of_eq rfl) (hb hby d4_7) (fun _ _ => ⟨rfl, e3, (by decide : 0 + 0 ≤ _), (by decide : 0 + 0 ≤ _)⟩)
  dsimp only [Pt.U, Pt.locs, Pt.cells, Pt.slots] at X4 l4 y4 z4 st4 hQ4
  subst l4 y4 z4
  obtain ⟨rfl, N4, e4⟩ := hQ4
  refine own_by (B := T4.setTop (mkF m 10 #[.val (.ref ua)] [(.ref (own_em a_EMPTY))])) st4 ?_
  have M4 := Fr.app N0 N4
  rw [show own_em a_EMPTY = a_EMPTY from rfl]
  exact own_retA X4 hx hrt rfl rfl hlk (hb hby d4_10) (by decide) (by decide) ⟨rfl, M4, e4⟩

theorem d4_11 : decode prog_46_method_4_code 11 = .ok (.aload_n 0, 1) := by decide +kernel

theorem d4_12 : decode prog_46_method_4_code 12 = .ok (.getfield 7, 3) := by decide +kernel

theorem d4_15 : decode prog_46_method_4_code 15 = .ok (.getstatic 86, 3) := by decide +kernel

theorem d4_18 : decode prog_46_method_4_code 18 = .ok (.if_acmp .ne 23, 3) := by decide +kernel

theorem d4_21 : decode prog_46_method_4_code 21 = .ok (.aload_n 0, 1) := by decide +kernel

theorem d4_22 : decode prog_46_method_4_code 22 = .ok (.getfield 13, 3) := by decide +kernel

theorem d4_25 : decode prog_46_method_4_code 25 = .ok (.getstatic 93, 3) := by decide +kernel

theorem d4_28 : decode prog_46_method_4_code 28 = .ok (.getfield 13, 3) := by decide +kernel

theorem d4_31 : decode prog_46_method_4_code 31 = .ok (.if_icmp .ge 10, 3) := by decide +kernel

theorem d4_34 : decode prog_46_method_4_code 34 = .ok (.getstatic 93, 3) := by decide +kernel

theorem d4_37 : decode prog_46_method_4_code 37 = .ok (.invokestatic 196, 3) := by decide +kernel

theorem d4_40 : decode prog_46_method_4_code 40 = .ok (.areturn, 1) := by decide +kernel

theorem pd_4__Ljava_lang_Object__Ljava_util_Optional_ : parseMethodDescriptor "(Ljava/lang/Object;)Ljava/util/Optional;" = some ⟨[(.object "java/lang/Object")], some (.object "java/util/Optional")⟩ := by decide +kernel
theorem pn_rmSumB : plainFor (⟨"com/example/planwright/planwright/query/NumericType", "sum", "()Ljava/util/Optional;"⟩ : MethodName) = true := by first | exact plainFor_of_name (by first | (simp [plainName, overriddenIn]; done) | decide +kernel) | exact Jvm.Free.JP.mathPlain rfl (by decide +kernel) | decide +kernel
theorem ef_rmSumB (m : MethodId) (x0 : Addr) : entryFrame m #[(.ref x0)] 1 = mkF m 0 #[.val (.ref x0)] [] := by first | (simp [entryFrame, mkF, argsToLocals, Value.category]; done) | rfl
set_option maxRecDepth 65536 in
set_option maxHeartbeats 40000000 in
theorem rmSumB (l : Launch) (Z : State) (a0 : Array Value) (hw : ∀ d ∈ tables_1, d.before a0 Z = true) (ws : List Jvm.Cond) (a_INTEGER a_BIGINT a_DECIMAL a_OTHER a_APPROXIMATE a_EMPTY : Addr) (ua uk : Addr) (up us : Int32) (h0 : Heap) (n0 : Nat) (Z0 : n0 ≤ h0.size) (O0 : Old Z n0 h0) (HW : own_W Z Z.heap a_INTEGER a_BIGINT a_DECIMAL a_OTHER a_APPROXIMATE a_EMPTY) (E_ua : Exa Z h0 ua "com/example/planwright/planwright/query/NumericType") (F_kind : Fld Z h0 ua "com/example/planwright/planwright/query/NumericType" "kind" "Lcom/example/planwright/planwright/query/NumericKind;" (.ref uk)) (F_precision : Fld Z h0 ua "com/example/planwright/planwright/query/NumericType" "precision" "I" (.int up)) (F_scale : Fld Z h0 ua "com/example/planwright/planwright/query/NumericType" "scale" "I" (.int us)) (hp0 : ¬ up = (0 : Int32)) (hk : uk = a_INTEGER) (hlt : up < (19 : Int32)) :
    MetFree l (⟨"com/example/planwright/planwright/query/NumericType", "sum", "()Ljava/util/Optional;"⟩ : MethodName) (head1 (Jvm.Cond.code (⟨"com/example/planwright/planwright/query/NumericType", "sum", "()Ljava/util/Optional;"⟩ : MethodName) prog_46_method_4_code 1 (some (.object "java/util/Optional")) :: ws) ({ frames := 3, cells := 1, slots := 1, locals := 38 } : Room)) (fun a U => a = #[(.ref ua)] ∧ Z.Warmed39 U.vm ∧ U.heap = h0) (fun _ _ _ _ _ => True) (fun _ U o U' => ∃ v L, o = .returned v ∧ (own_QOf Z a_BIGINT h0 n0) v U'.heap L ∧ FrameEnd U o U' L 1 1) := by
  refine MetFree.of_bodySF pn_rmSumB hisR ?_
  intro p e s m args below meth c s₁ Bd hml0 hP hK
  obtain ⟨rfl, hZ, hh⟩ := hP
  have hx := Bd.exec
  have hby := Bd.bytes
  have hml : c.maxLocals = 1 := hml0
  have hown : s.vm.findClass "com/example/planwright/planwright/query/NumericType" = some m.cls := findClass_of_methodNamed Bd.named
  have hnm := (name_of_methodNamed Bd.named Bd.method).1
  have hrt := Bd.returns
  have hlk := Bd.notSynchronized
  have X0 : Stand p l e ({ frames := 3, cells := 1, slots := 1, locals := 38 } : Room) s m #[(.ref ua)] below meth c s₁ [] 0 0 := Stand.of_body Bd
  have e0 : s₁.heap = h0 := by rw [← hh, Bd.state]; rfl
  have N0 := Fr.nil n0
  have K0 := Keep.refl h0 []
  have lt_ua := E_ua.lt
  have HW' := HW
  obtain ⟨S_INTEGER, E_INTEGER, S_BIGINT, E_BIGINT, S_DECIMAL, E_DECIMAL, S_OTHER, E_OTHER, S_APPROXIMATE, E_APPROXIMATE, F_BIGINT_precision, F_BIGINT_scale, F_DECIMAL_ordinal, F_INTEGER_ordinal, F_BIGINT_kind, S_EMPTY, E_EMPTY, F_EMPTY_value⟩ := HW'
  refine own_done (B := s₁.setTop (mkF m 0 #[.val (.ref ua)] [])) (fun t k => castTop (ef_rmSumB m ua) k) ?_
  refine own_by (B := s₁.setTop (mkF m 1 #[.val (.ref ua)] [(.ref ua)])) (fun _ k => XS.aloadN X0.here hx rfl (hb hby d4_0) rfl rfl  k) ?_
  obtain ⟨T9, X9, e9, st9⟩ := getF X0 hx hZ hown (host := "") (Or.inl (hw _ (List.mem_of_getElem? (i := 21) rfl))) Via.refl e0 F_precision (g := (mkF m 1 #[.val (.ref ua)] [(.ref ua)])) rfl rfl (hb hby d4_1)
  refine own_by (B := T9.setTop (mkF m 4 #[.val (.ref ua)] [(.int up)])) st9 ?_
  refine own_by (B := T9.setTop (mkF m 11 #[.val (.ref ua)] [])) (fun _ k => XS.ifYes X9.here hx rfl (pc0 := 4) (pc' := 11) rfl (hb hby d4_4) rfl (XT.i0_ne_t hp0) (by decide) (by decide) k) ?_
  refine own_by (B := T9.setTop (mkF m 12 #[.val (.ref ua)] [(.ref ua)])) (fun _ k => XS.aloadN X9.here hx rfl (hb hby d4_11) rfl rfl  k) ?_
  obtain ⟨T10, X10, e10, st10⟩ := getF X9 hx hZ hown (host := "") (Or.inl (hw _ (List.mem_of_getElem? (i := 19) rfl))) Via.refl e9 F_kind (g := (mkF m 12 #[.val (.ref ua)] [(.ref ua)])) rfl rfl (hb hby d4_12)
  refine own_by (B := T10.setTop (mkF m 15 #[.val (.ref ua)] [(.ref uk)])) st10 ?_
  obtain ⟨T11, X11, e11, st11⟩ := getS2 X10 hx hZ hown (host := "") (Or.inl (hw _ (List.mem_of_getElem? (i := 30) rfl))) Via.refl e10 (S_INTEGER.ext O0.2) (g := (mkF m 15 #[.val (.ref ua)] [(.ref uk)])) rfl (hb hby d4_15)
  refine own_by (B := T11.setTop (mkF m 18 #[.val (.ref ua)] [(.ref a_INTEGER), (.ref uk)])) st11 ?_
  refine own_by (B := T11.setTop (mkF m 21 #[.val (.ref ua)] [])) (fun _ k => XT.acmpNo X11.here hx rfl (hb hby d4_18) rfl rfl rfl (XT.aa_ne_f (congrArg Value.ref hk)) k) ?_
  refine own_by (B := T11.setTop (mkF m 22 #[.val (.ref ua)] [(.ref ua)])) (fun _ k => XS.aloadN X11.here hx rfl (hb hby d4_21) rfl rfl  k) ?_
  obtain ⟨T12, X12, e12, st12⟩ := getF X11 hx hZ hown (host := "") (Or.inl (hw _ (List.mem_of_getElem? (i := 21) rfl))) Via.refl e11 F_precision (g := (mkF m 22 #[.val (.ref ua)] [(.ref ua)])) rfl rfl (hb hby d4_22)
  refine own_by (B := T12.setTop (mkF m 25 #[.val (.ref ua)] [(.int up)])) st12 ?_
  obtain ⟨T13, X13, e13, st13⟩ := getS2 X12 hx hZ hown (host := "") (Or.inl (hw _ (List.mem_of_getElem? (i := 31) rfl))) Via.refl e12 (S_BIGINT.ext O0.2) (g := (mkF m 25 #[.val (.ref ua)] [(.int up)])) rfl (hb hby d4_25)
  refine own_by (B := T13.setTop (mkF m 28 #[.val (.ref ua)] [(.ref a_BIGINT), (.int up)])) st13 ?_
  obtain ⟨T14, X14, e14, st14⟩ := getF X13 hx hZ hown (host := "") (Or.inl (hw _ (List.mem_of_getElem? (i := 21) rfl))) Via.refl e13 (F_BIGINT_precision.ext O0.2) (g := (mkF m 28 #[.val (.ref ua)] [(.ref a_BIGINT), (.int up)])) rfl rfl (hb hby d4_28)
  refine own_by (B := T14.setTop (mkF m 31 #[.val (.ref ua)] [(.int (19 : Int32)), (.int up)])) st14 ?_
  refine own_by (B := T14.setTop (mkF m 34 #[.val (.ref ua)] [])) (fun _ k => XS.icmpNo X14.here hx rfl (hb hby d4_31) rfl (XT.ii_ge_f hlt) k) ?_
  obtain ⟨T15, X15, e15, st15⟩ := getS2 X14 hx hZ hown (host := "") (Or.inl (hw _ (List.mem_of_getElem? (i := 31) rfl))) Via.refl e14 (S_BIGINT.ext O0.2) (g := (mkF m 34 #[.val (.ref ua)] [])) rfl (hb hby d4_34)
  refine own_by (B := T15.setTop (mkF m 37 #[.val (.ref ua)] [(.ref a_BIGINT)])) st15 ?_
  obtain ⟨_, _, ⟨T16, L16, k16, n16⟩, -, X16, ⟨Lc16, hQ16, l16, y16, z16⟩, st16⟩ := Jvm.LawKit.callS X15 hx (y := (⟨"java/util/Optional", "of", "(Ljava/lang/Object;)Ljava/util/Optional;"⟩ : MethodName)) hown (mvT hZ (hw _ (List.mem_of_getElem? (i := 33) rfl))) (mvT hZ (hw _ (List.mem_of_getElem? (i := 34) rfl))) (mvT hZ (hw _ (List.mem_of_getElem? (i := 35) rfl))) (mvT hZ (hw _ (List.mem_of_getElem? (i := 36) rfl))) (by decide) (backOf (W := 0) (rmOf l Z a0 hw [] a_BIGINT h0 n0 (own_old_le O0) O0) hZ (hw _ (List.mem_of_getElem? (i := 36) rfl)) (hw _ (List.mem_of_getElem? (i := 35) rfl)) (by decide) (by decide)) (g := (mkF m 37 #[.val (.ref ua)] [(.ref a_BIGINT)])) rfl (by rw [hml]; rfl) (argsL := [(.ref a_BIGINT)]) (rest := []) (lenOf pd_4__Ljava_lang_Object__Ljava_util_Optional_ rfl) rfl (by show 2 * 0 + _ ≤ _; exact Nat.le_of_eq rfl) (hb hby d4_37) (fun _ _ => ⟨rfl, e15, (by decide : 0 + 1 ≤ _), (by decide : 0 + 1 ≤ _)⟩)
  dsimp only [Pt.U, Pt.locs, Pt.cells, Pt.slots] at X16 l16 y16 z16 st16 hQ16
  subst l16 y16 z16
  obtain ⟨bo, rfl, NC16, KC16, hb16, EC16, FC16_0⟩ := hQ16
  refine own_by (B := T16.setTop (mkF m 40 #[.val (.ref ua)] [(.ref bo)])) st16 ?_
  have gnbo : n0 ≤ bo := Nat.le_trans (own_old_le O0) hb16
  have fzbo : h0.size ≤ bo := Nat.le_trans K0.1 hb16
  obtain ⟨h16, e16⟩ : ∃ z, T16.heap = z := ⟨_, rfl⟩
  rw [e16] at KC16 EC16 FC16_0
  have sz16 := KC16.1
  have O16 := O0.keep KC16 all0
  have K16 := K0.trans KC16 all0
  have N16 := Fr.app N0 NC16
  exact own_retA X16 hx hrt rfl rfl hlk (hb hby d4_40) (by decide) (by decide) (by show own_QOf Z a_BIGINT h0 n0 _ T16.heap _; rw [e16]; exact ⟨_, rfl, N16, K16, fzbo, EC16, FC16_0⟩)

theorem d4_41 : decode prog_46_method_4_code 41 = .ok (.aload_n 0, 1) := by decide +kernel

theorem d4_42 : decode prog_46_method_4_code 42 = .ok (.invokevirtual 199, 3) := by decide +kernel

theorem d4_45 : decode prog_46_method_4_code 45 = .ok (.aload_n 0, 1) := by decide +kernel

theorem d4_46 : decode prog_46_method_4_code 46 = .ok (.getfield 17, 3) := by decide +kernel

theorem d4_49 : decode prog_46_method_4_code 49 = .ok (.invokestatic 97, 3) := by decide +kernel

theorem d4_52 : decode prog_46_method_4_code 52 = .ok (.invokestatic 196, 3) := by decide +kernel

theorem d4_55 : decode prog_46_method_4_code 55 = .ok (.areturn, 1) := by decide +kernel

theorem pd_4___I : parseMethodDescriptor "()I" = some ⟨[], some .int⟩ := by decide +kernel
theorem pd_4__II_Lcom_example_planwright_planwright_query_NumericType_ : parseMethodDescriptor "(II)Lcom/example/planwright/planwright/query/NumericType;" = some ⟨[.int, .int], some (.object "com/example/planwright/planwright/query/NumericType")⟩ := by decide +kernel
theorem pn_rmSumC : plainFor (⟨"com/example/planwright/planwright/query/NumericType", "sum", "()Ljava/util/Optional;"⟩ : MethodName) = true := by first | exact plainFor_of_name (by first | (simp [plainName, overriddenIn]; done) | decide +kernel) | exact Jvm.Free.JP.mathPlain rfl (by decide +kernel) | decide +kernel
theorem ef_rmSumC (m : MethodId) (x0 : Addr) : entryFrame m #[(.ref x0)] 1 = mkF m 0 #[.val (.ref x0)] [] := by first | (simp [entryFrame, mkF, argsToLocals, Value.category]; done) | rfl
set_option maxRecDepth 65536 in
set_option maxHeartbeats 40000000 in
theorem rmSumC (l : Launch) (Z : State) (a0 : Array Value) (hw : ∀ d ∈ tables_1, d.before a0 Z = true) (ws : List Jvm.Cond) (a_INTEGER a_BIGINT a_DECIMAL a_OTHER a_APPROXIMATE a_EMPTY : Addr) (ua uk : Addr) (up us : Int32) (h0 : Heap) (n0 : Nat) (Z0 : n0 ≤ h0.size) (O0 : Old Z n0 h0) (HW : own_W Z Z.heap a_INTEGER a_BIGINT a_DECIMAL a_OTHER a_APPROXIMATE a_EMPTY) (E_ua : Exa Z h0 ua "com/example/planwright/planwright/query/NumericType") (F_kind : Fld Z h0 ua "com/example/planwright/planwright/query/NumericType" "kind" "Lcom/example/planwright/planwright/query/NumericKind;" (.ref uk)) (F_precision : Fld Z h0 ua "com/example/planwright/planwright/query/NumericType" "precision" "I" (.int up)) (F_scale : Fld Z h0 ua "com/example/planwright/planwright/query/NumericType" "scale" "I" (.int us)) (hp0 : ¬ up = (0 : Int32)) (hk : uk = a_INTEGER) (hlt : ¬ up < (19 : Int32)) :
    MetFree l (⟨"com/example/planwright/planwright/query/NumericType", "sum", "()Ljava/util/Optional;"⟩ : MethodName) (head1 (Jvm.Cond.code (⟨"com/example/planwright/planwright/query/NumericType", "sum", "()Ljava/util/Optional;"⟩ : MethodName) prog_46_method_4_code 1 (some (.object "java/util/Optional")) :: ws) ({ frames := 4, cells := 2, slots := 4, locals := 53 } : Room)) (fun a U => a = #[(.ref ua)] ∧ Z.Warmed39 U.vm ∧ U.heap = h0) (fun _ _ _ _ _ => True) (fun _ U o U' => ∃ v L, o = .returned v ∧ (own_QSC Z a_DECIMAL (own_min (up + (10 : Int32)) (100000 : Int32)) us h0 n0) v U'.heap L ∧ FrameEnd U o U' L 2 4) := by
  refine MetFree.of_bodySF pn_rmSumC hisR ?_
  intro p e s m args below meth c s₁ Bd hml0 hP hK
  obtain ⟨rfl, hZ, hh⟩ := hP
  have hx := Bd.exec
  have hby := Bd.bytes
  have hml : c.maxLocals = 1 := hml0
  have hown : s.vm.findClass "com/example/planwright/planwright/query/NumericType" = some m.cls := findClass_of_methodNamed Bd.named
  have hnm := (name_of_methodNamed Bd.named Bd.method).1
  have hrt := Bd.returns
  have hlk := Bd.notSynchronized
  have X0 : Stand p l e ({ frames := 4, cells := 2, slots := 4, locals := 53 } : Room) s m #[(.ref ua)] below meth c s₁ [] 0 0 := Stand.of_body Bd
  have e0 : s₁.heap = h0 := by rw [← hh, Bd.state]; rfl
  have N0 := Fr.nil n0
  have K0 := Keep.refl h0 []
  have lt_ua := E_ua.lt
  have HW' := HW
  obtain ⟨S_INTEGER, E_INTEGER, S_BIGINT, E_BIGINT, S_DECIMAL, E_DECIMAL, S_OTHER, E_OTHER, S_APPROXIMATE, E_APPROXIMATE, F_BIGINT_precision, F_BIGINT_scale, F_DECIMAL_ordinal, F_INTEGER_ordinal, F_BIGINT_kind, S_EMPTY, E_EMPTY, F_EMPTY_value⟩ := HW'
  refine own_done (B := s₁.setTop (mkF m 0 #[.val (.ref ua)] [])) (fun t k => castTop (ef_rmSumC m ua) k) ?_
  refine own_by (B := s₁.setTop (mkF m 1 #[.val (.ref ua)] [(.ref ua)])) (fun _ k => XS.aloadN X0.here hx rfl (hb hby d4_0) rfl rfl  k) ?_
  obtain ⟨T15, X15, e15, st15⟩ := getF X0 hx hZ hown (host := "") (Or.inl (hw _ (List.mem_of_getElem? (i := 21) rfl))) Via.refl e0 F_precision (g := (mkF m 1 #[.val (.ref ua)] [(.ref ua)])) rfl rfl (hb hby d4_1)
  refine own_by (B := T15.setTop (mkF m 4 #[.val (.ref ua)] [(.int up)])) st15 ?_
  refine own_by (B := T15.setTop (mkF m 11 #[.val (.ref ua)] [])) (fun _ k => XS.ifYes X15.here hx rfl (pc0 := 4) (pc' := 11) rfl (hb hby d4_4) rfl (XT.i0_ne_t hp0) (by decide) (by decide) k) ?_
  refine own_by (B := T15.setTop (mkF m 12 #[.val (.ref ua)] [(.ref ua)])) (fun _ k => XS.aloadN X15.here hx rfl (hb hby d4_11) rfl rfl  k) ?_
  obtain ⟨T16, X16, e16, st16⟩ := getF X15 hx hZ hown (host := "") (Or.inl (hw _ (List.mem_of_getElem? (i := 19) rfl))) Via.refl e15 F_kind (g := (mkF m 12 #[.val (.ref ua)] [(.ref ua)])) rfl rfl (hb hby d4_12)
  refine own_by (B := T16.setTop (mkF m 15 #[.val (.ref ua)] [(.ref uk)])) st16 ?_
  obtain ⟨T17, X17, e17, st17⟩ := getS2 X16 hx hZ hown (host := "") (Or.inl (hw _ (List.mem_of_getElem? (i := 30) rfl))) Via.refl e16 (S_INTEGER.ext O0.2) (g := (mkF m 15 #[.val (.ref ua)] [(.ref uk)])) rfl (hb hby d4_15)
  refine own_by (B := T17.setTop (mkF m 18 #[.val (.ref ua)] [(.ref a_INTEGER), (.ref uk)])) st17 ?_
  refine own_by (B := T17.setTop (mkF m 21 #[.val (.ref ua)] [])) (fun _ k => XT.acmpNo X17.here hx rfl (hb hby d4_18) rfl rfl rfl (XT.aa_ne_f (congrArg Value.ref hk)) k) ?_
  refine own_by (B := T17.setTop (mkF m 22 #[.val (.ref ua)] [(.ref ua)])) (fun _ k => XS.aloadN X17.here hx rfl (hb hby d4_21) rfl rfl  k) ?_
  obtain ⟨T18, X18, e18, st18⟩ := getF X17 hx hZ hown (host := "") (Or.inl (hw _ (List.mem_of_getElem? (i := 21) rfl))) Via.refl e17 F_precision (g := (mkF m 22 #[.val (.ref ua)] [(.ref ua)])) rfl rfl (hb hby d4_22)
  refine own_by (B := T18.setTop (mkF m 25 #[.val (.ref ua)] [(.int up)])) st18 ?_
  obtain ⟨T19, X19, e19, st19⟩ := getS2 X18 hx hZ hown (host := "") (Or.inl (hw _ (List.mem_of_getElem? (i := 31) rfl))) Via.refl e18 (S_BIGINT.ext O0.2) (g := (mkF m 25 #[.val (.ref ua)] [(.int up)])) rfl (hb hby d4_25)
  refine own_by (B := T19.setTop (mkF m 28 #[.val (.ref ua)] [(.ref a_BIGINT), (.int up)])) st19 ?_
  obtain ⟨T20, X20, e20, st20⟩ := getF X19 hx hZ hown (host := "") (Or.inl (hw _ (List.mem_of_getElem? (i := 21) rfl))) Via.refl e19 (F_BIGINT_precision.ext O0.2) (g := (mkF m 28 #[.val (.ref ua)] [(.ref a_BIGINT), (.int up)])) rfl rfl (hb hby d4_28)
  refine own_by (B := T20.setTop (mkF m 31 #[.val (.ref ua)] [(.int (19 : Int32)), (.int up)])) st20 ?_
  refine own_by (B := T20.setTop (mkF m 41 #[.val (.ref ua)] [])) (fun _ k => XS.icmpYes X20.here hx rfl (pc0 := 31) (pc' := 41) rfl (hb hby d4_31) rfl (XT.ii_ge_t hlt) (by decide) (by decide) k) ?_
  refine own_by (B := T20.setTop (mkF m 42 #[.val (.ref ua)] [(.ref ua)])) (fun _ k => XS.aloadN X20.here hx rfl (hb hby d4_41) rfl rfl  k) ?_
  obtain ⟨cq21, qa21, qc21⟩ := Exa.cell E_ua
  obtain ⟨_, _, ⟨T21, L21, k21, n21⟩, -, X21, ⟨Lc21, hQ21, l21, y21, z21⟩, st21⟩ := X20.privateBack hx (y := (⟨"com/example/planwright/planwright/query/NumericType", "widened", "()I"⟩ : MethodName)) hown (mvT hZ (hw _ (List.mem_of_getElem? (i := 78) rfl))) (mvT hZ (hw _ (List.mem_of_getElem? (i := 79) rfl))) (mvT hZ (own_selpriv (y := (⟨"com/example/planwright/planwright/query/NumericType", "widened", "()I"⟩ : MethodName)) (hw _ (List.mem_of_getElem? (i := 6) rfl)) (hw _ (List.mem_of_getElem? (i := 80) rfl)) (hw _ (List.mem_of_getElem? (i := 79) rfl)) (by decide))) (Cond.privateMethod_at (mvP hZ (hw _ (List.mem_of_getElem? (i := 80) rfl)) (args := #[]))) (mvT hZ (hw _ (List.mem_of_getElem? (i := 81) rfl))) (by decide) (backOf (W := 0) (rmWd l Z a0 hw [] ua up h0 n0 (own_old_le O0) F_precision) hZ (hw _ (List.mem_of_getElem? (i := 81) rfl)) (hw _ (List.mem_of_getElem? (i := 7) rfl)) (by decide) (by decide)) (g := (mkF m 42 #[.val (.ref ua)] [(.ref ua)])) rfl (by rw [hml]; rfl) (Steps.refl _) (a := ua) (by rw [e20]; exact qa21) qc21 (argsL := []) (rest := []) (lenOf pd_4___I rfl) rfl (by show 2 * 0 + _ ≤ _; exact Nat.le_of_eq rfl) (hb hby d4_42) (fun _ _ => ⟨rfl, e20, (by decide : 0 + 0 ≤ _), (by decide : 0 + 0 ≤ _)⟩)
  dsimp only [Pt.U, Pt.locs, Pt.cells, Pt.slots] at X21 l21 y21 z21 st21 hQ21
  subst l21 y21 z21
  obtain ⟨rfl, N21, e21⟩ := hQ21
  refine own_by (B := T21.setTop (mkF m 45 #[.val (.ref ua)] [(.int (own_min (up + (10 : Int32)) (100000 : Int32)))])) (fun _ k => st21.trans k) ?_
  have M21 := Fr.app N0 N21
  refine own_by (B := T21.setTop (mkF m 46 #[.val (.ref ua)] [(.ref ua), (.int (own_min (up + (10 : Int32)) (100000 : Int32)))])) (fun _ k => XS.aloadN X21.here hx rfl (hb hby d4_45) rfl rfl  k) ?_
  obtain ⟨T22, X22, e22, st22⟩ := getF X21 hx hZ hown (host := "") (Or.inl (hw _ (List.mem_of_getElem? (i := 23) rfl))) Via.refl e21 F_scale (g := (mkF m 46 #[.val (.ref ua)] [(.ref ua), (.int (own_min (up + (10 : Int32)) (100000 : Int32)))])) rfl rfl (hb hby d4_46)
  refine own_by (B := T22.setTop (mkF m 49 #[.val (.ref ua)] [(.int us), (.int (own_min (up + (10 : Int32)) (100000 : Int32)))])) st22 ?_
  obtain ⟨_, _, ⟨T23, L23, k23, n23⟩, -, X23, ⟨Lc23, hQ23, l23, y23, z23⟩, st23⟩ := Jvm.LawKit.callS X22 hx (y := (⟨"com/example/planwright/planwright/query/NumericType", "decimal", "(II)Lcom/example/planwright/planwright/query/NumericType;"⟩ : MethodName)) hown (mvT hZ (hw _ (List.mem_of_getElem? (i := 87) rfl))) (mvT hZ (hw _ (List.mem_of_getElem? (i := 88) rfl))) (mvT hZ (hw _ (List.mem_of_getElem? (i := 7) rfl))) (mvT hZ (hw _ (List.mem_of_getElem? (i := 89) rfl))) (by decide) (backOf (W := 0) (rmDe l Z a0 hw [] a_INTEGER a_BIGINT a_DECIMAL a_OTHER a_APPROXIMATE a_EMPTY (own_min (up + (10 : Int32)) (100000 : Int32)) us h0 n0 (own_old_le O0) O0 HW (own_min_le _)) hZ (hw _ (List.mem_of_getElem? (i := 89) rfl)) (hw _ (List.mem_of_getElem? (i := 7) rfl)) (by decide) (by decide)) (g := (mkF m 49 #[.val (.ref ua)] [(.int us), (.int (own_min (up + (10 : Int32)) (100000 : Int32)))])) rfl (by rw [hml]; rfl) (argsL := [(.int (own_min (up + (10 : Int32)) (100000 : Int32))), (.int us)]) (rest := []) (lenOf pd_4__II_Lcom_example_planwright_planwright_query_NumericType_ rfl) rfl (by show 2 * 0 + _ ≤ _; exact Nat.le_of_eq rfl) (hb hby d4_49) (fun _ _ => ⟨rfl, e22, (by decide : 0 + 1 ≤ _), (by decide : 0 + 3 ≤ _)⟩)
  dsimp only [Pt.U, Pt.locs, Pt.cells, Pt.slots] at X23 l23 y23 z23 st23 hQ23
  subst l23 y23 z23
  obtain ⟨bd, rfl, NC23, KC23, hb23, EC23, FC23_0, FC23_1, FC23_2⟩ := hQ23
  refine own_by (B := T23.setTop (mkF m 52 #[.val (.ref ua)] [(.ref bd)])) st23 ?_
  have gnbd : n0 ≤ bd := Nat.le_trans (own_old_le O0) hb23
  have fzbd : h0.size ≤ bd := Nat.le_trans K0.1 hb23
  obtain ⟨h23, e23⟩ : ∃ z, T23.heap = z := ⟨_, rfl⟩
  rw [e23] at KC23 EC23 FC23_0 FC23_1 FC23_2
  have sz23 := KC23.1
  have O23 := O0.keep KC23 all0
  have K23 := K0.trans KC23 all0
  have N23 := Fr.app M21 NC23
  have ltbd := EC23.lt
  obtain ⟨_, _, ⟨T24, L24, k24, n24⟩, -, X24, ⟨Lc24, hQ24, l24, y24, z24⟩, st24⟩ := Jvm.LawKit.callS X23 hx (y := (⟨"java/util/Optional", "of", "(Ljava/lang/Object;)Ljava/util/Optional;"⟩ : MethodName)) hown (mvT hZ (hw _ (List.mem_of_getElem? (i := 33) rfl))) (mvT hZ (hw _ (List.mem_of_getElem? (i := 34) rfl))) (mvT hZ (hw _ (List.mem_of_getElem? (i := 35) rfl))) (mvT hZ (hw _ (List.mem_of_getElem? (i := 36) rfl))) (by decide) (backOf (W := 0) (rmOf l Z a0 hw [] bd h23 n0 (own_old_le O23) O23) hZ (hw _ (List.mem_of_getElem? (i := 36) rfl)) (hw _ (List.mem_of_getElem? (i := 35) rfl)) (by decide) (by decide)) (g := (mkF m 52 #[.val (.ref ua)] [(.ref bd)])) rfl (by rw [hml]; rfl) (argsL := [(.ref bd)]) (rest := []) (lenOf pd_4__Ljava_lang_Object__Ljava_util_Optional_ rfl) rfl (by show 2 * 0 + _ ≤ _; exact Nat.le_of_eq rfl) (hb hby d4_52) (fun _ _ => ⟨rfl, e23, (by decide : 1 + 1 ≤ _), (by decide : 3 + 1 ≤ _)⟩)
  dsimp only [Pt.U, Pt.locs, Pt.cells, Pt.slots] at X24 l24 y24 z24 st24 hQ24
  subst l24 y24 z24
  obtain ⟨bo, rfl, NC24, KC24, hb24, EC24, FC24_0⟩ := hQ24
  refine own_by (B := T24.setTop (mkF m 55 #[.val (.ref ua)] [(.ref bo)])) st24 ?_
  have gnbo : n0 ≤ bo := Nat.le_trans (own_old_le O23) hb24
  have fzbo : h0.size ≤ bo := Nat.le_trans K23.1 hb24
  obtain ⟨h24, e24⟩ : ∃ z, T24.heap = z := ⟨_, rfl⟩
  rw [e24] at KC24 EC24 FC24_0
  have sz24 := KC24.1
  have O24 := O23.keep KC24 all0
  have K24 := K23.trans KC24 all0
  have N24 := Fr.app N23 NC24
  have c25 := (EC23.keep KC24)
  have c26 := (FC23_0.keep KC24 nin0)
  have c27 := (FC23_1.keep KC24 nin0)
  have c28 := (FC23_2.keep KC24 nin0)
  exact own_retA X24 hx hrt rfl rfl hlk (hb hby d4_55) (by decide) (by decide) (by show own_QSC Z a_DECIMAL (own_min (up + (10 : Int32)) (100000 : Int32)) us h0 n0 _ T24.heap _; rw [e24]; exact ⟨_, _, rfl, N24, K24, fzbo, EC24, FC24_0, fzbd, c25, c26, c27, c28⟩)

theorem pn_rmSumD : plainFor (⟨"com/example/planwright/planwright/query/NumericType", "sum", "()Ljava/util/Optional;"⟩ : MethodName) = true := by first | exact plainFor_of_name (by first | (simp [plainName, overriddenIn]; done) | decide +kernel) | exact Jvm.Free.JP.mathPlain rfl (by decide +kernel) | decide +kernel
theorem ef_rmSumD (m : MethodId) (x0 : Addr) : entryFrame m #[(.ref x0)] 1 = mkF m 0 #[.val (.ref x0)] [] := by first | (simp [entryFrame, mkF, argsToLocals, Value.category]; done) | rfl
set_option maxRecDepth 65536 in
set_option maxHeartbeats 40000000 in
theorem rmSumD (l : Launch) (Z : State) (a0 : Array Value) (hw : ∀ d ∈ tables_1, d.before a0 Z = true) (ws : List Jvm.Cond) (a_INTEGER a_BIGINT a_DECIMAL a_OTHER a_APPROXIMATE a_EMPTY : Addr) (ua uk : Addr) (up us : Int32) (h0 : Heap) (n0 : Nat) (Z0 : n0 ≤ h0.size) (O0 : Old Z n0 h0) (HW : own_W Z Z.heap a_INTEGER a_BIGINT a_DECIMAL a_OTHER a_APPROXIMATE a_EMPTY) (E_ua : Exa Z h0 ua "com/example/planwright/planwright/query/NumericType") (F_kind : Fld Z h0 ua "com/example/planwright/planwright/query/NumericType" "kind" "Lcom/example/planwright/planwright/query/NumericKind;" (.ref uk)) (F_precision : Fld Z h0 ua "com/example/planwright/planwright/query/NumericType" "precision" "I" (.int up)) (F_scale : Fld Z h0 ua "com/example/planwright/planwright/query/NumericType" "scale" "I" (.int us)) (hp0 : ¬ up = (0 : Int32)) (hk : ¬ uk = a_INTEGER) :
    MetFree l (⟨"com/example/planwright/planwright/query/NumericType", "sum", "()Ljava/util/Optional;"⟩ : MethodName) (head1 (Jvm.Cond.code (⟨"com/example/planwright/planwright/query/NumericType", "sum", "()Ljava/util/Optional;"⟩ : MethodName) prog_46_method_4_code 1 (some (.object "java/util/Optional")) :: ws) ({ frames := 4, cells := 2, slots := 4, locals := 53 } : Room)) (fun a U => a = #[(.ref ua)] ∧ Z.Warmed39 U.vm ∧ U.heap = h0) (fun _ _ _ _ _ => True) (fun _ U o U' => ∃ v L, o = .returned v ∧ (own_QSC Z a_DECIMAL (own_min (up + (10 : Int32)) (100000 : Int32)) us h0 n0) v U'.heap L ∧ FrameEnd U o U' L 2 4) := by
  refine MetFree.of_bodySF pn_rmSumD hisR ?_
  intro p e s m args below meth c s₁ Bd hml0 hP hK
  obtain ⟨rfl, hZ, hh⟩ := hP
  have hx := Bd.exec
  have hby := Bd.bytes
  have hml : c.maxLocals = 1 := hml0
  have hown : s.vm.findClass "com/example/planwright/planwright/query/NumericType" = some m.cls := findClass_of_methodNamed Bd.named
  have hnm := (name_of_methodNamed Bd.named Bd.method).1
  have hrt := Bd.returns
  have hlk := Bd.notSynchronized
  have X0 : Stand p l e ({ frames := 4, cells := 2, slots := 4, locals := 53 } : Room) s m #[(.ref ua)] below meth c s₁ [] 0 0 := Stand.of_body Bd
  have e0 : s₁.heap = h0 := by rw [← hh, Bd.state]; rfl
  have N0 := Fr.nil n0
  have K0 := Keep.refl h0 []
  have lt_ua := E_ua.lt
  have HW' := HW
  obtain ⟨S_INTEGER, E_INTEGER, S_BIGINT, E_BIGINT, S_DECIMAL, E_DECIMAL, S_OTHER, E_OTHER, S_APPROXIMATE, E_APPROXIMATE, F_BIGINT_precision, F_BIGINT_scale, F_DECIMAL_ordinal, F_INTEGER_ordinal, F_BIGINT_kind, S_EMPTY, E_EMPTY, F_EMPTY_value⟩ := HW'
  refine own_done (B := s₁.setTop (mkF m 0 #[.val (.ref ua)] [])) (fun t k => castTop (ef_rmSumD m ua) k) ?_
  refine own_by (B := s₁.setTop (mkF m 1 #[.val (.ref ua)] [(.ref ua)])) (fun _ k => XS.aloadN X0.here hx rfl (hb hby d4_0) rfl rfl  k) ?_
  obtain ⟨T12, X12, e12, st12⟩ := getF X0 hx hZ hown (host := "") (Or.inl (hw _ (List.mem_of_getElem? (i := 21) rfl))) Via.refl e0 F_precision (g := (mkF m 1 #[.val (.ref ua)] [(.ref ua)])) rfl rfl (hb hby d4_1)
  refine own_by (B := T12.setTop (mkF m 4 #[.val (.ref ua)] [(.int up)])) st12 ?_
  refine own_by (B := T12.setTop (mkF m 11 #[.val (.ref ua)] [])) (fun _ k => XS.ifYes X12.here hx rfl (pc0 := 4) (pc' := 11) rfl (hb hby d4_4) rfl (XT.i0_ne_t hp0) (by decide) (by decide) k) ?_
  refine own_by (B := T12.setTop (mkF m 12 #[.val (.ref ua)] [(.ref ua)])) (fun _ k => XS.aloadN X12.here hx rfl (hb hby d4_11) rfl rfl  k) ?_
  obtain ⟨T13, X13, e13, st13⟩ := getF X12 hx hZ hown (host := "") (Or.inl (hw _ (List.mem_of_getElem? (i := 19) rfl))) Via.refl e12 F_kind (g := (mkF m 12 #[.val (.ref ua)] [(.ref ua)])) rfl rfl (hb hby d4_12)
  refine own_by (B := T13.setTop (mkF m 15 #[.val (.ref ua)] [(.ref uk)])) st13 ?_
  obtain ⟨T14, X14, e14, st14⟩ := getS2 X13 hx hZ hown (host := "") (Or.inl (hw _ (List.mem_of_getElem? (i := 30) rfl))) Via.refl e13 (S_INTEGER.ext O0.2) (g := (mkF m 15 #[.val (.ref ua)] [(.ref uk)])) rfl (hb hby d4_15)
  refine own_by (B := T14.setTop (mkF m 18 #[.val (.ref ua)] [(.ref a_INTEGER), (.ref uk)])) st14 ?_
  refine own_by (B := T14.setTop (mkF m 41 #[.val (.ref ua)] [])) (fun _ k => XT.acmpYes X14.here hx rfl (pc0 := 18) (pc' := 41) rfl (hb hby d4_18) rfl rfl rfl (XT.aa_ne_t (fun q => hk (Value.ref.inj q))) (by decide) (by decide) k) ?_
  refine own_by (B := T14.setTop (mkF m 42 #[.val (.ref ua)] [(.ref ua)])) (fun _ k => XS.aloadN X14.here hx rfl (hb hby d4_41) rfl rfl  k) ?_
  obtain ⟨cq15, qa15, qc15⟩ := Exa.cell E_ua
  obtain ⟨_, _, ⟨T15, L15, k15, n15⟩, -, X15, ⟨Lc15, hQ15, l15, y15, z15⟩, st15⟩ := X14.privateBack hx (y := (⟨"com/example/planwright/planwright/query/NumericType", "widened", "()I"⟩ : MethodName)) hown (mvT hZ (hw _ (List.mem_of_getElem? (i := 78) rfl))) (mvT hZ (hw _ (List.mem_of_getElem? (i := 79) rfl))) (mvT hZ (own_selpriv (y := (⟨"com/example/planwright/planwright/query/NumericType", "widened", "()I"⟩ : MethodName)) (hw _ (List.mem_of_getElem? (i := 6) rfl)) (hw _ (List.mem_of_getElem? (i := 80) rfl)) (hw _ (List.mem_of_getElem? (i := 79) rfl)) (by decide))) (Cond.privateMethod_at (mvP hZ (hw _ (List.mem_of_getElem? (i := 80) rfl)) (args := #[]))) (mvT hZ (hw _ (List.mem_of_getElem? (i := 81) rfl))) (by decide) (backOf (W := 0) (rmWd l Z a0 hw [] ua up h0 n0 (own_old_le O0) F_precision) hZ (hw _ (List.mem_of_getElem? (i := 81) rfl)) (hw _ (List.mem_of_getElem? (i := 7) rfl)) (by decide) (by decide)) (g := (mkF m 42 #[.val (.ref ua)] [(.ref ua)])) rfl (by rw [hml]; rfl) (Steps.refl _) (a := ua) (by rw [e14]; exact qa15) qc15 (argsL := []) (rest := []) (lenOf pd_4___I rfl) rfl (by show 2 * 0 + _ ≤ _; exact Nat.le_of_eq rfl) (hb hby d4_42) (fun _ _ => ⟨rfl, e14, (by decide : 0 + 0 ≤ _), (by decide : 0 + 0 ≤ _)⟩)
  dsimp only [Pt.U, Pt.locs, Pt.cells, Pt.slots] at X15 l15 y15 z15 st15 hQ15
  subst l15 y15 z15
  obtain ⟨rfl, N15, e15⟩ := hQ15
  refine own_by (B := T15.setTop (mkF m 45 #[.val (.ref ua)] [(.int (own_min (up + (10 : Int32)) (100000 : Int32)))])) (fun _ k => st15.trans k) ?_
  have M15 := Fr.app N0 N15
  refine own_by (B := T15.setTop (mkF m 46 #[.val (.ref ua)] [(.ref ua), (.int (own_min (up + (10 : Int32)) (100000 : Int32)))])) (fun _ k => XS.aloadN X15.here hx rfl (hb hby d4_45) rfl rfl  k) ?_
  obtain ⟨T16, X16, e16, st16⟩ := getF X15 hx hZ hown (host := "") (Or.inl (hw _ (List.mem_of_getElem? (i := 23) rfl))) Via.refl e15 F_scale (g := (mkF m 46 #[.val (.ref ua)] [(.ref ua), (.int (own_min (up + (10 : Int32)) (100000 : Int32)))])) rfl rfl (hb hby d4_46)
  refine own_by (B := T16.setTop (mkF m 49 #[.val (.ref ua)] [(.int us), (.int (own_min (up + (10 : Int32)) (100000 : Int32)))])) st16 ?_
  obtain ⟨_, _, ⟨T17, L17, k17, n17⟩, -, X17, ⟨Lc17, hQ17, l17, y17, z17⟩, st17⟩ := Jvm.LawKit.callS X16 hx (y := (⟨"com/example/planwright/planwright/query/NumericType", "decimal", "(II)Lcom/example/planwright/planwright/query/NumericType;"⟩ : MethodName)) hown (mvT hZ (hw _ (List.mem_of_getElem? (i := 87) rfl))) (mvT hZ (hw _ (List.mem_of_getElem? (i := 88) rfl))) (mvT hZ (hw _ (List.mem_of_getElem? (i := 7) rfl))) (mvT hZ (hw _ (List.mem_of_getElem? (i := 89) rfl))) (by decide) (backOf (W := 0) (rmDe l Z a0 hw [] a_INTEGER a_BIGINT a_DECIMAL a_OTHER a_APPROXIMATE a_EMPTY (own_min (up + (10 : Int32)) (100000 : Int32)) us h0 n0 (own_old_le O0) O0 HW (own_min_le _)) hZ (hw _ (List.mem_of_getElem? (i := 89) rfl)) (hw _ (List.mem_of_getElem? (i := 7) rfl)) (by decide) (by decide)) (g := (mkF m 49 #[.val (.ref ua)] [(.int us), (.int (own_min (up + (10 : Int32)) (100000 : Int32)))])) rfl (by rw [hml]; rfl) (argsL := [(.int (own_min (up + (10 : Int32)) (100000 : Int32))), (.int us)]) (rest := []) (lenOf pd_4__II_Lcom_example_planwright_planwright_query_NumericType_ rfl) rfl (by show 2 * 0 + _ ≤ _; exact Nat.le_of_eq rfl) (hb hby d4_49) (fun _ _ => ⟨rfl, e16, (by decide : 0 + 1 ≤ _), (by decide : 0 + 3 ≤ _)⟩)
  dsimp only [Pt.U, Pt.locs, Pt.cells, Pt.slots] at X17 l17 y17 z17 st17 hQ17
  subst l17 y17 z17
  obtain ⟨bd, rfl, NC17, KC17, hb17, EC17, FC17_0, FC17_1, FC17_2⟩ := hQ17
  refine own_by (B := T17.setTop (mkF m 52 #[.val (.ref ua)] [(.ref bd)])) st17 ?_
  have gnbd : n0 ≤ bd := Nat.le_trans (own_old_le O0) hb17
  have fzbd : h0.size ≤ bd := Nat.le_trans K0.1 hb17
  obtain ⟨h17, e17⟩ : ∃ z, T17.heap = z := ⟨_, rfl⟩
  rw [e17] at KC17 EC17 FC17_0 FC17_1 FC17_2
  have sz17 := KC17.1
  have O17 := O0.keep KC17 all0
  have K17 := K0.trans KC17 all0
  have N17 := Fr.app M15 NC17
  have ltbd := EC17.lt
  obtain ⟨_, _, ⟨T18, L18, k18, n18⟩, -, X18, ⟨Lc18, hQ18, l18, y18, z18⟩, st18⟩ := Jvm.LawKit.callS X17 hx (y := (⟨"java/util/Optional", "of", "(Ljava/lang/Object;)Ljava/util/Optional;"⟩ : MethodName)) hown (mvT hZ (hw _ (List.mem_of_getElem? (i := 33) rfl))) (mvT hZ (hw _ (List.mem_of_getElem? (i := 34) rfl))) (mvT hZ (hw _ (List.mem_of_getElem? (i := 35) rfl))) (mvT hZ (hw _ (List.mem_of_getElem? (i := 36) rfl))) (by decide) (backOf (W := 0) (rmOf l Z a0 hw [] bd h17 n0 (own_old_le O17) O17) hZ (hw _ (List.mem_of_getElem? (i := 36) rfl)) (hw _ (List.mem_of_getElem? (i := 35) rfl)) (by decide) (by decide)) (g := (mkF m 52 #[.val (.ref ua)] [(.ref bd)])) rfl (by rw [hml]; rfl) (argsL := [(.ref bd)]) (rest := []) (lenOf pd_4__Ljava_lang_Object__Ljava_util_Optional_ rfl) rfl (by show 2 * 0 + _ ≤ _; exact Nat.le_of_eq rfl) (hb hby d4_52) (fun _ _ => ⟨rfl, e17, (by decide : 1 + 1 ≤ _), (by decide : 3 + 1 ≤ _)⟩)
  dsimp only [Pt.U, Pt.locs, Pt.cells, Pt.slots] at X18 l18 y18 z18 st18 hQ18
  subst l18 y18 z18
  obtain ⟨bo, rfl, NC18, KC18, hb18, EC18, FC18_0⟩ := hQ18
  refine own_by (B := T18.setTop (mkF m 55 #[.val (.ref ua)] [(.ref bo)])) st18 ?_
  have gnbo : n0 ≤ bo := Nat.le_trans (own_old_le O17) hb18
  have fzbo : h0.size ≤ bo := Nat.le_trans K17.1 hb18
  obtain ⟨h18, e18⟩ : ∃ z, T18.heap = z := ⟨_, rfl⟩
  rw [e18] at KC18 EC18 FC18_0
  have sz18 := KC18.1
  have O18 := O17.keep KC18 all0
  have K18 := K17.trans KC18 all0
  have N18 := Fr.app N17 NC18
  have c19 := (EC17.keep KC18)
  have c20 := (FC17_0.keep KC18 nin0)
  have c21 := (FC17_1.keep KC18 nin0)
  have c22 := (FC17_2.keep KC18 nin0)
  exact own_retA X18 hx hrt rfl rfl hlk (hb hby d4_55) (by decide) (by decide) (by show own_QSC Z a_DECIMAL (own_min (up + (10 : Int32)) (100000 : Int32)) us h0 n0 _ T18.heap _; rw [e18]; exact ⟨_, _, rfl, N18, K18, fzbo, EC18, FC18_0, fzbd, c19, c20, c21, c22⟩)

theorem own_18 (z : Int32) : (18 : Int32) < z ↔ ¬ z < (19 : Int32) := by
  rw [Int32.lt_iff_toInt_lt, Int32.lt_iff_toInt_lt, show (18 : Int32).toInt = 18 from rfl, show (19 : Int32).toInt = 19 from rfl]; omega
theorem own_exp {up ex : Int32} (h0 : 0 ≤ up.toInt) (h1 : up.toInt < 100001) (he : ex = if (99990 : Int32) < up then (100000 : Int32) else (up + (10 : Int32))) : own_min (up + (10 : Int32)) (100000 : Int32) = ex := by
  have e : (up + (10 : Int32)).toInt = up.toInt + 10 := XT.add32 (y := (10 : Int32)) ⟨by rw [show (10 : Int32).toInt = 10 from rfl]; omega, by rw [show (10 : Int32).toInt = 10 from rfl]; omega⟩
  rw [he]; unfold own_min
  simp only [Int32.lt_iff_toInt_lt, e, show (100000 : Int32).toInt = 100000 from rfl, show (99990 : Int32).toInt = 99990 from rfl]
  by_cases q : 99990 < up.toInt
  · rw [if_pos q]; split
    · rfl
    · apply Int32.toInt_inj.mp; rw [e, show (100000 : Int32).toInt = 100000 from rfl]; omega
  · rw [if_neg q]; split
    · omega
    · rfl

def own_Q0 (n0 : Nat) (v : Option Value) (h : Heap) (L : List Loc) : Prop := v = some (.int 1) ∧ Fr n0 L

theorem pd_0__Lcom_example_planwright_planwright_query_NumericKind_II_V : parseMethodDescriptor "(Lcom/example/planwright/planwright/query/NumericKind;II)V" = some ⟨[(.object "com/example/planwright/planwright/query/NumericKind"), .int, .int], none⟩ := by decide +kernel
theorem pd_0___Ljava_util_Optional_ : parseMethodDescriptor "()Ljava/util/Optional;" = some ⟨[], some (.object "java/util/Optional")⟩ := by decide +kernel
theorem pd_0___Z : parseMethodDescriptor "()Z" = some ⟨[], some .boolean⟩ := by decide +kernel
theorem pd_0___Ljava_lang_Object_ : parseMethodDescriptor "()Ljava/lang/Object;" = some ⟨[], some (.object "java/lang/Object")⟩ := by decide +kernel
theorem pd_0___Lcom_example_planwright_planwright_query_NumericKind_ : parseMethodDescriptor "()Lcom/example/planwright/planwright/query/NumericKind;" = some ⟨[], some (.object "com/example/planwright/planwright/query/NumericKind")⟩ := by decide +kernel
theorem pd_0___I : parseMethodDescriptor "()I" = some ⟨[], some .int⟩ := by decide +kernel
theorem pn_rm0 : plainFor (⟨"com/example/planwright/planwright/query/NumericTypeSumPinLaw", "law", "(III)Z"⟩ : MethodName) = true := by first | exact plainFor_of_name (by first | (simp [plainName, overriddenIn]; done) | decide +kernel) | exact Jvm.Free.JP.mathPlain rfl (by decide +kernel) | decide +kernel
theorem ef_rm0 (m : MethodId) (x0 : Int32) (x1 : Int32) (x2 : Int32) : entryFrame m #[(.int x0), (.int x1), (.int x2)] maxLocals = mkF m 0 #[.val (.int x0), .val (.int x1), .val (.int x2), .unset, .unset, .unset, .unset, .unset, .unset, .unset] [] := by first | (simp [entryFrame, mkF, argsToLocals, Value.category, maxLocals]; done) | rfl
set_option maxRecDepth 65536 in
set_option maxHeartbeats 40000000 in
theorem rm0 (l : Launch) (Z : State) (a0 : Array Value) (hw : ∀ d ∈ tables_1, d.before a0 Z = true) (ws : List Jvm.Cond) (a_INTEGER a_BIGINT a_DECIMAL a_OTHER a_APPROXIMATE a_EMPTY : Addr) (ua ub uc : Int32) (h0 : Heap) (n0 : Nat) (Z0 : n0 ≤ h0.size) (O0 : Old Z n0 h0) (HW : own_W Z Z.heap a_INTEGER a_BIGINT a_DECIMAL a_OTHER a_APPROXIMATE a_EMPTY) :
    MetFree l x (head1 (Jvm.Cond.code x code maxLocals ret :: ws) room_1) (fun a U => a = #[(.int ua), (.int ub), (.int uc)] ∧ Z.Warmed39 U.vm ∧ U.heap = h0) (fun _ _ _ _ _ => True) (fun _ U o U' => ∃ v L, o = .returned v ∧ (own_Q0 n0) v U'.heap L ∧ FrameEnd U o U' L 16 128) := by
  refine MetFree.of_bodySF pn_rm0 hisR ?_
  intro p e s m args below meth c s₁ Bd hml0 hP hK
  obtain ⟨rfl, hZ, hh⟩ := hP
  have hx := Bd.exec
  have hby := Bd.bytes
  have hml : c.maxLocals = 10 := hml0
  have hown : s.vm.findClass "com/example/planwright/planwright/query/NumericTypeSumPinLaw" = some m.cls := findClass_of_methodNamed Bd.named
  have hnm := (name_of_methodNamed Bd.named Bd.method).1
  have hrt := Bd.returns
  have hlk := Bd.notSynchronized
  have X0 : Stand p l e room_1 s m #[(.int ua), (.int ub), (.int uc)] below meth c s₁ [] 0 0 := Stand.of_body Bd
  have e0 : s₁.heap = h0 := by rw [← hh, Bd.state]; rfl
  have N0 := Fr.nil n0
  have K0 := Keep.refl h0 []
  have HW' := HW
  obtain ⟨S_INTEGER, E_INTEGER, S_BIGINT, E_BIGINT, S_DECIMAL, E_DECIMAL, S_OTHER, E_OTHER, S_APPROXIMATE, E_APPROXIMATE, F_BIGINT_precision, F_BIGINT_scale, F_DECIMAL_ordinal, F_INTEGER_ordinal, F_BIGINT_kind, S_EMPTY, E_EMPTY, F_EMPTY_value⟩ := HW'
  refine own_done (B := s₁.setTop (mkF m 0 #[.val (.int ua), .val (.int ub), .val (.int uc), .unset, .unset, .unset, .unset, .unset, .unset, .unset] [])) (fun t k => castTop (ef_rm0 m ua ub uc) k) ?_
  refine own_by (B := s₁.setTop (mkF m 1 #[.val (.int ua), .val (.int ub), .val (.int uc), .unset, .unset, .unset, .unset, .unset, .unset, .unset] [(.int ua)])) (fun _ k => XS.iloadN X0.here hx rfl (hb hby at_0) rfl  k) ?_
  refine own_by (B := s₁.setTop (mkF m 2 #[.val (.int ua), .val (.int ub), .val (.int uc), .unset, .unset, .unset, .unset, .unset, .unset, .unset] [(.int (3 : Int32)), (.int ua)])) (fun _ k => XS.iconst X0.here hx rfl (hb hby at_1) k) ?_
  refine own_by (B := s₁.setTop (mkF m 3 #[.val (.int ua), .val (.int ub), .val (.int uc), .unset, .unset, .unset, .unset, .unset, .unset, .unset] [(.int (ua &&& (3 : Int32)))])) (fun _ k => XS.iand X0.here hx rfl (hb hby at_2) rfl k) ?_
  refine own_by (B := s₁.setTop (mkF m 4 #[.val (.int ua), .val (.int ub), .val (.int uc), .val (.int (ua &&& (3 : Int32))), .unset, .unset, .unset, .unset, .unset, .unset] [])) (fun _ k => XS.istoreN X0.here hx rfl (hb hby at_3) rfl (l' := #[.val (.int ua), .val (.int ub), .val (.int uc), .val (.int (ua &&& (3 : Int32))), .unset, .unset, .unset, .unset, .unset, .unset]) rfl k) ?_
  have hk0 := (c_mask ua (3 : Int32) 2 (by decide) (by decide))
  have hks := own_enum4 (z := (ua &&& (3 : Int32))) (by rw [hk0]; omega) (by rw [hk0]; omega)
  generalize (ua &&& (3 : Int32)) = ui at hks ⊢
  rcases hks with rfl | rfl | rfl | rfl
  · refine own_by (B := s₁.setTop (mkF m 5 #[.val (.int ua), .val (.int ub), .val (.int uc), .val (.int (0 : Int32)), .unset, .unset, .unset, .unset, .unset, .unset] [(.int (0 : Int32))])) (fun _ k => XS.iloadN X0.here hx rfl (hb hby at_4) rfl  k) ?_
    refine own_by (B := s₁.setTop (mkF m 8 #[.val (.int ua), .val (.int ub), .val (.int uc), .val (.int (0 : Int32)), .unset, .unset, .unset, .unset, .unset, .unset] [])) (fun _ k => XS.ifNo X0.here hx rfl (hb hby at_5) rfl (XT.i0_ne_f (by decide)) k) ?_
    obtain ⟨T1, X1, e1, st1⟩ := getS2 X0 hx hZ hown (host := "") (Or.inl (hw _ (List.mem_of_getElem? (i := 0) rfl))) Via.refl e0 (S_INTEGER.ext O0.2) (g := (mkF m 8 #[.val (.int ua), .val (.int ub), .val (.int uc), .val (.int (0 : Int32)), .unset, .unset, .unset, .unset, .unset, .unset] [])) rfl (hb hby at_8)
    refine own_by (B := T1.setTop (mkF m 11 #[.val (.int ua), .val (.int ub), .val (.int uc), .val (.int (0 : Int32)), .unset, .unset, .unset, .unset, .unset, .unset] [(.ref a_INTEGER)])) st1 ?_
    refine own_by (B := T1.setTop (mkF m 13 #[.val (.int ua), .val (.int ub), .val (.int uc), .val (.int (0 : Int32)), .val (.ref a_INTEGER), .unset, .unset, .unset, .unset, .unset] [])) (fun _ k => XS.astore X1.here hx rfl (hb hby at_11) rfl rfl (l' := #[.val (.int ua), .val (.int ub), .val (.int uc), .val (.int (0 : Int32)), .val (.ref a_INTEGER), .unset, .unset, .unset, .unset, .unset]) rfl k) ?_
    refine own_by (B := T1.setTop (mkF m 47 #[.val (.int ua), .val (.int ub), .val (.int uc), .val (.int (0 : Int32)), .val (.ref a_INTEGER), .unset, .unset, .unset, .unset, .unset] [])) (fun _ k => XS.goto X1.here hx rfl (pc0 := 13) (pc' := 47) rfl (hb hby at_13) (by decide) (by decide) k) ?_
    refine own_by (B := T1.setTop (mkF m 48 #[.val (.int ua), .val (.int ub), .val (.int uc), .val (.int (0 : Int32)), .val (.ref a_INTEGER), .unset, .unset, .unset, .unset, .unset] [(.int (0 : Int32))])) (fun _ k => XS.iloadN X1.here hx rfl (hb hby at_47) rfl  k) ?_
    refine own_by (B := T1.setTop (mkF m 49 #[.val (.int ua), .val (.int ub), .val (.int uc), .val (.int (0 : Int32)), .val (.ref a_INTEGER), .unset, .unset, .unset, .unset, .unset] [(.int (1 : Int32)), (.int (0 : Int32))])) (fun _ k => XS.iconst X1.here hx rfl (hb hby at_48) k) ?_
    refine own_by (B := T1.setTop (mkF m 52 #[.val (.int ua), .val (.int ub), .val (.int uc), .val (.int (0 : Int32)), .val (.ref a_INTEGER), .unset, .unset, .unset, .unset, .unset] [])) (fun _ k => XS.icmpNo X1.here hx rfl (hb hby at_49) rfl (XT.ii_gt_f (by decide)) k) ?_
    refine own_by (B := T1.setTop (mkF m 53 #[.val (.int ua), .val (.int ub), .val (.int uc), .val (.int (0 : Int32)), .val (.ref a_INTEGER), .unset, .unset, .unset, .unset, .unset] [(.int ub)])) (fun _ k => XS.iloadN X1.here hx rfl (hb hby at_52) rfl  k) ?_
    refine own_by (B := T1.setTop (mkF m 55 #[.val (.int ua), .val (.int ub), .val (.int uc), .val (.int (0 : Int32)), .val (.ref a_INTEGER), .unset, .unset, .unset, .unset, .unset] [(.int (2147483647 : Int32)), (.int ub)])) (fun _ k => X1.ldcI (g := (mkF m 53 #[.val (.int ua), .val (.int ub), .val (.int uc), .val (.int (0 : Int32)), .val (.ref a_INTEGER), .unset, .unset, .unset, .unset, .unset] [(.int ub)])) hx hown (mvT hZ (hw _ (List.mem_of_getElem? (i := 3) rfl))) rfl (hb hby at_53) k) ?_
    refine own_by (B := T1.setTop (mkF m 56 #[.val (.int ua), .val (.int ub), .val (.int uc), .val (.int (0 : Int32)), .val (.ref a_INTEGER), .unset, .unset, .unset, .unset, .unset] [(.int (ub &&& (2147483647 : Int32)))])) (fun _ k => XS.iand X1.here hx rfl (hb hby at_55) rfl k) ?_
    refine own_by (B := T1.setTop (mkF m 58 #[.val (.int ua), .val (.int ub), .val (.int uc), .val (.int (0 : Int32)), .val (.ref a_INTEGER), .unset, .unset, .unset, .unset, .unset] [(.int (100001 : Int32)), (.int (ub &&& (2147483647 : Int32)))])) (fun _ k => X1.ldcI (g := (mkF m 56 #[.val (.int ua), .val (.int ub), .val (.int uc), .val (.int (0 : Int32)), .val (.ref a_INTEGER), .unset, .unset, .unset, .unset, .unset] [(.int (ub &&& (2147483647 : Int32)))])) hx hown (mvT hZ (hw _ (List.mem_of_getElem? (i := 4) rfl))) rfl (hb hby at_56) k) ?_
    refine own_by (B := T1.setTop (mkF m 59 #[.val (.int ua), .val (.int ub), .val (.int uc), .val (.int (0 : Int32)), .val (.ref a_INTEGER), .unset, .unset, .unset, .unset, .unset] [(.int ((ub &&& (2147483647 : Int32)) % (100001 : Int32)))])) (fun _ k => iremM (g := (mkF m 58 #[.val (.int ua), .val (.int ub), .val (.int uc), .val (.int (0 : Int32)), .val (.ref a_INTEGER), .unset, .unset, .unset, .unset, .unset] [(.int (100001 : Int32)), (.int (ub &&& (2147483647 : Int32)))])) X1 hx rfl (hb hby at_58) rfl (by decide) k) ?_
    refine own_by (B := T1.setTop (mkF m 63 #[.val (.int ua), .val (.int ub), .val (.int uc), .val (.int (0 : Int32)), .val (.ref a_INTEGER), .unset, .unset, .unset, .unset, .unset] [(.int ((ub &&& (2147483647 : Int32)) % (100001 : Int32)))])) (fun _ k => XS.goto X1.here hx rfl (pc0 := 59) (pc' := 63) rfl (hb hby at_59) (by decide) (by decide) k) ?_
    obtain ⟨up, hup⟩ : ∃ z : Int32, z = ((ub &&& (2147483647 : Int32)) % (100001 : Int32)) := ⟨_, rfl⟩
    rw [← hup]
    obtain ⟨hup0, hup1⟩ : 0 ≤ up.toInt ∧ up.toInt < 100001 := hup ▸ own_mod ub (100001 : Int32) (by decide)
    by_cases hs2 : up = (0 : Int32)
    · refine own_by (B := T1.setTop (mkF m 65 #[.val (.int ua), .val (.int ub), .val (.int uc), .val (.int (0 : Int32)), .val (.ref a_INTEGER), .val (.int up), .unset, .unset, .unset, .unset] [])) (fun _ k => XS.istore X1.here hx rfl (hb hby at_63) rfl (l' := #[.val (.int ua), .val (.int ub), .val (.int uc), .val (.int (0 : Int32)), .val (.ref a_INTEGER), .val (.int up), .unset, .unset, .unset, .unset]) rfl k) ?_
      obtain ⟨T3, h3, X3, e3, E3, A3, D3, -, st3⟩ := newO X1 hx hZ hown (hw _ (List.mem_of_getElem? (i := 5) rfl)) (hw _ (List.mem_of_getElem? (i := 6) rfl)) (hw _ (List.mem_of_getElem? (i := 7) rfl)) e1 (g := (mkF m 65 #[.val (.int ua), .val (.int ub), .val (.int uc), .val (.int (0 : Int32)), .val (.ref a_INTEGER), .val (.int up), .unset, .unset, .unset, .unset] [])) rfl (hb hby at_65) (by decide) (by decide)
      obtain ⟨b3, g3⟩ : ∃ z, z = h0.size := ⟨_, rfl⟩
      rw [← g3] at A3 D3 st3
      have sz3 := E3.1
      have gn3 : n0 ≤ b3 := g3 ▸ own_old_le O0
      have fz3 : h0.size ≤ b3 := g3 ▸ K0.1
      have lt3 := A3.lt
      have O3 := O0.ext E3
      have K3 := K0.ext E3
      have F3_kind : Fld Z h3 b3 "com/example/planwright/planwright/query/NumericType" "kind" "Lcom/example/planwright/planwright/query/NumericKind;" .null := D3 (Or.inr (hw _ (List.mem_of_getElem? (i := 20) rfl))) (ty := (.object "com/example/planwright/planwright/query/NumericKind")) (by decide)
      have F3_precision : Fld Z h3 b3 "com/example/planwright/planwright/query/NumericType" "precision" "I" (.int (0 : Int32)) := D3 (Or.inr (hw _ (List.mem_of_getElem? (i := 22) rfl))) (ty := .int) (by decide)
      have F3_scale : Fld Z h3 b3 "com/example/planwright/planwright/query/NumericType" "scale" "I" (.int (0 : Int32)) := D3 (Or.inr (hw _ (List.mem_of_getElem? (i := 24) rfl))) (ty := .int) (by decide)
      refine own_by (B := T3.setTop (mkF m 68 #[.val (.int ua), .val (.int ub), .val (.int uc), .val (.int (0 : Int32)), .val (.ref a_INTEGER), .val (.int up), .unset, .unset, .unset, .unset] [(.ref b3)])) st3 ?_
      refine own_by (B := T3.setTop (mkF m 69 #[.val (.int ua), .val (.int ub), .val (.int uc), .val (.int (0 : Int32)), .val (.ref a_INTEGER), .val (.int up), .unset, .unset, .unset, .unset] [(.ref b3), (.ref b3)])) (fun _ k => XS.dup X3.here hx rfl (hb hby at_68) rfl rfl k) ?_
      refine own_by (B := T3.setTop (mkF m 71 #[.val (.int ua), .val (.int ub), .val (.int uc), .val (.int (0 : Int32)), .val (.ref a_INTEGER), .val (.int up), .unset, .unset, .unset, .unset] [(.ref a_INTEGER), (.ref b3), (.ref b3)])) (fun _ k => XS.aload X3.here hx rfl (hb hby at_69) rfl rfl  k) ?_
      refine own_by (B := T3.setTop (mkF m 73 #[.val (.int ua), .val (.int ub), .val (.int uc), .val (.int (0 : Int32)), .val (.ref a_INTEGER), .val (.int up), .unset, .unset, .unset, .unset] [(.int up), (.ref a_INTEGER), (.ref b3), (.ref b3)])) (fun _ k => XS.iload X3.here hx rfl (hb hby at_71) rfl  k) ?_
      refine own_by (B := T3.setTop (mkF m 74 #[.val (.int ua), .val (.int ub), .val (.int uc), .val (.int (0 : Int32)), .val (.ref a_INTEGER), .val (.int up), .unset, .unset, .unset, .unset] [(.int uc), (.int up), (.ref a_INTEGER), (.ref b3), (.ref b3)])) (fun _ k => XS.iloadN X3.here hx rfl (hb hby at_73) rfl  k) ?_
      obtain ⟨_, _, ⟨T4, L4, k4, n4⟩, -, X4, ⟨Lc4, hQ4, l4, y4, z4⟩, st4⟩ := X3.specialBack hx (y := (⟨"com/example/planwright/planwright/query/NumericType", "<init>", "(Lcom/example/planwright/planwright/query/NumericKind;II)V"⟩ : MethodName)) rfl hown (mvT hZ (hw _ (List.mem_of_getElem? (i := 8) rfl))) (mvT hZ (hw _ (List.mem_of_getElem? (i := 9) rfl))) (mvT hZ (hw _ (List.mem_of_getElem? (i := 10) rfl))) (by decide) (backOf (W := 1) (rmNT l Z a0 hw [] b3 a_INTEGER up uc h3 n0 (own_old_le O3) O3 A3 F3_kind F3_precision F3_scale gn3) hZ (hw _ (List.mem_of_getElem? (i := 10) rfl)) (hw _ (List.mem_of_getElem? (i := 7) rfl)) (by decide) (by decide)) (g := (mkF m 74 #[.val (.int ua), .val (.int ub), .val (.int uc), .val (.int (0 : Int32)), .val (.ref a_INTEGER), .val (.int up), .unset, .unset, .unset, .unset] [(.int uc), (.int up), (.ref a_INTEGER), (.ref b3), (.ref b3)])) rfl (by rw [hml]; rfl) (Steps.refl _) (a := b3) (argsL := [(.ref a_INTEGER), (.int up), (.int uc)]) (rest := [(.ref b3)]) (lenOf pd_0__Lcom_example_planwright_planwright_query_NumericKind_II_V rfl) rfl (by show 2 * 0 + _ ≤ _; exact Nat.le_of_eq rfl) (hb hby at_74) (fun _ _ => ⟨rfl, e3, (by decide : 1 + 0 ≤ _), (by decide : 3 + 0 ≤ _)⟩)
      dsimp only [Pt.U, Pt.locs, Pt.cells, Pt.slots] at X4 l4 y4 z4 st4 hQ4
      subst l4 y4 z4
      obtain ⟨rfl, NC4, KC4, EC4, FC4_0, FC4_1, FC4_2⟩ := hQ4
      refine own_by (B := T4.setTop (mkF m 77 #[.val (.int ua), .val (.int ub), .val (.int uc), .val (.int (0 : Int32)), .val (.ref a_INTEGER), .val (.int up), .unset, .unset, .unset, .unset] [(.ref b3)])) (fun _ k => st4.trans k) ?_
      obtain ⟨h4, e4⟩ : ∃ z, T4.heap = z := ⟨_, rfl⟩
      rw [e4] at KC4 EC4 FC4_0 FC4_1 FC4_2
      have sz4 := KC4.1
      have O4 := O3.keep KC4 (allS gn3 all0)
      have K4 := K3.trans KC4 (allS (Or.inr fz3) all0)
      have N4 := Fr.app N0 NC4
      refine own_by (B := T4.setTop (mkF m 79 #[.val (.int ua), .val (.int ub), .val (.int uc), .val (.int (0 : Int32)), .val (.ref a_INTEGER), .val (.int up), .val (.ref b3), .unset, .unset, .unset] [])) (fun _ k => XS.astore X4.here hx rfl (hb hby at_77) rfl rfl (l' := #[.val (.int ua), .val (.int ub), .val (.int uc), .val (.int (0 : Int32)), .val (.ref a_INTEGER), .val (.int up), .val (.ref b3), .unset, .unset, .unset]) rfl k) ?_
      refine own_by (B := T4.setTop (mkF m 81 #[.val (.int ua), .val (.int ub), .val (.int uc), .val (.int (0 : Int32)), .val (.ref a_INTEGER), .val (.int up), .val (.ref b3), .unset, .unset, .unset] [(.ref b3)])) (fun _ k => XS.aload X4.here hx rfl (hb hby at_79) rfl rfl  k) ?_
      obtain ⟨cq5, kq5, qa5, qb5, qc5⟩ := isOf hZ e4 EC4
      obtain ⟨_, _, ⟨T5, L5, k5, n5⟩, -, X5, ⟨Lc5, hQ5, l5, y5, z5⟩, st5⟩ := X4.virtualBack hx (y := (⟨"com/example/planwright/planwright/query/NumericType", "sum", "()Ljava/util/Optional;"⟩ : MethodName)) (z := (⟨"com/example/planwright/planwright/query/NumericType", "sum", "()Ljava/util/Optional;"⟩ : MethodName)) hown (mvT hZ (hw _ (List.mem_of_getElem? (i := 25) rfl))) (mvT hZ (hw _ (List.mem_of_getElem? (i := 26) rfl))) (notFace_of_selects (args := #[]) (mvT hZ (hw _ (List.mem_of_getElem? (i := 28) rfl)))) (mvT hZ (hw _ (List.mem_of_getElem? (i := 28) rfl))) (mvT hZ (hw _ (List.mem_of_getElem? (i := 27) rfl))) (by decide) (backOf (W := 0) (rmSumA l Z a0 hw [] a_INTEGER a_BIGINT a_DECIMAL a_OTHER a_APPROXIMATE a_EMPTY b3 a_INTEGER up uc h4 n0 (own_old_le O4) O4 HW EC4 FC4_0 FC4_1 FC4_2 hs2) hZ (hw _ (List.mem_of_getElem? (i := 29) rfl)) (hw _ (List.mem_of_getElem? (i := 7) rfl)) (by decide) (by decide)) qa5 qc5 (g := (mkF m 81 #[.val (.int ua), .val (.int ub), .val (.int uc), .val (.int (0 : Int32)), .val (.ref a_INTEGER), .val (.int up), .val (.ref b3), .unset, .unset, .unset] [(.ref b3)])) rfl (by rw [hml]; rfl) (Steps.refl _) (argsL := []) (rest := []) (lenOf pd_0___Ljava_util_Optional_ rfl) rfl (by show 2 * 0 + _ ≤ _; exact Nat.le_of_eq rfl) (hb hby at_81) (fun _ _ => ⟨rfl, e4, (by decide : 1 + 0 ≤ _), (by decide : 3 + 0 ≤ _)⟩)
      dsimp only [Pt.U, Pt.locs, Pt.cells, Pt.slots] at X5 l5 y5 z5 st5 hQ5
      subst l5 y5 z5
      obtain ⟨rfl, N5, e5⟩ := hQ5
      refine own_by (B := T5.setTop (mkF m 84 #[.val (.int ua), .val (.int ub), .val (.int uc), .val (.int (0 : Int32)), .val (.ref a_INTEGER), .val (.int up), .val (.ref b3), .unset, .unset, .unset] [(.ref a_EMPTY)])) (fun _ k => st5.trans k) ?_
      have M5 := Fr.app N4 N5
      refine own_by (B := T5.setTop (mkF m 86 #[.val (.int ua), .val (.int ub), .val (.int uc), .val (.int (0 : Int32)), .val (.ref a_INTEGER), .val (.int up), .val (.ref b3), .val (.ref a_EMPTY), .unset, .unset] [])) (fun _ k => XS.astore X5.here hx rfl (hb hby at_84) rfl rfl (l' := #[.val (.int ua), .val (.int ub), .val (.int uc), .val (.int (0 : Int32)), .val (.ref a_INTEGER), .val (.int up), .val (.ref b3), .val (.ref a_EMPTY), .unset, .unset]) rfl k) ?_
      refine own_by (B := T5.setTop (mkF m 88 #[.val (.int ua), .val (.int ub), .val (.int uc), .val (.int (0 : Int32)), .val (.ref a_INTEGER), .val (.int up), .val (.ref b3), .val (.ref a_EMPTY), .unset, .unset] [(.int up)])) (fun _ k => XS.iload X5.here hx rfl (hb hby at_86) rfl  k) ?_
      refine own_by (B := T5.setTop (mkF m 91 #[.val (.int ua), .val (.int ub), .val (.int uc), .val (.int (0 : Int32)), .val (.ref a_INTEGER), .val (.int up), .val (.ref b3), .val (.ref a_EMPTY), .unset, .unset] [])) (fun _ k => XS.ifNo X5.here hx rfl (hb hby at_88) rfl (XT.i0_ne_f hs2) k) ?_
      refine own_by (B := T5.setTop (mkF m 93 #[.val (.int ua), .val (.int ub), .val (.int uc), .val (.int (0 : Int32)), .val (.ref a_INTEGER), .val (.int up), .val (.ref b3), .val (.ref a_EMPTY), .unset, .unset] [(.ref a_EMPTY)])) (fun _ k => XS.aload X5.here hx rfl (hb hby at_91) rfl rfl  k) ?_
      obtain ⟨cq6, kq6, qa6, qb6, qc6⟩ := isOf hZ e5 (E_EMPTY.ext O4.2)
      obtain ⟨_, _, ⟨T6, L6, k6, n6⟩, -, X6, ⟨Lc6, hQ6, l6, y6, z6⟩, st6⟩ := X5.virtualBack hx (y := (⟨"java/util/Optional", "isPresent", "()Z"⟩ : MethodName)) (z := (⟨"java/util/Optional", "isPresent", "()Z"⟩ : MethodName)) hown (mvT hZ (hw _ (List.mem_of_getElem? (i := 50) rfl))) (mvT hZ (hw _ (List.mem_of_getElem? (i := 51) rfl))) (notFace_of_selects (args := #[]) (mvT hZ (hw _ (List.mem_of_getElem? (i := 53) rfl)))) (mvT hZ (hw _ (List.mem_of_getElem? (i := 53) rfl))) (mvT hZ (hw _ (List.mem_of_getElem? (i := 52) rfl))) (by decide) (backOf (W := 0) (rmIsp0 l Z a0 hw [] a_EMPTY h4 n0 (own_old_le O4) (F_EMPTY_value.ext O4.2)) hZ (hw _ (List.mem_of_getElem? (i := 54) rfl)) (hw _ (List.mem_of_getElem? (i := 35) rfl)) (by decide) (by decide)) qa6 qc6 (g := (mkF m 93 #[.val (.int ua), .val (.int ub), .val (.int uc), .val (.int (0 : Int32)), .val (.ref a_INTEGER), .val (.int up), .val (.ref b3), .val (.ref a_EMPTY), .unset, .unset] [(.ref a_EMPTY)])) rfl (by rw [hml]; rfl) (Steps.refl _) (argsL := []) (rest := []) (lenOf pd_0___Z rfl) rfl (by show 2 * 0 + _ ≤ _; exact Nat.le_of_eq rfl) (hb hby at_93) (fun _ _ => ⟨rfl, e5, (by decide : 1 + 0 ≤ _), (by decide : 3 + 0 ≤ _)⟩)
      dsimp only [Pt.U, Pt.locs, Pt.cells, Pt.slots] at X6 l6 y6 z6 st6 hQ6
      subst l6 y6 z6
      obtain ⟨rfl, N6, e6⟩ := hQ6
      refine own_by (B := T6.setTop (mkF m 96 #[.val (.int ua), .val (.int ub), .val (.int uc), .val (.int (0 : Int32)), .val (.ref a_INTEGER), .val (.int up), .val (.ref b3), .val (.ref a_EMPTY), .unset, .unset] [(.int own_isp0)])) (fun _ k => st6.trans k) ?_
      have M6 := Fr.app M5 N6
      rw [show own_isp0 = (0 : Int32) from rfl]
      refine own_by (B := T6.setTop (mkF m 99 #[.val (.int ua), .val (.int ub), .val (.int uc), .val (.int (0 : Int32)), .val (.ref a_INTEGER), .val (.int up), .val (.ref b3), .val (.ref a_EMPTY), .unset, .unset] [])) (fun _ k => XS.ifNo X6.here hx rfl (hb hby at_96) rfl (XT.i0_ne_f (by decide)) k) ?_
      refine own_by (B := T6.setTop (mkF m 100 #[.val (.int ua), .val (.int ub), .val (.int uc), .val (.int (0 : Int32)), .val (.ref a_INTEGER), .val (.int up), .val (.ref b3), .val (.ref a_EMPTY), .unset, .unset] [(.int (1 : Int32))])) (fun _ k => XS.iconst X6.here hx rfl (hb hby at_99) k) ?_
      refine own_by (B := T6.setTop (mkF m 104 #[.val (.int ua), .val (.int ub), .val (.int uc), .val (.int (0 : Int32)), .val (.ref a_INTEGER), .val (.int up), .val (.ref b3), .val (.ref a_EMPTY), .unset, .unset] [(.int (1 : Int32))])) (fun _ k => XS.goto X6.here hx rfl (pc0 := 100) (pc' := 104) rfl (hb hby at_100) (by decide) (by decide) k) ?_
      exact own_retZ X6 hx hrt hlk rfl (hb hby at_104) (by decide) (by decide) ⟨rfl, M6⟩
    · by_cases hs7 : up < (19 : Int32)
      · refine own_by (B := T1.setTop (mkF m 65 #[.val (.int ua), .val (.int ub), .val (.int uc), .val (.int (0 : Int32)), .val (.ref a_INTEGER), .val (.int up), .unset, .unset, .unset, .unset] [])) (fun _ k => XS.istore X1.here hx rfl (hb hby at_63) rfl (l' := #[.val (.int ua), .val (.int ub), .val (.int uc), .val (.int (0 : Int32)), .val (.ref a_INTEGER), .val (.int up), .unset, .unset, .unset, .unset]) rfl k) ?_
        obtain ⟨T8, h8, X8, e8, E8, A8, D8, -, st8⟩ := newO X1 hx hZ hown (hw _ (List.mem_of_getElem? (i := 5) rfl)) (hw _ (List.mem_of_getElem? (i := 6) rfl)) (hw _ (List.mem_of_getElem? (i := 7) rfl)) e1 (g := (mkF m 65 #[.val (.int ua), .val (.int ub), .val (.int uc), .val (.int (0 : Int32)), .val (.ref a_INTEGER), .val (.int up), .unset, .unset, .unset, .unset] [])) rfl (hb hby at_65) (by decide) (by decide)
        obtain ⟨b8, g8⟩ : ∃ z, z = h0.size := ⟨_, rfl⟩
        rw [← g8] at A8 D8 st8
        have sz8 := E8.1
        have gn8 : n0 ≤ b8 := g8 ▸ own_old_le O0
        have fz8 : h0.size ≤ b8 := g8 ▸ K0.1
        have lt8 := A8.lt
        have O8 := O0.ext E8
        have K8 := K0.ext E8
        have F8_kind : Fld Z h8 b8 "com/example/planwright/planwright/query/NumericType" "kind" "Lcom/example/planwright/planwright/query/NumericKind;" .null := D8 (Or.inr (hw _ (List.mem_of_getElem? (i := 20) rfl))) (ty := (.object "com/example/planwright/planwright/query/NumericKind")) (by decide)
        have F8_precision : Fld Z h8 b8 "com/example/planwright/planwright/query/NumericType" "precision" "I" (.int (0 : Int32)) := D8 (Or.inr (hw _ (List.mem_of_getElem? (i := 22) rfl))) (ty := .int) (by decide)
        have F8_scale : Fld Z h8 b8 "com/example/planwright/planwright/query/NumericType" "scale" "I" (.int (0 : Int32)) := D8 (Or.inr (hw _ (List.mem_of_getElem? (i := 24) rfl))) (ty := .int) (by decide)
        refine own_by (B := T8.setTop (mkF m 68 #[.val (.int ua), .val (.int ub), .val (.int uc), .val (.int (0 : Int32)), .val (.ref a_INTEGER), .val (.int up), .unset, .unset, .unset, .unset] [(.ref b8)])) st8 ?_
        refine own_by (B := T8.setTop (mkF m 69 #[.val (.int ua), .val (.int ub), .val (.int uc), .val (.int (0 : Int32)), .val (.ref a_INTEGER), .val (.int up), .unset, .unset, .unset, .unset] [(.ref b8), (.ref b8)])) (fun _ k => XS.dup X8.here hx rfl (hb hby at_68) rfl rfl k) ?_
        refine own_by (B := T8.setTop (mkF m 71 #[.val (.int ua), .val (.int ub), .val (.int uc), .val (.int (0 : Int32)), .val (.ref a_INTEGER), .val (.int up), .unset, .unset, .unset, .unset] [(.ref a_INTEGER), (.ref b8), (.ref b8)])) (fun _ k => XS.aload X8.here hx rfl (hb hby at_69) rfl rfl  k) ?_
        refine own_by (B := T8.setTop (mkF m 73 #[.val (.int ua), .val (.int ub), .val (.int uc), .val (.int (0 : Int32)), .val (.ref a_INTEGER), .val (.int up), .unset, .unset, .unset, .unset] [(.int up), (.ref a_INTEGER), (.ref b8), (.ref b8)])) (fun _ k => XS.iload X8.here hx rfl (hb hby at_71) rfl  k) ?_
        refine own_by (B := T8.setTop (mkF m 74 #[.val (.int ua), .val (.int ub), .val (.int uc), .val (.int (0 : Int32)), .val (.ref a_INTEGER), .val (.int up), .unset, .unset, .unset, .unset] [(.int uc), (.int up), (.ref a_INTEGER), (.ref b8), (.ref b8)])) (fun _ k => XS.iloadN X8.here hx rfl (hb hby at_73) rfl  k) ?_
        obtain ⟨_, _, ⟨T9, L9, k9, n9⟩, -, X9, ⟨Lc9, hQ9, l9, y9, z9⟩, st9⟩ := X8.specialBack hx (y := (⟨"com/example/planwright/planwright/query/NumericType", "<init>", "(Lcom/example/planwright/planwright/query/NumericKind;II)V"⟩ : MethodName)) rfl hown (mvT hZ (hw _ (List.mem_of_getElem? (i := 8) rfl))) (mvT hZ (hw _ (List.mem_of_getElem? (i := 9) rfl))) (mvT hZ (hw _ (List.mem_of_getElem? (i := 10) rfl))) (by decide) (backOf (W := 1) (rmNT l Z a0 hw [] b8 a_INTEGER up uc h8 n0 (own_old_le O8) O8 A8 F8_kind F8_precision F8_scale gn8) hZ (hw _ (List.mem_of_getElem? (i := 10) rfl)) (hw _ (List.mem_of_getElem? (i := 7) rfl)) (by decide) (by decide)) (g := (mkF m 74 #[.val (.int ua), .val (.int ub), .val (.int uc), .val (.int (0 : Int32)), .val (.ref a_INTEGER), .val (.int up), .unset, .unset, .unset, .unset] [(.int uc), (.int up), (.ref a_INTEGER), (.ref b8), (.ref b8)])) rfl (by rw [hml]; rfl) (Steps.refl _) (a := b8) (argsL := [(.ref a_INTEGER), (.int up), (.int uc)]) (rest := [(.ref b8)]) (lenOf pd_0__Lcom_example_planwright_planwright_query_NumericKind_II_V rfl) rfl (by show 2 * 0 + _ ≤ _; exact Nat.le_of_eq rfl) (hb hby at_74) (fun _ _ => ⟨rfl, e8, (by decide : 1 + 0 ≤ _), (by decide : 3 + 0 ≤ _)⟩)
        dsimp only [Pt.U, Pt.locs, Pt.cells, Pt.slots] at X9 l9 y9 z9 st9 hQ9
        subst l9 y9 z9
        obtain ⟨rfl, NC9, KC9, EC9, FC9_0, FC9_1, FC9_2⟩ := hQ9
        refine own_by (B := T9.setTop (mkF m 77 #[.val (.int ua), .val (.int ub), .val (.int uc), .val (.int (0 : Int32)), .val (.ref a_INTEGER), .val (.int up), .unset, .unset, .unset, .unset] [(.ref b8)])) (fun _ k => st9.trans k) ?_
        obtain ⟨h9, e9⟩ : ∃ z, T9.heap = z := ⟨_, rfl⟩
        rw [e9] at KC9 EC9 FC9_0 FC9_1 FC9_2
        have sz9 := KC9.1
        have O9 := O8.keep KC9 (allS gn8 all0)
        have K9 := K8.trans KC9 (allS (Or.inr fz8) all0)
        have N9 := Fr.app N0 NC9
        refine own_by (B := T9.setTop (mkF m 79 #[.val (.int ua), .val (.int ub), .val (.int uc), .val (.int (0 : Int32)), .val (.ref a_INTEGER), .val (.int up), .val (.ref b8), .unset, .unset, .unset] [])) (fun _ k => XS.astore X9.here hx rfl (hb hby at_77) rfl rfl (l' := #[.val (.int ua), .val (.int ub), .val (.int uc), .val (.int (0 : Int32)), .val (.ref a_INTEGER), .val (.int up), .val (.ref b8), .unset, .unset, .unset]) rfl k) ?_
        refine own_by (B := T9.setTop (mkF m 81 #[.val (.int ua), .val (.int ub), .val (.int uc), .val (.int (0 : Int32)), .val (.ref a_INTEGER), .val (.int up), .val (.ref b8), .unset, .unset, .unset] [(.ref b8)])) (fun _ k => XS.aload X9.here hx rfl (hb hby at_79) rfl rfl  k) ?_
        obtain ⟨cq10, kq10, qa10, qb10, qc10⟩ := isOf hZ e9 EC9
        obtain ⟨_, _, ⟨T10, L10, k10, n10⟩, -, X10, ⟨Lc10, hQ10, l10, y10, z10⟩, st10⟩ := X9.virtualBack hx (y := (⟨"com/example/planwright/planwright/query/NumericType", "sum", "()Ljava/util/Optional;"⟩ : MethodName)) (z := (⟨"com/example/planwright/planwright/query/NumericType", "sum", "()Ljava/util/Optional;"⟩ : MethodName)) hown (mvT hZ (hw _ (List.mem_of_getElem? (i := 25) rfl))) (mvT hZ (hw _ (List.mem_of_getElem? (i := 26) rfl))) (notFace_of_selects (args := #[]) (mvT hZ (hw _ (List.mem_of_getElem? (i := 28) rfl)))) (mvT hZ (hw _ (List.mem_of_getElem? (i := 28) rfl))) (mvT hZ (hw _ (List.mem_of_getElem? (i := 27) rfl))) (by decide) (backOf (W := 0) (rmSumB l Z a0 hw [] a_INTEGER a_BIGINT a_DECIMAL a_OTHER a_APPROXIMATE a_EMPTY b8 a_INTEGER up uc h9 n0 (own_old_le O9) O9 HW EC9 FC9_0 FC9_1 FC9_2 hs2 rfl hs7) hZ (hw _ (List.mem_of_getElem? (i := 29) rfl)) (hw _ (List.mem_of_getElem? (i := 7) rfl)) (by decide) (by decide)) qa10 qc10 (g := (mkF m 81 #[.val (.int ua), .val (.int ub), .val (.int uc), .val (.int (0 : Int32)), .val (.ref a_INTEGER), .val (.int up), .val (.ref b8), .unset, .unset, .unset] [(.ref b8)])) rfl (by rw [hml]; rfl) (Steps.refl _) (argsL := []) (rest := []) (lenOf pd_0___Ljava_util_Optional_ rfl) rfl (by show 2 * 0 + _ ≤ _; exact Nat.le_of_eq rfl) (hb hby at_81) (fun _ _ => ⟨rfl, e9, (by decide : 1 + 1 ≤ _), (by decide : 3 + 1 ≤ _)⟩)
        dsimp only [Pt.U, Pt.locs, Pt.cells, Pt.slots] at X10 l10 y10 z10 st10 hQ10
        subst l10 y10 z10
        obtain ⟨bo, rfl, NC10, KC10, hb10, EC10, FC10_0⟩ := hQ10
        refine own_by (B := T10.setTop (mkF m 84 #[.val (.int ua), .val (.int ub), .val (.int uc), .val (.int (0 : Int32)), .val (.ref a_INTEGER), .val (.int up), .val (.ref b8), .unset, .unset, .unset] [(.ref bo)])) (fun _ k => st10.trans k) ?_
        have gnbo : n0 ≤ bo := Nat.le_trans (own_old_le O9) hb10
        have fzbo : h0.size ≤ bo := Nat.le_trans K9.1 hb10
        obtain ⟨h10, e10⟩ : ∃ z, T10.heap = z := ⟨_, rfl⟩
        rw [e10] at KC10 EC10 FC10_0
        have sz10 := KC10.1
        have O10 := O9.keep KC10 all0
        have K10 := K9.trans KC10 all0
        have N10 := Fr.app N9 NC10
        refine own_by (B := T10.setTop (mkF m 86 #[.val (.int ua), .val (.int ub), .val (.int uc), .val (.int (0 : Int32)), .val (.ref a_INTEGER), .val (.int up), .val (.ref b8), .val (.ref bo), .unset, .unset] [])) (fun _ k => XS.astore X10.here hx rfl (hb hby at_84) rfl rfl (l' := #[.val (.int ua), .val (.int ub), .val (.int uc), .val (.int (0 : Int32)), .val (.ref a_INTEGER), .val (.int up), .val (.ref b8), .val (.ref bo), .unset, .unset]) rfl k) ?_
        refine own_by (B := T10.setTop (mkF m 88 #[.val (.int ua), .val (.int ub), .val (.int uc), .val (.int (0 : Int32)), .val (.ref a_INTEGER), .val (.int up), .val (.ref b8), .val (.ref bo), .unset, .unset] [(.int up)])) (fun _ k => XS.iload X10.here hx rfl (hb hby at_86) rfl  k) ?_
        refine own_by (B := T10.setTop (mkF m 105 #[.val (.int ua), .val (.int ub), .val (.int uc), .val (.int (0 : Int32)), .val (.ref a_INTEGER), .val (.int up), .val (.ref b8), .val (.ref bo), .unset, .unset] [])) (fun _ k => XS.ifYes X10.here hx rfl (pc0 := 88) (pc' := 105) rfl (hb hby at_88) rfl (XT.i0_ne_t hs2) (by decide) (by decide) k) ?_
        refine own_by (B := T10.setTop (mkF m 107 #[.val (.int ua), .val (.int ub), .val (.int uc), .val (.int (0 : Int32)), .val (.ref a_INTEGER), .val (.int up), .val (.ref b8), .val (.ref bo), .unset, .unset] [(.ref bo)])) (fun _ k => XS.aload X10.here hx rfl (hb hby at_105) rfl rfl  k) ?_
        obtain ⟨cq11, kq11, qa11, qb11, qc11⟩ := isOf hZ e10 EC10
        obtain ⟨_, _, ⟨T11, L11, k11, n11⟩, -, X11, ⟨Lc11, hQ11, l11, y11, z11⟩, st11⟩ := X10.virtualBack hx (y := (⟨"java/util/Optional", "isPresent", "()Z"⟩ : MethodName)) (z := (⟨"java/util/Optional", "isPresent", "()Z"⟩ : MethodName)) hown (mvT hZ (hw _ (List.mem_of_getElem? (i := 50) rfl))) (mvT hZ (hw _ (List.mem_of_getElem? (i := 51) rfl))) (notFace_of_selects (args := #[]) (mvT hZ (hw _ (List.mem_of_getElem? (i := 53) rfl)))) (mvT hZ (hw _ (List.mem_of_getElem? (i := 53) rfl))) (mvT hZ (hw _ (List.mem_of_getElem? (i := 52) rfl))) (by decide) (backOf (W := 0) (rmIsp1 l Z a0 hw [] bo a_BIGINT h10 n0 (own_old_le O10) FC10_0) hZ (hw _ (List.mem_of_getElem? (i := 54) rfl)) (hw _ (List.mem_of_getElem? (i := 35) rfl)) (by decide) (by decide)) qa11 qc11 (g := (mkF m 107 #[.val (.int ua), .val (.int ub), .val (.int uc), .val (.int (0 : Int32)), .val (.ref a_INTEGER), .val (.int up), .val (.ref b8), .val (.ref bo), .unset, .unset] [(.ref bo)])) rfl (by rw [hml]; rfl) (Steps.refl _) (argsL := []) (rest := []) (lenOf pd_0___Z rfl) rfl (by show 2 * 0 + _ ≤ _; exact Nat.le_of_eq rfl) (hb hby at_107) (fun _ _ => ⟨rfl, e10, (by decide : 2 + 0 ≤ _), (by decide : 4 + 0 ≤ _)⟩)
        dsimp only [Pt.U, Pt.locs, Pt.cells, Pt.slots] at X11 l11 y11 z11 st11 hQ11
        subst l11 y11 z11
        obtain ⟨rfl, N11, e11⟩ := hQ11
        refine own_by (B := T11.setTop (mkF m 110 #[.val (.int ua), .val (.int ub), .val (.int uc), .val (.int (0 : Int32)), .val (.ref a_INTEGER), .val (.int up), .val (.ref b8), .val (.ref bo), .unset, .unset] [(.int (own_isp1 a_BIGINT))])) (fun _ k => st11.trans k) ?_
        have M11 := Fr.app N10 N11
        rw [show (own_isp1 a_BIGINT) = (1 : Int32) from rfl]
        refine own_by (B := T11.setTop (mkF m 115 #[.val (.int ua), .val (.int ub), .val (.int uc), .val (.int (0 : Int32)), .val (.ref a_INTEGER), .val (.int up), .val (.ref b8), .val (.ref bo), .unset, .unset] [])) (fun _ k => XS.ifYes X11.here hx rfl (pc0 := 110) (pc' := 115) rfl (hb hby at_110) rfl (XT.i0_ne_t (by decide)) (by decide) (by decide) k) ?_
        refine own_by (B := T11.setTop (mkF m 117 #[.val (.int ua), .val (.int ub), .val (.int uc), .val (.int (0 : Int32)), .val (.ref a_INTEGER), .val (.int up), .val (.ref b8), .val (.ref bo), .unset, .unset] [(.ref bo)])) (fun _ k => XS.aload X11.here hx rfl (hb hby at_115) rfl rfl  k) ?_
        obtain ⟨cq12, kq12, qa12, qb12, qc12⟩ := isOf hZ e11 EC10
        obtain ⟨_, _, ⟨T12, L12, k12, n12⟩, -, X12, ⟨Lc12, hQ12, l12, y12, z12⟩, st12⟩ := X11.virtualBack hx (y := (⟨"java/util/Optional", "get", "()Ljava/lang/Object;"⟩ : MethodName)) (z := (⟨"java/util/Optional", "get", "()Ljava/lang/Object;"⟩ : MethodName)) hown (mvT hZ (hw _ (List.mem_of_getElem? (i := 55) rfl))) (mvT hZ (hw _ (List.mem_of_getElem? (i := 56) rfl))) (notFace_of_selects (args := #[]) (mvT hZ (hw _ (List.mem_of_getElem? (i := 58) rfl)))) (mvT hZ (hw _ (List.mem_of_getElem? (i := 58) rfl))) (mvT hZ (hw _ (List.mem_of_getElem? (i := 57) rfl))) (by decide) (backOf (W := 0) (rmGet l Z a0 hw [] bo a_BIGINT h10 n0 (own_old_le O10) FC10_0) hZ (hw _ (List.mem_of_getElem? (i := 59) rfl)) (hw _ (List.mem_of_getElem? (i := 35) rfl)) (by decide) (by decide)) qa12 qc12 (g := (mkF m 117 #[.val (.int ua), .val (.int ub), .val (.int uc), .val (.int (0 : Int32)), .val (.ref a_INTEGER), .val (.int up), .val (.ref b8), .val (.ref bo), .unset, .unset] [(.ref bo)])) rfl (by rw [hml]; rfl) (Steps.refl _) (argsL := []) (rest := []) (lenOf pd_0___Ljava_lang_Object_ rfl) rfl (by show 2 * 0 + _ ≤ _; exact Nat.le_of_eq rfl) (hb hby at_117) (fun _ _ => ⟨rfl, e11, (by decide : 2 + 0 ≤ _), (by decide : 4 + 0 ≤ _)⟩)
        dsimp only [Pt.U, Pt.locs, Pt.cells, Pt.slots] at X12 l12 y12 z12 st12 hQ12
        subst l12 y12 z12
        obtain ⟨rfl, N12, e12⟩ := hQ12
        refine own_by (B := T12.setTop (mkF m 120 #[.val (.int ua), .val (.int ub), .val (.int uc), .val (.int (0 : Int32)), .val (.ref a_INTEGER), .val (.int up), .val (.ref b8), .val (.ref bo), .unset, .unset] [(.ref (own_get a_BIGINT))])) (fun _ k => st12.trans k) ?_
        have M12 := Fr.app M11 N12
        rw [show (own_get a_BIGINT) = a_BIGINT from rfl]
        obtain ⟨T13, X13, e13, st13⟩ := castY X12 hx hZ hown (hw _ (List.mem_of_getElem? (i := 5) rfl)) e12 (Ins.self (E_BIGINT.ext O10.2)) (g := (mkF m 120 #[.val (.int ua), .val (.int ub), .val (.int uc), .val (.int (0 : Int32)), .val (.ref a_INTEGER), .val (.int up), .val (.ref b8), .val (.ref bo), .unset, .unset] [(.ref a_BIGINT)])) rfl rfl (hb hby at_120)
        refine own_by (B := T13.setTop (mkF m 123 #[.val (.int ua), .val (.int ub), .val (.int uc), .val (.int (0 : Int32)), .val (.ref a_INTEGER), .val (.int up), .val (.ref b8), .val (.ref bo), .unset, .unset] [(.ref a_BIGINT)])) st13 ?_
        refine own_by (B := T13.setTop (mkF m 125 #[.val (.int ua), .val (.int ub), .val (.int uc), .val (.int (0 : Int32)), .val (.ref a_INTEGER), .val (.int up), .val (.ref b8), .val (.ref bo), .val (.ref a_BIGINT), .unset] [])) (fun _ k => XS.astore X13.here hx rfl (hb hby at_123) rfl rfl (l' := #[.val (.int ua), .val (.int ub), .val (.int uc), .val (.int (0 : Int32)), .val (.ref a_INTEGER), .val (.int up), .val (.ref b8), .val (.ref bo), .val (.ref a_BIGINT), .unset]) rfl k) ?_
        refine own_by (B := T13.setTop (mkF m 126 #[.val (.int ua), .val (.int ub), .val (.int uc), .val (.int (0 : Int32)), .val (.ref a_INTEGER), .val (.int up), .val (.ref b8), .val (.ref bo), .val (.ref a_BIGINT), .unset] [(.int (0 : Int32))])) (fun _ k => XS.iloadN X13.here hx rfl (hb hby at_125) rfl  k) ?_
        refine own_by (B := T13.setTop (mkF m 129 #[.val (.int ua), .val (.int ub), .val (.int uc), .val (.int (0 : Int32)), .val (.ref a_INTEGER), .val (.int up), .val (.ref b8), .val (.ref bo), .val (.ref a_BIGINT), .unset] [])) (fun _ k => XS.ifNo X13.here hx rfl (hb hby at_126) rfl (XT.i0_ne_f (by decide)) k) ?_
        refine own_by (B := T13.setTop (mkF m 131 #[.val (.int ua), .val (.int ub), .val (.int uc), .val (.int (0 : Int32)), .val (.ref a_INTEGER), .val (.int up), .val (.ref b8), .val (.ref bo), .val (.ref a_BIGINT), .unset] [(.int up)])) (fun _ k => XS.iload X13.here hx rfl (hb hby at_129) rfl  k) ?_
        refine own_by (B := T13.setTop (mkF m 133 #[.val (.int ua), .val (.int ub), .val (.int uc), .val (.int (0 : Int32)), .val (.ref a_INTEGER), .val (.int up), .val (.ref b8), .val (.ref bo), .val (.ref a_BIGINT), .unset] [(.int (18 : Int32)), (.int up)])) (fun _ k => XS.bipush X13.here hx rfl (hb hby at_131) k) ?_
        refine own_by (B := T13.setTop (mkF m 136 #[.val (.int ua), .val (.int ub), .val (.int uc), .val (.int (0 : Int32)), .val (.ref a_INTEGER), .val (.int up), .val (.ref b8), .val (.ref bo), .val (.ref a_BIGINT), .unset] [])) (fun _ k => XS.icmpNo X13.here hx rfl (hb hby at_133) rfl (XT.ii_gt_f (fun q => (own_18 up).mp q hs7)) k) ?_
        refine own_by (B := T13.setTop (mkF m 138 #[.val (.int ua), .val (.int ub), .val (.int uc), .val (.int (0 : Int32)), .val (.ref a_INTEGER), .val (.int up), .val (.ref b8), .val (.ref bo), .val (.ref a_BIGINT), .unset] [(.ref a_BIGINT)])) (fun _ k => XS.aload X13.here hx rfl (hb hby at_136) rfl rfl  k) ?_
        obtain ⟨cq14, kq14, qa14, qb14, qc14⟩ := isOf hZ e13 (E_BIGINT.ext O10.2)
        obtain ⟨_, _, ⟨T14, L14, k14, n14⟩, -, X14, ⟨Lc14, hQ14, l14, y14, z14⟩, st14⟩ := X13.virtualBack hx (y := (⟨"com/example/planwright/planwright/query/NumericType", "kind", "()Lcom/example/planwright/planwright/query/NumericKind;"⟩ : MethodName)) (z := (⟨"com/example/planwright/planwright/query/NumericType", "kind", "()Lcom/example/planwright/planwright/query/NumericKind;"⟩ : MethodName)) hown (mvT hZ (hw _ (List.mem_of_getElem? (i := 61) rfl))) (mvT hZ (hw _ (List.mem_of_getElem? (i := 62) rfl))) (notFace_of_selects (args := #[]) (mvT hZ (hw _ (List.mem_of_getElem? (i := 64) rfl)))) (mvT hZ (hw _ (List.mem_of_getElem? (i := 64) rfl))) (mvT hZ (hw _ (List.mem_of_getElem? (i := 63) rfl))) (by decide) (backOf (W := 0) (rmGk l Z a0 hw [] a_BIGINT a_INTEGER h10 n0 (own_old_le O10) (F_BIGINT_kind.ext O10.2)) hZ (hw _ (List.mem_of_getElem? (i := 65) rfl)) (hw _ (List.mem_of_getElem? (i := 7) rfl)) (by decide) (by decide)) qa14 qc14 (g := (mkF m 138 #[.val (.int ua), .val (.int ub), .val (.int uc), .val (.int (0 : Int32)), .val (.ref a_INTEGER), .val (.int up), .val (.ref b8), .val (.ref bo), .val (.ref a_BIGINT), .unset] [(.ref a_BIGINT)])) rfl (by rw [hml]; rfl) (Steps.refl _) (argsL := []) (rest := []) (lenOf pd_0___Lcom_example_planwright_planwright_query_NumericKind_ rfl) rfl (by show 2 * 0 + _ ≤ _; exact Nat.le_of_eq rfl) (hb hby at_138) (fun _ _ => ⟨rfl, e13, (by decide : 2 + 0 ≤ _), (by decide : 4 + 0 ≤ _)⟩)
        dsimp only [Pt.U, Pt.locs, Pt.cells, Pt.slots] at X14 l14 y14 z14 st14 hQ14
        subst l14 y14 z14
        obtain ⟨rfl, N14, e14⟩ := hQ14
        refine own_by (B := T14.setTop (mkF m 141 #[.val (.int ua), .val (.int ub), .val (.int uc), .val (.int (0 : Int32)), .val (.ref a_INTEGER), .val (.int up), .val (.ref b8), .val (.ref bo), .val (.ref a_BIGINT), .unset] [(.ref (own_gk a_INTEGER))])) (fun _ k => st14.trans k) ?_
        have M14 := Fr.app M12 N14
        rw [show (own_gk a_INTEGER) = a_INTEGER from rfl]
        obtain ⟨T15, X15, e15, st15⟩ := getS2 X14 hx hZ hown (host := "") (Or.inl (hw _ (List.mem_of_getElem? (i := 0) rfl))) Via.refl e14 (S_INTEGER.ext O10.2) (g := (mkF m 141 #[.val (.int ua), .val (.int ub), .val (.int uc), .val (.int (0 : Int32)), .val (.ref a_INTEGER), .val (.int up), .val (.ref b8), .val (.ref bo), .val (.ref a_BIGINT), .unset] [(.ref a_INTEGER)])) rfl (hb hby at_141)
        refine own_by (B := T15.setTop (mkF m 144 #[.val (.int ua), .val (.int ub), .val (.int uc), .val (.int (0 : Int32)), .val (.ref a_INTEGER), .val (.int up), .val (.ref b8), .val (.ref bo), .val (.ref a_BIGINT), .unset] [(.ref a_INTEGER), (.ref a_INTEGER)])) st15 ?_
        refine own_by (B := T15.setTop (mkF m 147 #[.val (.int ua), .val (.int ub), .val (.int uc), .val (.int (0 : Int32)), .val (.ref a_INTEGER), .val (.int up), .val (.ref b8), .val (.ref bo), .val (.ref a_BIGINT), .unset] [])) (fun _ k => XT.acmpNo X15.here hx rfl (hb hby at_144) rfl rfl rfl (XT.aa_ne_f rfl) k) ?_
        refine own_by (B := T15.setTop (mkF m 149 #[.val (.int ua), .val (.int ub), .val (.int uc), .val (.int (0 : Int32)), .val (.ref a_INTEGER), .val (.int up), .val (.ref b8), .val (.ref bo), .val (.ref a_BIGINT), .unset] [(.ref a_BIGINT)])) (fun _ k => XS.aload X15.here hx rfl (hb hby at_147) rfl rfl  k) ?_
        obtain ⟨cq16, kq16, qa16, qb16, qc16⟩ := isOf hZ e15 (E_BIGINT.ext O10.2)
        obtain ⟨_, _, ⟨T16, L16, k16, n16⟩, -, X16, ⟨Lc16, hQ16, l16, y16, z16⟩, st16⟩ := X15.virtualBack hx (y := (⟨"com/example/planwright/planwright/query/NumericType", "precision", "()I"⟩ : MethodName)) (z := (⟨"com/example/planwright/planwright/query/NumericType", "precision", "()I"⟩ : MethodName)) hown (mvT hZ (hw _ (List.mem_of_getElem? (i := 66) rfl))) (mvT hZ (hw _ (List.mem_of_getElem? (i := 67) rfl))) (notFace_of_selects (args := #[]) (mvT hZ (hw _ (List.mem_of_getElem? (i := 69) rfl)))) (mvT hZ (hw _ (List.mem_of_getElem? (i := 69) rfl))) (mvT hZ (hw _ (List.mem_of_getElem? (i := 68) rfl))) (by decide) (backOf (W := 0) (rmGp l Z a0 hw [] a_BIGINT (19 : Int32) h10 n0 (own_old_le O10) (F_BIGINT_precision.ext O10.2)) hZ (hw _ (List.mem_of_getElem? (i := 70) rfl)) (hw _ (List.mem_of_getElem? (i := 7) rfl)) (by decide) (by decide)) qa16 qc16 (g := (mkF m 149 #[.val (.int ua), .val (.int ub), .val (.int uc), .val (.int (0 : Int32)), .val (.ref a_INTEGER), .val (.int up), .val (.ref b8), .val (.ref bo), .val (.ref a_BIGINT), .unset] [(.ref a_BIGINT)])) rfl (by rw [hml]; rfl) (Steps.refl _) (argsL := []) (rest := []) (lenOf pd_0___I rfl) rfl (by show 2 * 0 + _ ≤ _; exact Nat.le_of_eq rfl) (hb hby at_149) (fun _ _ => ⟨rfl, e15, (by decide : 2 + 0 ≤ _), (by decide : 4 + 0 ≤ _)⟩)
        dsimp only [Pt.U, Pt.locs, Pt.cells, Pt.slots] at X16 l16 y16 z16 st16 hQ16
        subst l16 y16 z16
        obtain ⟨rfl, N16, e16⟩ := hQ16
        refine own_by (B := T16.setTop (mkF m 152 #[.val (.int ua), .val (.int ub), .val (.int uc), .val (.int (0 : Int32)), .val (.ref a_INTEGER), .val (.int up), .val (.ref b8), .val (.ref bo), .val (.ref a_BIGINT), .unset] [(.int (own_gp (19 : Int32)))])) (fun _ k => st16.trans k) ?_
        have M16 := Fr.app M14 N16
        rw [show (own_gp (19 : Int32)) = (19 : Int32) from rfl]
        refine own_by (B := T16.setTop (mkF m 154 #[.val (.int ua), .val (.int ub), .val (.int uc), .val (.int (0 : Int32)), .val (.ref a_INTEGER), .val (.int up), .val (.ref b8), .val (.ref bo), .val (.ref a_BIGINT), .unset] [(.int (19 : Int32)), (.int (19 : Int32))])) (fun _ k => XS.bipush X16.here hx rfl (hb hby at_152) k) ?_
        refine own_by (B := T16.setTop (mkF m 157 #[.val (.int ua), .val (.int ub), .val (.int uc), .val (.int (0 : Int32)), .val (.ref a_INTEGER), .val (.int up), .val (.ref b8), .val (.ref bo), .val (.ref a_BIGINT), .unset] [])) (fun _ k => XS.icmpNo X16.here hx rfl (hb hby at_154) rfl (XT.ii_ne_f (by decide)) k) ?_
        refine own_by (B := T16.setTop (mkF m 159 #[.val (.int ua), .val (.int ub), .val (.int uc), .val (.int (0 : Int32)), .val (.ref a_INTEGER), .val (.int up), .val (.ref b8), .val (.ref bo), .val (.ref a_BIGINT), .unset] [(.ref a_BIGINT)])) (fun _ k => XS.aload X16.here hx rfl (hb hby at_157) rfl rfl  k) ?_
        obtain ⟨cq17, kq17, qa17, qb17, qc17⟩ := isOf hZ e16 (E_BIGINT.ext O10.2)
        obtain ⟨_, _, ⟨T17, L17, k17, n17⟩, -, X17, ⟨Lc17, hQ17, l17, y17, z17⟩, st17⟩ := X16.virtualBack hx (y := (⟨"com/example/planwright/planwright/query/NumericType", "scale", "()I"⟩ : MethodName)) (z := (⟨"com/example/planwright/planwright/query/NumericType", "scale", "()I"⟩ : MethodName)) hown (mvT hZ (hw _ (List.mem_of_getElem? (i := 71) rfl))) (mvT hZ (hw _ (List.mem_of_getElem? (i := 72) rfl))) (notFace_of_selects (args := #[]) (mvT hZ (hw _ (List.mem_of_getElem? (i := 74) rfl)))) (mvT hZ (hw _ (List.mem_of_getElem? (i := 74) rfl))) (mvT hZ (hw _ (List.mem_of_getElem? (i := 73) rfl))) (by decide) (backOf (W := 0) (rmGs l Z a0 hw [] a_BIGINT (0 : Int32) h10 n0 (own_old_le O10) (F_BIGINT_scale.ext O10.2)) hZ (hw _ (List.mem_of_getElem? (i := 75) rfl)) (hw _ (List.mem_of_getElem? (i := 7) rfl)) (by decide) (by decide)) qa17 qc17 (g := (mkF m 159 #[.val (.int ua), .val (.int ub), .val (.int uc), .val (.int (0 : Int32)), .val (.ref a_INTEGER), .val (.int up), .val (.ref b8), .val (.ref bo), .val (.ref a_BIGINT), .unset] [(.ref a_BIGINT)])) rfl (by rw [hml]; rfl) (Steps.refl _) (argsL := []) (rest := []) (lenOf pd_0___I rfl) rfl (by show 2 * 0 + _ ≤ _; exact Nat.le_of_eq rfl) (hb hby at_159) (fun _ _ => ⟨rfl, e16, (by decide : 2 + 0 ≤ _), (by decide : 4 + 0 ≤ _)⟩)
        dsimp only [Pt.U, Pt.locs, Pt.cells, Pt.slots] at X17 l17 y17 z17 st17 hQ17
        subst l17 y17 z17
        obtain ⟨rfl, N17, e17⟩ := hQ17
        refine own_by (B := T17.setTop (mkF m 162 #[.val (.int ua), .val (.int ub), .val (.int uc), .val (.int (0 : Int32)), .val (.ref a_INTEGER), .val (.int up), .val (.ref b8), .val (.ref bo), .val (.ref a_BIGINT), .unset] [(.int (own_gs (0 : Int32)))])) (fun _ k => st17.trans k) ?_
        have M17 := Fr.app M16 N17
        rw [show (own_gs (0 : Int32)) = (0 : Int32) from rfl]
        refine own_by (B := T17.setTop (mkF m 165 #[.val (.int ua), .val (.int ub), .val (.int uc), .val (.int (0 : Int32)), .val (.ref a_INTEGER), .val (.int up), .val (.ref b8), .val (.ref bo), .val (.ref a_BIGINT), .unset] [])) (fun _ k => XS.ifNo X17.here hx rfl (hb hby at_162) rfl (XT.i0_ne_f (by decide)) k) ?_
        refine own_by (B := T17.setTop (mkF m 166 #[.val (.int ua), .val (.int ub), .val (.int uc), .val (.int (0 : Int32)), .val (.ref a_INTEGER), .val (.int up), .val (.ref b8), .val (.ref bo), .val (.ref a_BIGINT), .unset] [(.int (1 : Int32))])) (fun _ k => XS.iconst X17.here hx rfl (hb hby at_165) k) ?_
        refine own_by (B := T17.setTop (mkF m 170 #[.val (.int ua), .val (.int ub), .val (.int uc), .val (.int (0 : Int32)), .val (.ref a_INTEGER), .val (.int up), .val (.ref b8), .val (.ref bo), .val (.ref a_BIGINT), .unset] [(.int (1 : Int32))])) (fun _ k => XS.goto X17.here hx rfl (pc0 := 166) (pc' := 170) rfl (hb hby at_166) (by decide) (by decide) k) ?_
        exact own_retZ X17 hx hrt hlk rfl (hb hby at_170) (by decide) (by decide) ⟨rfl, M17⟩
      · refine own_by (B := T1.setTop (mkF m 65 #[.val (.int ua), .val (.int ub), .val (.int uc), .val (.int (0 : Int32)), .val (.ref a_INTEGER), .val (.int up), .unset, .unset, .unset, .unset] [])) (fun _ k => XS.istore X1.here hx rfl (hb hby at_63) rfl (l' := #[.val (.int ua), .val (.int ub), .val (.int uc), .val (.int (0 : Int32)), .val (.ref a_INTEGER), .val (.int up), .unset, .unset, .unset, .unset]) rfl k) ?_
        obtain ⟨T18, h18, X18, e18, E18, A18, D18, -, st18⟩ := newO X1 hx hZ hown (hw _ (List.mem_of_getElem? (i := 5) rfl)) (hw _ (List.mem_of_getElem? (i := 6) rfl)) (hw _ (List.mem_of_getElem? (i := 7) rfl)) e1 (g := (mkF m 65 #[.val (.int ua), .val (.int ub), .val (.int uc), .val (.int (0 : Int32)), .val (.ref a_INTEGER), .val (.int up), .unset, .unset, .unset, .unset] [])) rfl (hb hby at_65) (by decide) (by decide)
        obtain ⟨b18, g18⟩ : ∃ z, z = h0.size := ⟨_, rfl⟩
        rw [← g18] at A18 D18 st18
        have sz18 := E18.1
        have gn18 : n0 ≤ b18 := g18 ▸ own_old_le O0
        have fz18 : h0.size ≤ b18 := g18 ▸ K0.1
        have lt18 := A18.lt
        have O18 := O0.ext E18
        have K18 := K0.ext E18
        have F18_kind : Fld Z h18 b18 "com/example/planwright/planwright/query/NumericType" "kind" "Lcom/example/planwright/planwright/query/NumericKind;" .null := D18 (Or.inr (hw _ (List.mem_of_getElem? (i := 20) rfl))) (ty := (.object "com/example/planwright/planwright/query/NumericKind")) (by decide)
        have F18_precision : Fld Z h18 b18 "com/example/planwright/planwright/query/NumericType" "precision" "I" (.int (0 : Int32)) := D18 (Or.inr (hw _ (List.mem_of_getElem? (i := 22) rfl))) (ty := .int) (by decide)
        have F18_scale : Fld Z h18 b18 "com/example/planwright/planwright/query/NumericType" "scale" "I" (.int (0 : Int32)) := D18 (Or.inr (hw _ (List.mem_of_getElem? (i := 24) rfl))) (ty := .int) (by decide)
        refine own_by (B := T18.setTop (mkF m 68 #[.val (.int ua), .val (.int ub), .val (.int uc), .val (.int (0 : Int32)), .val (.ref a_INTEGER), .val (.int up), .unset, .unset, .unset, .unset] [(.ref b18)])) st18 ?_
        refine own_by (B := T18.setTop (mkF m 69 #[.val (.int ua), .val (.int ub), .val (.int uc), .val (.int (0 : Int32)), .val (.ref a_INTEGER), .val (.int up), .unset, .unset, .unset, .unset] [(.ref b18), (.ref b18)])) (fun _ k => XS.dup X18.here hx rfl (hb hby at_68) rfl rfl k) ?_
        refine own_by (B := T18.setTop (mkF m 71 #[.val (.int ua), .val (.int ub), .val (.int uc), .val (.int (0 : Int32)), .val (.ref a_INTEGER), .val (.int up), .unset, .unset, .unset, .unset] [(.ref a_INTEGER), (.ref b18), (.ref b18)])) (fun _ k => XS.aload X18.here hx rfl (hb hby at_69) rfl rfl  k) ?_
        refine own_by (B := T18.setTop (mkF m 73 #[.val (.int ua), .val (.int ub), .val (.int uc), .val (.int (0 : Int32)), .val (.ref a_INTEGER), .val (.int up), .unset, .unset, .unset, .unset] [(.int up), (.ref a_INTEGER), (.ref b18), (.ref b18)])) (fun _ k => XS.iload X18.here hx rfl (hb hby at_71) rfl  k) ?_
        refine own_by (B := T18.setTop (mkF m 74 #[.val (.int ua), .val (.int ub), .val (.int uc), .val (.int (0 : Int32)), .val (.ref a_INTEGER), .val (.int up), .unset, .unset, .unset, .unset] [(.int uc), (.int up), (.ref a_INTEGER), (.ref b18), (.ref b18)])) (fun _ k => XS.iloadN X18.here hx rfl (hb hby at_73) rfl  k) ?_
        obtain ⟨_, _, ⟨T19, L19, k19, n19⟩, -, X19, ⟨Lc19, hQ19, l19, y19, z19⟩, st19⟩ := X18.specialBack hx (y := (⟨"com/example/planwright/planwright/query/NumericType", "<init>", "(Lcom/example/planwright/planwright/query/NumericKind;II)V"⟩ : MethodName)) rfl hown (mvT hZ (hw _ (List.mem_of_getElem? (i := 8) rfl))) (mvT hZ (hw _ (List.mem_of_getElem? (i := 9) rfl))) (mvT hZ (hw _ (List.mem_of_getElem? (i := 10) rfl))) (by decide) (backOf (W := 1) (rmNT l Z a0 hw [] b18 a_INTEGER up uc h18 n0 (own_old_le O18) O18 A18 F18_kind F18_precision F18_scale gn18) hZ (hw _ (List.mem_of_getElem? (i := 10) rfl)) (hw _ (List.mem_of_getElem? (i := 7) rfl)) (by decide) (by decide)) (g := (mkF m 74 #[.val (.int ua), .val (.int ub), .val (.int uc), .val (.int (0 : Int32)), .val (.ref a_INTEGER), .val (.int up), .unset, .unset, .unset, .unset] [(.int uc), (.int up), (.ref a_INTEGER), (.ref b18), (.ref b18)])) rfl (by rw [hml]; rfl) (Steps.refl _) (a := b18) (argsL := [(.ref a_INTEGER), (.int up), (.int uc)]) (rest := [(.ref b18)]) (lenOf pd_0__Lcom_example_planwright_planwright_query_NumericKind_II_V rfl) rfl (by show 2 * 0 + _ ≤ _; exact Nat.le_of_eq rfl) (hb hby at_74) (fun _ _ => ⟨rfl, e18, (by decide : 1 + 0 ≤ _), (by decide : 3 + 0 ≤ _)⟩)
        dsimp only [Pt.U, Pt.locs, Pt.cells, Pt.slots] at X19 l19 y19 z19 st19 hQ19
        subst l19 y19 z19
        obtain ⟨rfl, NC19, KC19, EC19, FC19_0, FC19_1, FC19_2⟩ := hQ19
        refine own_by (B := T19.setTop (mkF m 77 #[.val (.int ua), .val (.int ub), .val (.int uc), .val (.int (0 : Int32)), .val (.ref a_INTEGER), .val (.int up), .unset, .unset, .unset, .unset] [(.ref b18)])) (fun _ k => st19.trans k) ?_
        obtain ⟨h19, e19⟩ : ∃ z, T19.heap = z := ⟨_, rfl⟩
        rw [e19] at KC19 EC19 FC19_0 FC19_1 FC19_2
        have sz19 := KC19.1
        have O19 := O18.keep KC19 (allS gn18 all0)
        have K19 := K18.trans KC19 (allS (Or.inr fz18) all0)
        have N19 := Fr.app N0 NC19
        refine own_by (B := T19.setTop (mkF m 79 #[.val (.int ua), .val (.int ub), .val (.int uc), .val (.int (0 : Int32)), .val (.ref a_INTEGER), .val (.int up), .val (.ref b18), .unset, .unset, .unset] [])) (fun _ k => XS.astore X19.here hx rfl (hb hby at_77) rfl rfl (l' := #[.val (.int ua), .val (.int ub), .val (.int uc), .val (.int (0 : Int32)), .val (.ref a_INTEGER), .val (.int up), .val (.ref b18), .unset, .unset, .unset]) rfl k) ?_
        refine own_by (B := T19.setTop (mkF m 81 #[.val (.int ua), .val (.int ub), .val (.int uc), .val (.int (0 : Int32)), .val (.ref a_INTEGER), .val (.int up), .val (.ref b18), .unset, .unset, .unset] [(.ref b18)])) (fun _ k => XS.aload X19.here hx rfl (hb hby at_79) rfl rfl  k) ?_
        obtain ⟨cq20, kq20, qa20, qb20, qc20⟩ := isOf hZ e19 EC19
        obtain ⟨_, _, ⟨T20, L20, k20, n20⟩, -, X20, ⟨Lc20, hQ20, l20, y20, z20⟩, st20⟩ := X19.virtualBack hx (y := (⟨"com/example/planwright/planwright/query/NumericType", "sum", "()Ljava/util/Optional;"⟩ : MethodName)) (z := (⟨"com/example/planwright/planwright/query/NumericType", "sum", "()Ljava/util/Optional;"⟩ : MethodName)) hown (mvT hZ (hw _ (List.mem_of_getElem? (i := 25) rfl))) (mvT hZ (hw _ (List.mem_of_getElem? (i := 26) rfl))) (notFace_of_selects (args := #[]) (mvT hZ (hw _ (List.mem_of_getElem? (i := 28) rfl)))) (mvT hZ (hw _ (List.mem_of_getElem? (i := 28) rfl))) (mvT hZ (hw _ (List.mem_of_getElem? (i := 27) rfl))) (by decide) (backOf (W := 0) (rmSumC l Z a0 hw [] a_INTEGER a_BIGINT a_DECIMAL a_OTHER a_APPROXIMATE a_EMPTY b18 a_INTEGER up uc h19 n0 (own_old_le O19) O19 HW EC19 FC19_0 FC19_1 FC19_2 hs2 rfl hs7) hZ (hw _ (List.mem_of_getElem? (i := 29) rfl)) (hw _ (List.mem_of_getElem? (i := 7) rfl)) (by decide) (by decide)) qa20 qc20 (g := (mkF m 81 #[.val (.int ua), .val (.int ub), .val (.int uc), .val (.int (0 : Int32)), .val (.ref a_INTEGER), .val (.int up), .val (.ref b18), .unset, .unset, .unset] [(.ref b18)])) rfl (by rw [hml]; rfl) (Steps.refl _) (argsL := []) (rest := []) (lenOf pd_0___Ljava_util_Optional_ rfl) rfl (by show 2 * 0 + _ ≤ _; exact Nat.le_of_eq rfl) (hb hby at_81) (fun _ _ => ⟨rfl, e19, (by decide : 1 + 2 ≤ _), (by decide : 3 + 4 ≤ _)⟩)
        dsimp only [Pt.U, Pt.locs, Pt.cells, Pt.slots] at X20 l20 y20 z20 st20 hQ20
        subst l20 y20 z20
        obtain ⟨bo, bd, rfl, NC20, KC20, hb20, EC20, FC20_0, hd20, ED20, FD20_0, FD20_1, FD20_2⟩ := hQ20
        refine own_by (B := T20.setTop (mkF m 84 #[.val (.int ua), .val (.int ub), .val (.int uc), .val (.int (0 : Int32)), .val (.ref a_INTEGER), .val (.int up), .val (.ref b18), .unset, .unset, .unset] [(.ref bo)])) (fun _ k => st20.trans k) ?_
        have gnbo : n0 ≤ bo := Nat.le_trans (own_old_le O19) hb20
        have fzbo : h0.size ≤ bo := Nat.le_trans K19.1 hb20
        have gnbd : n0 ≤ bd := Nat.le_trans (own_old_le O19) hd20
        have fzbd : h0.size ≤ bd := Nat.le_trans K19.1 hd20
        obtain ⟨h20, e20⟩ : ∃ z, T20.heap = z := ⟨_, rfl⟩
        rw [e20] at KC20 EC20 FC20_0 ED20 FD20_0 FD20_1 FD20_2
        have sz20 := KC20.1
        have O20 := O19.keep KC20 all0
        have K20 := K19.trans KC20 all0
        have N20 := Fr.app N19 NC20
        refine own_by (B := T20.setTop (mkF m 86 #[.val (.int ua), .val (.int ub), .val (.int uc), .val (.int (0 : Int32)), .val (.ref a_INTEGER), .val (.int up), .val (.ref b18), .val (.ref bo), .unset, .unset] [])) (fun _ k => XS.astore X20.here hx rfl (hb hby at_84) rfl rfl (l' := #[.val (.int ua), .val (.int ub), .val (.int uc), .val (.int (0 : Int32)), .val (.ref a_INTEGER), .val (.int up), .val (.ref b18), .val (.ref bo), .unset, .unset]) rfl k) ?_
        refine own_by (B := T20.setTop (mkF m 88 #[.val (.int ua), .val (.int ub), .val (.int uc), .val (.int (0 : Int32)), .val (.ref a_INTEGER), .val (.int up), .val (.ref b18), .val (.ref bo), .unset, .unset] [(.int up)])) (fun _ k => XS.iload X20.here hx rfl (hb hby at_86) rfl  k) ?_
        refine own_by (B := T20.setTop (mkF m 105 #[.val (.int ua), .val (.int ub), .val (.int uc), .val (.int (0 : Int32)), .val (.ref a_INTEGER), .val (.int up), .val (.ref b18), .val (.ref bo), .unset, .unset] [])) (fun _ k => XS.ifYes X20.here hx rfl (pc0 := 88) (pc' := 105) rfl (hb hby at_88) rfl (XT.i0_ne_t hs2) (by decide) (by decide) k) ?_
        refine own_by (B := T20.setTop (mkF m 107 #[.val (.int ua), .val (.int ub), .val (.int uc), .val (.int (0 : Int32)), .val (.ref a_INTEGER), .val (.int up), .val (.ref b18), .val (.ref bo), .unset, .unset] [(.ref bo)])) (fun _ k => XS.aload X20.here hx rfl (hb hby at_105) rfl rfl  k) ?_
        obtain ⟨cq21, kq21, qa21, qb21, qc21⟩ := isOf hZ e20 EC20
        obtain ⟨_, _, ⟨T21, L21, k21, n21⟩, -, X21, ⟨Lc21, hQ21, l21, y21, z21⟩, st21⟩ := X20.virtualBack hx (y := (⟨"java/util/Optional", "isPresent", "()Z"⟩ : MethodName)) (z := (⟨"java/util/Optional", "isPresent", "()Z"⟩ : MethodName)) hown (mvT hZ (hw _ (List.mem_of_getElem? (i := 50) rfl))) (mvT hZ (hw _ (List.mem_of_getElem? (i := 51) rfl))) (notFace_of_selects (args := #[]) (mvT hZ (hw _ (List.mem_of_getElem? (i := 53) rfl)))) (mvT hZ (hw _ (List.mem_of_getElem? (i := 53) rfl))) (mvT hZ (hw _ (List.mem_of_getElem? (i := 52) rfl))) (by decide) (backOf (W := 0) (rmIsp1 l Z a0 hw [] bo bd h20 n0 (own_old_le O20) FC20_0) hZ (hw _ (List.mem_of_getElem? (i := 54) rfl)) (hw _ (List.mem_of_getElem? (i := 35) rfl)) (by decide) (by decide)) qa21 qc21 (g := (mkF m 107 #[.val (.int ua), .val (.int ub), .val (.int uc), .val (.int (0 : Int32)), .val (.ref a_INTEGER), .val (.int up), .val (.ref b18), .val (.ref bo), .unset, .unset] [(.ref bo)])) rfl (by rw [hml]; rfl) (Steps.refl _) (argsL := []) (rest := []) (lenOf pd_0___Z rfl) rfl (by show 2 * 0 + _ ≤ _; exact Nat.le_of_eq rfl) (hb hby at_107) (fun _ _ => ⟨rfl, e20, (by decide : 3 + 0 ≤ _), (by decide : 7 + 0 ≤ _)⟩)
        dsimp only [Pt.U, Pt.locs, Pt.cells, Pt.slots] at X21 l21 y21 z21 st21 hQ21
        subst l21 y21 z21
        obtain ⟨rfl, N21, e21⟩ := hQ21
        refine own_by (B := T21.setTop (mkF m 110 #[.val (.int ua), .val (.int ub), .val (.int uc), .val (.int (0 : Int32)), .val (.ref a_INTEGER), .val (.int up), .val (.ref b18), .val (.ref bo), .unset, .unset] [(.int (own_isp1 bd))])) (fun _ k => st21.trans k) ?_
        have M21 := Fr.app N20 N21
        rw [show (own_isp1 bd) = (1 : Int32) from rfl]
        refine own_by (B := T21.setTop (mkF m 115 #[.val (.int ua), .val (.int ub), .val (.int uc), .val (.int (0 : Int32)), .val (.ref a_INTEGER), .val (.int up), .val (.ref b18), .val (.ref bo), .unset, .unset] [])) (fun _ k => XS.ifYes X21.here hx rfl (pc0 := 110) (pc' := 115) rfl (hb hby at_110) rfl (XT.i0_ne_t (by decide)) (by decide) (by decide) k) ?_
        refine own_by (B := T21.setTop (mkF m 117 #[.val (.int ua), .val (.int ub), .val (.int uc), .val (.int (0 : Int32)), .val (.ref a_INTEGER), .val (.int up), .val (.ref b18), .val (.ref bo), .unset, .unset] [(.ref bo)])) (fun _ k => XS.aload X21.here hx rfl (hb hby at_115) rfl rfl  k) ?_
        obtain ⟨cq22, kq22, qa22, qb22, qc22⟩ := isOf hZ e21 EC20
        obtain ⟨_, _, ⟨T22, L22, k22, n22⟩, -, X22, ⟨Lc22, hQ22, l22, y22, z22⟩, st22⟩ := X21.virtualBack hx (y := (⟨"java/util/Optional", "get", "()Ljava/lang/Object;"⟩ : MethodName)) (z := (⟨"java/util/Optional", "get", "()Ljava/lang/Object;"⟩ : MethodName)) hown (mvT hZ (hw _ (List.mem_of_getElem? (i := 55) rfl))) (mvT hZ (hw _ (List.mem_of_getElem? (i := 56) rfl))) (notFace_of_selects (args := #[]) (mvT hZ (hw _ (List.mem_of_getElem? (i := 58) rfl)))) (mvT hZ (hw _ (List.mem_of_getElem? (i := 58) rfl))) (mvT hZ (hw _ (List.mem_of_getElem? (i := 57) rfl))) (by decide) (backOf (W := 0) (rmGet l Z a0 hw [] bo bd h20 n0 (own_old_le O20) FC20_0) hZ (hw _ (List.mem_of_getElem? (i := 59) rfl)) (hw _ (List.mem_of_getElem? (i := 35) rfl)) (by decide) (by decide)) qa22 qc22 (g := (mkF m 117 #[.val (.int ua), .val (.int ub), .val (.int uc), .val (.int (0 : Int32)), .val (.ref a_INTEGER), .val (.int up), .val (.ref b18), .val (.ref bo), .unset, .unset] [(.ref bo)])) rfl (by rw [hml]; rfl) (Steps.refl _) (argsL := []) (rest := []) (lenOf pd_0___Ljava_lang_Object_ rfl) rfl (by show 2 * 0 + _ ≤ _; exact Nat.le_of_eq rfl) (hb hby at_117) (fun _ _ => ⟨rfl, e21, (by decide : 3 + 0 ≤ _), (by decide : 7 + 0 ≤ _)⟩)
        dsimp only [Pt.U, Pt.locs, Pt.cells, Pt.slots] at X22 l22 y22 z22 st22 hQ22
        subst l22 y22 z22
        obtain ⟨rfl, N22, e22⟩ := hQ22
        refine own_by (B := T22.setTop (mkF m 120 #[.val (.int ua), .val (.int ub), .val (.int uc), .val (.int (0 : Int32)), .val (.ref a_INTEGER), .val (.int up), .val (.ref b18), .val (.ref bo), .unset, .unset] [(.ref (own_get bd))])) (fun _ k => st22.trans k) ?_
        have M22 := Fr.app M21 N22
        rw [show (own_get bd) = bd from rfl]
        obtain ⟨T23, X23, e23, st23⟩ := castY X22 hx hZ hown (hw _ (List.mem_of_getElem? (i := 5) rfl)) e22 (Ins.self ED20) (g := (mkF m 120 #[.val (.int ua), .val (.int ub), .val (.int uc), .val (.int (0 : Int32)), .val (.ref a_INTEGER), .val (.int up), .val (.ref b18), .val (.ref bo), .unset, .unset] [(.ref bd)])) rfl rfl (hb hby at_120)
        refine own_by (B := T23.setTop (mkF m 123 #[.val (.int ua), .val (.int ub), .val (.int uc), .val (.int (0 : Int32)), .val (.ref a_INTEGER), .val (.int up), .val (.ref b18), .val (.ref bo), .unset, .unset] [(.ref bd)])) st23 ?_
        refine own_by (B := T23.setTop (mkF m 125 #[.val (.int ua), .val (.int ub), .val (.int uc), .val (.int (0 : Int32)), .val (.ref a_INTEGER), .val (.int up), .val (.ref b18), .val (.ref bo), .val (.ref bd), .unset] [])) (fun _ k => XS.astore X23.here hx rfl (hb hby at_123) rfl rfl (l' := #[.val (.int ua), .val (.int ub), .val (.int uc), .val (.int (0 : Int32)), .val (.ref a_INTEGER), .val (.int up), .val (.ref b18), .val (.ref bo), .val (.ref bd), .unset]) rfl k) ?_
        refine own_by (B := T23.setTop (mkF m 126 #[.val (.int ua), .val (.int ub), .val (.int uc), .val (.int (0 : Int32)), .val (.ref a_INTEGER), .val (.int up), .val (.ref b18), .val (.ref bo), .val (.ref bd), .unset] [(.int (0 : Int32))])) (fun _ k => XS.iloadN X23.here hx rfl (hb hby at_125) rfl  k) ?_
        refine own_by (B := T23.setTop (mkF m 129 #[.val (.int ua), .val (.int ub), .val (.int uc), .val (.int (0 : Int32)), .val (.ref a_INTEGER), .val (.int up), .val (.ref b18), .val (.ref bo), .val (.ref bd), .unset] [])) (fun _ k => XS.ifNo X23.here hx rfl (hb hby at_126) rfl (XT.i0_ne_f (by decide)) k) ?_
        refine own_by (B := T23.setTop (mkF m 131 #[.val (.int ua), .val (.int ub), .val (.int uc), .val (.int (0 : Int32)), .val (.ref a_INTEGER), .val (.int up), .val (.ref b18), .val (.ref bo), .val (.ref bd), .unset] [(.int up)])) (fun _ k => XS.iload X23.here hx rfl (hb hby at_129) rfl  k) ?_
        refine own_by (B := T23.setTop (mkF m 133 #[.val (.int ua), .val (.int ub), .val (.int uc), .val (.int (0 : Int32)), .val (.ref a_INTEGER), .val (.int up), .val (.ref b18), .val (.ref bo), .val (.ref bd), .unset] [(.int (18 : Int32)), (.int up)])) (fun _ k => XS.bipush X23.here hx rfl (hb hby at_131) k) ?_
        refine own_by (B := T23.setTop (mkF m 171 #[.val (.int ua), .val (.int ub), .val (.int uc), .val (.int (0 : Int32)), .val (.ref a_INTEGER), .val (.int up), .val (.ref b18), .val (.ref bo), .val (.ref bd), .unset] [])) (fun _ k => XS.icmpYes X23.here hx rfl (pc0 := 133) (pc' := 171) rfl (hb hby at_133) rfl (XT.ii_gt_t ((own_18 up).mpr hs7)) (by decide) (by decide) k) ?_
        refine own_by (B := T23.setTop (mkF m 173 #[.val (.int ua), .val (.int ub), .val (.int uc), .val (.int (0 : Int32)), .val (.ref a_INTEGER), .val (.int up), .val (.ref b18), .val (.ref bo), .val (.ref bd), .unset] [(.int up)])) (fun _ k => XS.iload X23.here hx rfl (hb hby at_171) rfl  k) ?_
        refine own_by (B := T23.setTop (mkF m 175 #[.val (.int ua), .val (.int ub), .val (.int uc), .val (.int (0 : Int32)), .val (.ref a_INTEGER), .val (.int up), .val (.ref b18), .val (.ref bo), .val (.ref bd), .unset] [(.int (99990 : Int32)), (.int up)])) (fun _ k => X23.ldcI (g := (mkF m 173 #[.val (.int ua), .val (.int ub), .val (.int uc), .val (.int (0 : Int32)), .val (.ref a_INTEGER), .val (.int up), .val (.ref b18), .val (.ref bo), .val (.ref bd), .unset] [(.int up)])) hx hown (mvT hZ (hw _ (List.mem_of_getElem? (i := 93) rfl))) rfl (hb hby at_173) k) ?_
        obtain ⟨mv24, hmv24⟩ : ∃ z : Int32, z = if (99990 : Int32) < up then (100000 : Int32) else (up + (10 : Int32)) := ⟨_, rfl⟩
        suffices hj25 : own_Go p.tables e below (own_K s below (own_Q0 n0) 16 128) (T23.setTop (mkF m 188 #[.val (.int ua), .val (.int ub), .val (.int uc), .val (.int (0 : Int32)), .val (.ref a_INTEGER), .val (.int up), .val (.ref b18), .val (.ref bo), .val (.ref bd), .unset] [(.int mv24)])) by
          by_cases hc26 : (99990 : Int32) < up
          · refine own_by (B := T23.setTop (mkF m 186 #[.val (.int ua), .val (.int ub), .val (.int uc), .val (.int (0 : Int32)), .val (.ref a_INTEGER), .val (.int up), .val (.ref b18), .val (.ref bo), .val (.ref bd), .unset] [])) (fun _ k => XS.icmpYes X23.here hx rfl (pc0 := 175) (pc' := 186) rfl (hb hby at_175) rfl (XT.ii_gt_t hc26) (by decide) (by decide) k) ?_
            refine own_by (B := T23.setTop (mkF m 188 #[.val (.int ua), .val (.int ub), .val (.int uc), .val (.int (0 : Int32)), .val (.ref a_INTEGER), .val (.int up), .val (.ref b18), .val (.ref bo), .val (.ref bd), .unset] [(.int (100000 : Int32))])) (fun _ k => X23.ldcI (g := (mkF m 186 #[.val (.int ua), .val (.int ub), .val (.int uc), .val (.int (0 : Int32)), .val (.ref a_INTEGER), .val (.int up), .val (.ref b18), .val (.ref bo), .val (.ref bd), .unset] [])) hx hown (mvT hZ (hw _ (List.mem_of_getElem? (i := 102) rfl))) rfl (hb hby at_186) k) ?_
            rw [show mv24 = (100000 : Int32) from hmv24.trans (((if_pos hc26).trans rfl))] at hj25
            exact hj25
          · refine own_by (B := T23.setTop (mkF m 178 #[.val (.int ua), .val (.int ub), .val (.int uc), .val (.int (0 : Int32)), .val (.ref a_INTEGER), .val (.int up), .val (.ref b18), .val (.ref bo), .val (.ref bd), .unset] [])) (fun _ k => XS.icmpNo X23.here hx rfl (hb hby at_175) rfl (XT.ii_gt_f hc26) k) ?_
            refine own_by (B := T23.setTop (mkF m 180 #[.val (.int ua), .val (.int ub), .val (.int uc), .val (.int (0 : Int32)), .val (.ref a_INTEGER), .val (.int up), .val (.ref b18), .val (.ref bo), .val (.ref bd), .unset] [(.int up)])) (fun _ k => XS.iload X23.here hx rfl (hb hby at_178) rfl  k) ?_
            refine own_by (B := T23.setTop (mkF m 182 #[.val (.int ua), .val (.int ub), .val (.int uc), .val (.int (0 : Int32)), .val (.ref a_INTEGER), .val (.int up), .val (.ref b18), .val (.ref bo), .val (.ref bd), .unset] [(.int (10 : Int32)), (.int up)])) (fun _ k => XS.bipush X23.here hx rfl (hb hby at_180) k) ?_
            refine own_by (B := T23.setTop (mkF m 183 #[.val (.int ua), .val (.int ub), .val (.int uc), .val (.int (0 : Int32)), .val (.ref a_INTEGER), .val (.int up), .val (.ref b18), .val (.ref bo), .val (.ref bd), .unset] [(.int (up + (10 : Int32)))])) (fun _ k => XS.iadd X23.here hx rfl (hb hby at_182) rfl k) ?_
            refine own_by (B := T23.setTop (mkF m 188 #[.val (.int ua), .val (.int ub), .val (.int uc), .val (.int (0 : Int32)), .val (.ref a_INTEGER), .val (.int up), .val (.ref b18), .val (.ref bo), .val (.ref bd), .unset] [(.int (up + (10 : Int32)))])) (fun _ k => XS.goto X23.here hx rfl (pc0 := 183) (pc' := 188) rfl (hb hby at_183) (by decide) (by decide) k) ?_
            rw [show mv24 = (up + (10 : Int32)) from hmv24.trans (((if_neg hc26).trans rfl))] at hj25
            exact hj25
        refine own_by (B := T23.setTop (mkF m 190 #[.val (.int ua), .val (.int ub), .val (.int uc), .val (.int (0 : Int32)), .val (.ref a_INTEGER), .val (.int up), .val (.ref b18), .val (.ref bo), .val (.ref bd), .val (.int mv24)] [])) (fun _ k => XS.istore X23.here hx rfl (hb hby at_188) rfl (l' := #[.val (.int ua), .val (.int ub), .val (.int uc), .val (.int (0 : Int32)), .val (.ref a_INTEGER), .val (.int up), .val (.ref b18), .val (.ref bo), .val (.ref bd), .val (.int mv24)]) rfl k) ?_
        refine own_by (B := T23.setTop (mkF m 192 #[.val (.int ua), .val (.int ub), .val (.int uc), .val (.int (0 : Int32)), .val (.ref a_INTEGER), .val (.int up), .val (.ref b18), .val (.ref bo), .val (.ref bd), .val (.int mv24)] [(.ref bd)])) (fun _ k => XS.aload X23.here hx rfl (hb hby at_190) rfl rfl  k) ?_
        obtain ⟨cq27, kq27, qa27, qb27, qc27⟩ := isOf hZ e23 ED20
        obtain ⟨_, _, ⟨T27, L27, k27, n27⟩, -, X27, ⟨Lc27, hQ27, l27, y27, z27⟩, st27⟩ := X23.virtualBack hx (y := (⟨"com/example/planwright/planwright/query/NumericType", "kind", "()Lcom/example/planwright/planwright/query/NumericKind;"⟩ : MethodName)) (z := (⟨"com/example/planwright/planwright/query/NumericType", "kind", "()Lcom/example/planwright/planwright/query/NumericKind;"⟩ : MethodName)) hown (mvT hZ (hw _ (List.mem_of_getElem? (i := 61) rfl))) (mvT hZ (hw _ (List.mem_of_getElem? (i := 62) rfl))) (notFace_of_selects (args := #[]) (mvT hZ (hw _ (List.mem_of_getElem? (i := 64) rfl)))) (mvT hZ (hw _ (List.mem_of_getElem? (i := 64) rfl))) (mvT hZ (hw _ (List.mem_of_getElem? (i := 63) rfl))) (by decide) (backOf (W := 0) (rmGk l Z a0 hw [] bd a_DECIMAL h20 n0 (own_old_le O20) FD20_0) hZ (hw _ (List.mem_of_getElem? (i := 65) rfl)) (hw _ (List.mem_of_getElem? (i := 7) rfl)) (by decide) (by decide)) qa27 qc27 (g := (mkF m 192 #[.val (.int ua), .val (.int ub), .val (.int uc), .val (.int (0 : Int32)), .val (.ref a_INTEGER), .val (.int up), .val (.ref b18), .val (.ref bo), .val (.ref bd), .val (.int mv24)] [(.ref bd)])) rfl (by rw [hml]; rfl) (Steps.refl _) (argsL := []) (rest := []) (lenOf pd_0___Lcom_example_planwright_planwright_query_NumericKind_ rfl) rfl (by show 2 * 0 + _ ≤ _; exact Nat.le_of_eq rfl) (hb hby at_192) (fun _ _ => ⟨rfl, e23, (by decide : 3 + 0 ≤ _), (by decide : 7 + 0 ≤ _)⟩)
        dsimp only [Pt.U, Pt.locs, Pt.cells, Pt.slots] at X27 l27 y27 z27 st27 hQ27
        subst l27 y27 z27
        obtain ⟨rfl, N27, e27⟩ := hQ27
        refine own_by (B := T27.setTop (mkF m 195 #[.val (.int ua), .val (.int ub), .val (.int uc), .val (.int (0 : Int32)), .val (.ref a_INTEGER), .val (.int up), .val (.ref b18), .val (.ref bo), .val (.ref bd), .val (.int mv24)] [(.ref (own_gk a_DECIMAL))])) (fun _ k => st27.trans k) ?_
        have M27 := Fr.app M22 N27
        rw [show (own_gk a_DECIMAL) = a_DECIMAL from rfl]
        obtain ⟨T28, X28, e28, st28⟩ := getS2 X27 hx hZ hown (host := "") (Or.inl (hw _ (List.mem_of_getElem? (i := 76) rfl))) Via.refl e27 (S_DECIMAL.ext O20.2) (g := (mkF m 195 #[.val (.int ua), .val (.int ub), .val (.int uc), .val (.int (0 : Int32)), .val (.ref a_INTEGER), .val (.int up), .val (.ref b18), .val (.ref bo), .val (.ref bd), .val (.int mv24)] [(.ref a_DECIMAL)])) rfl (hb hby at_195)
        refine own_by (B := T28.setTop (mkF m 198 #[.val (.int ua), .val (.int ub), .val (.int uc), .val (.int (0 : Int32)), .val (.ref a_INTEGER), .val (.int up), .val (.ref b18), .val (.ref bo), .val (.ref bd), .val (.int mv24)] [(.ref a_DECIMAL), (.ref a_DECIMAL)])) st28 ?_
        refine own_by (B := T28.setTop (mkF m 201 #[.val (.int ua), .val (.int ub), .val (.int uc), .val (.int (0 : Int32)), .val (.ref a_INTEGER), .val (.int up), .val (.ref b18), .val (.ref bo), .val (.ref bd), .val (.int mv24)] [])) (fun _ k => XT.acmpNo X28.here hx rfl (hb hby at_198) rfl rfl rfl (XT.aa_ne_f rfl) k) ?_
        refine own_by (B := T28.setTop (mkF m 203 #[.val (.int ua), .val (.int ub), .val (.int uc), .val (.int (0 : Int32)), .val (.ref a_INTEGER), .val (.int up), .val (.ref b18), .val (.ref bo), .val (.ref bd), .val (.int mv24)] [(.ref bd)])) (fun _ k => XS.aload X28.here hx rfl (hb hby at_201) rfl rfl  k) ?_
        obtain ⟨cq29, kq29, qa29, qb29, qc29⟩ := isOf hZ e28 ED20
        obtain ⟨_, _, ⟨T29, L29, k29, n29⟩, -, X29, ⟨Lc29, hQ29, l29, y29, z29⟩, st29⟩ := X28.virtualBack hx (y := (⟨"com/example/planwright/planwright/query/NumericType", "precision", "()I"⟩ : MethodName)) (z := (⟨"com/example/planwright/planwright/query/NumericType", "precision", "()I"⟩ : MethodName)) hown (mvT hZ (hw _ (List.mem_of_getElem? (i := 66) rfl))) (mvT hZ (hw _ (List.mem_of_getElem? (i := 67) rfl))) (notFace_of_selects (args := #[]) (mvT hZ (hw _ (List.mem_of_getElem? (i := 69) rfl)))) (mvT hZ (hw _ (List.mem_of_getElem? (i := 69) rfl))) (mvT hZ (hw _ (List.mem_of_getElem? (i := 68) rfl))) (by decide) (backOf (W := 0) (rmGp l Z a0 hw [] bd (own_min (up + (10 : Int32)) (100000 : Int32)) h20 n0 (own_old_le O20) FD20_1) hZ (hw _ (List.mem_of_getElem? (i := 70) rfl)) (hw _ (List.mem_of_getElem? (i := 7) rfl)) (by decide) (by decide)) qa29 qc29 (g := (mkF m 203 #[.val (.int ua), .val (.int ub), .val (.int uc), .val (.int (0 : Int32)), .val (.ref a_INTEGER), .val (.int up), .val (.ref b18), .val (.ref bo), .val (.ref bd), .val (.int mv24)] [(.ref bd)])) rfl (by rw [hml]; rfl) (Steps.refl _) (argsL := []) (rest := []) (lenOf pd_0___I rfl) rfl (by show 2 * 0 + _ ≤ _; exact Nat.le_of_eq rfl) (hb hby at_203) (fun _ _ => ⟨rfl, e28, (by decide : 3 + 0 ≤ _), (by decide : 7 + 0 ≤ _)⟩)
        dsimp only [Pt.U, Pt.locs, Pt.cells, Pt.slots] at X29 l29 y29 z29 st29 hQ29
        subst l29 y29 z29
        obtain ⟨rfl, N29, e29⟩ := hQ29
        refine own_by (B := T29.setTop (mkF m 206 #[.val (.int ua), .val (.int ub), .val (.int uc), .val (.int (0 : Int32)), .val (.ref a_INTEGER), .val (.int up), .val (.ref b18), .val (.ref bo), .val (.ref bd), .val (.int mv24)] [(.int (own_gp (own_min (up + (10 : Int32)) (100000 : Int32))))])) (fun _ k => st29.trans k) ?_
        have M29 := Fr.app M27 N29
        rw [show (own_gp (own_min (up + (10 : Int32)) (100000 : Int32))) = (own_min (up + (10 : Int32)) (100000 : Int32)) from rfl]
        refine own_by (B := T29.setTop (mkF m 208 #[.val (.int ua), .val (.int ub), .val (.int uc), .val (.int (0 : Int32)), .val (.ref a_INTEGER), .val (.int up), .val (.ref b18), .val (.ref bo), .val (.ref bd), .val (.int mv24)] [(.int mv24), (.int (own_min (up + (10 : Int32)) (100000 : Int32)))])) (fun _ k => XS.iload X29.here hx rfl (hb hby at_206) rfl  k) ?_
        refine own_by (B := T29.setTop (mkF m 211 #[.val (.int ua), .val (.int ub), .val (.int uc), .val (.int (0 : Int32)), .val (.ref a_INTEGER), .val (.int up), .val (.ref b18), .val (.ref bo), .val (.ref bd), .val (.int mv24)] [])) (fun _ k => XS.icmpNo X29.here hx rfl (hb hby at_208) rfl (XT.ii_ne_f (own_exp hup0 hup1 hmv24)) k) ?_
        refine own_by (B := T29.setTop (mkF m 213 #[.val (.int ua), .val (.int ub), .val (.int uc), .val (.int (0 : Int32)), .val (.ref a_INTEGER), .val (.int up), .val (.ref b18), .val (.ref bo), .val (.ref bd), .val (.int mv24)] [(.ref bd)])) (fun _ k => XS.aload X29.here hx rfl (hb hby at_211) rfl rfl  k) ?_
        obtain ⟨cq30, kq30, qa30, qb30, qc30⟩ := isOf hZ e29 ED20
        obtain ⟨_, _, ⟨T30, L30, k30, n30⟩, -, X30, ⟨Lc30, hQ30, l30, y30, z30⟩, st30⟩ := X29.virtualBack hx (y := (⟨"com/example/planwright/planwright/query/NumericType", "scale", "()I"⟩ : MethodName)) (z := (⟨"com/example/planwright/planwright/query/NumericType", "scale", "()I"⟩ : MethodName)) hown (mvT hZ (hw _ (List.mem_of_getElem? (i := 71) rfl))) (mvT hZ (hw _ (List.mem_of_getElem? (i := 72) rfl))) (notFace_of_selects (args := #[]) (mvT hZ (hw _ (List.mem_of_getElem? (i := 74) rfl)))) (mvT hZ (hw _ (List.mem_of_getElem? (i := 74) rfl))) (mvT hZ (hw _ (List.mem_of_getElem? (i := 73) rfl))) (by decide) (backOf (W := 0) (rmGs l Z a0 hw [] bd uc h20 n0 (own_old_le O20) FD20_2) hZ (hw _ (List.mem_of_getElem? (i := 75) rfl)) (hw _ (List.mem_of_getElem? (i := 7) rfl)) (by decide) (by decide)) qa30 qc30 (g := (mkF m 213 #[.val (.int ua), .val (.int ub), .val (.int uc), .val (.int (0 : Int32)), .val (.ref a_INTEGER), .val (.int up), .val (.ref b18), .val (.ref bo), .val (.ref bd), .val (.int mv24)] [(.ref bd)])) rfl (by rw [hml]; rfl) (Steps.refl _) (argsL := []) (rest := []) (lenOf pd_0___I rfl) rfl (by show 2 * 0 + _ ≤ _; exact Nat.le_of_eq rfl) (hb hby at_213) (fun _ _ => ⟨rfl, e29, (by decide : 3 + 0 ≤ _), (by decide : 7 + 0 ≤ _)⟩)
        dsimp only [Pt.U, Pt.locs, Pt.cells, Pt.slots] at X30 l30 y30 z30 st30 hQ30
        subst l30 y30 z30
        obtain ⟨rfl, N30, e30⟩ := hQ30
        refine own_by (B := T30.setTop (mkF m 216 #[.val (.int ua), .val (.int ub), .val (.int uc), .val (.int (0 : Int32)), .val (.ref a_INTEGER), .val (.int up), .val (.ref b18), .val (.ref bo), .val (.ref bd), .val (.int mv24)] [(.int (own_gs uc))])) (fun _ k => st30.trans k) ?_
        have M30 := Fr.app M29 N30
        rw [show (own_gs uc) = uc from rfl]
        refine own_by (B := T30.setTop (mkF m 217 #[.val (.int ua), .val (.int ub), .val (.int uc), .val (.int (0 : Int32)), .val (.ref a_INTEGER), .val (.int up), .val (.ref b18), .val (.ref bo), .val (.ref bd), .val (.int mv24)] [(.int uc), (.int uc)])) (fun _ k => XS.iloadN X30.here hx rfl (hb hby at_216) rfl  k) ?_
        refine own_by (B := T30.setTop (mkF m 220 #[.val (.int ua), .val (.int ub), .val (.int uc), .val (.int (0 : Int32)), .val (.ref a_INTEGER), .val (.int up), .val (.ref b18), .val (.ref bo), .val (.ref bd), .val (.int mv24)] [])) (fun _ k => XS.icmpNo X30.here hx rfl (hb hby at_217) rfl (XT.ii_ne_f rfl) k) ?_
        refine own_by (B := T30.setTop (mkF m 221 #[.val (.int ua), .val (.int ub), .val (.int uc), .val (.int (0 : Int32)), .val (.ref a_INTEGER), .val (.int up), .val (.ref b18), .val (.ref bo), .val (.ref bd), .val (.int mv24)] [(.int (1 : Int32))])) (fun _ k => XS.iconst X30.here hx rfl (hb hby at_220) k) ?_
        refine own_by (B := T30.setTop (mkF m 225 #[.val (.int ua), .val (.int ub), .val (.int uc), .val (.int (0 : Int32)), .val (.ref a_INTEGER), .val (.int up), .val (.ref b18), .val (.ref bo), .val (.ref bd), .val (.int mv24)] [(.int (1 : Int32))])) (fun _ k => XS.goto X30.here hx rfl (pc0 := 221) (pc' := 225) rfl (hb hby at_221) (by decide) (by decide) k) ?_
        exact own_retZ X30 hx hrt hlk rfl (hb hby at_225) (by decide) (by decide) ⟨rfl, M30⟩
  · refine own_by (B := s₁.setTop (mkF m 5 #[.val (.int ua), .val (.int ub), .val (.int uc), .val (.int (1 : Int32)), .unset, .unset, .unset, .unset, .unset, .unset] [(.int (1 : Int32))])) (fun _ k => XS.iloadN X0.here hx rfl (hb hby at_4) rfl  k) ?_
    refine own_by (B := s₁.setTop (mkF m 16 #[.val (.int ua), .val (.int ub), .val (.int uc), .val (.int (1 : Int32)), .unset, .unset, .unset, .unset, .unset, .unset] [])) (fun _ k => XS.ifYes X0.here hx rfl (pc0 := 5) (pc' := 16) rfl (hb hby at_5) rfl (XT.i0_ne_t (by decide)) (by decide) (by decide) k) ?_
    refine own_by (B := s₁.setTop (mkF m 17 #[.val (.int ua), .val (.int ub), .val (.int uc), .val (.int (1 : Int32)), .unset, .unset, .unset, .unset, .unset, .unset] [(.int (1 : Int32))])) (fun _ k => XS.iloadN X0.here hx rfl (hb hby at_16) rfl  k) ?_
    refine own_by (B := s₁.setTop (mkF m 18 #[.val (.int ua), .val (.int ub), .val (.int uc), .val (.int (1 : Int32)), .unset, .unset, .unset, .unset, .unset, .unset] [(.int (1 : Int32)), (.int (1 : Int32))])) (fun _ k => XS.iconst X0.here hx rfl (hb hby at_17) k) ?_
    refine own_by (B := s₁.setTop (mkF m 21 #[.val (.int ua), .val (.int ub), .val (.int uc), .val (.int (1 : Int32)), .unset, .unset, .unset, .unset, .unset, .unset] [])) (fun _ k => XS.icmpNo X0.here hx rfl (hb hby at_18) rfl (XT.ii_ne_f (by decide)) k) ?_
    obtain ⟨T31, X31, e31, st31⟩ := getS2 X0 hx hZ hown (host := "") (Or.inl (hw _ (List.mem_of_getElem? (i := 76) rfl))) Via.refl e0 (S_DECIMAL.ext O0.2) (g := (mkF m 21 #[.val (.int ua), .val (.int ub), .val (.int uc), .val (.int (1 : Int32)), .unset, .unset, .unset, .unset, .unset, .unset] [])) rfl (hb hby at_21)
    refine own_by (B := T31.setTop (mkF m 24 #[.val (.int ua), .val (.int ub), .val (.int uc), .val (.int (1 : Int32)), .unset, .unset, .unset, .unset, .unset, .unset] [(.ref a_DECIMAL)])) st31 ?_
    refine own_by (B := T31.setTop (mkF m 26 #[.val (.int ua), .val (.int ub), .val (.int uc), .val (.int (1 : Int32)), .val (.ref a_DECIMAL), .unset, .unset, .unset, .unset, .unset] [])) (fun _ k => XS.astore X31.here hx rfl (hb hby at_24) rfl rfl (l' := #[.val (.int ua), .val (.int ub), .val (.int uc), .val (.int (1 : Int32)), .val (.ref a_DECIMAL), .unset, .unset, .unset, .unset, .unset]) rfl k) ?_
    refine own_by (B := T31.setTop (mkF m 47 #[.val (.int ua), .val (.int ub), .val (.int uc), .val (.int (1 : Int32)), .val (.ref a_DECIMAL), .unset, .unset, .unset, .unset, .unset] [])) (fun _ k => XS.goto X31.here hx rfl (pc0 := 26) (pc' := 47) rfl (hb hby at_26) (by decide) (by decide) k) ?_
    refine own_by (B := T31.setTop (mkF m 48 #[.val (.int ua), .val (.int ub), .val (.int uc), .val (.int (1 : Int32)), .val (.ref a_DECIMAL), .unset, .unset, .unset, .unset, .unset] [(.int (1 : Int32))])) (fun _ k => XS.iloadN X31.here hx rfl (hb hby at_47) rfl  k) ?_
    refine own_by (B := T31.setTop (mkF m 49 #[.val (.int ua), .val (.int ub), .val (.int uc), .val (.int (1 : Int32)), .val (.ref a_DECIMAL), .unset, .unset, .unset, .unset, .unset] [(.int (1 : Int32)), (.int (1 : Int32))])) (fun _ k => XS.iconst X31.here hx rfl (hb hby at_48) k) ?_
    refine own_by (B := T31.setTop (mkF m 52 #[.val (.int ua), .val (.int ub), .val (.int uc), .val (.int (1 : Int32)), .val (.ref a_DECIMAL), .unset, .unset, .unset, .unset, .unset] [])) (fun _ k => XS.icmpNo X31.here hx rfl (hb hby at_49) rfl (XT.ii_gt_f (by decide)) k) ?_
    refine own_by (B := T31.setTop (mkF m 53 #[.val (.int ua), .val (.int ub), .val (.int uc), .val (.int (1 : Int32)), .val (.ref a_DECIMAL), .unset, .unset, .unset, .unset, .unset] [(.int ub)])) (fun _ k => XS.iloadN X31.here hx rfl (hb hby at_52) rfl  k) ?_
    refine own_by (B := T31.setTop (mkF m 55 #[.val (.int ua), .val (.int ub), .val (.int uc), .val (.int (1 : Int32)), .val (.ref a_DECIMAL), .unset, .unset, .unset, .unset, .unset] [(.int (2147483647 : Int32)), (.int ub)])) (fun _ k => X31.ldcI (g := (mkF m 53 #[.val (.int ua), .val (.int ub), .val (.int uc), .val (.int (1 : Int32)), .val (.ref a_DECIMAL), .unset, .unset, .unset, .unset, .unset] [(.int ub)])) hx hown (mvT hZ (hw _ (List.mem_of_getElem? (i := 3) rfl))) rfl (hb hby at_53) k) ?_
    refine own_by (B := T31.setTop (mkF m 56 #[.val (.int ua), .val (.int ub), .val (.int uc), .val (.int (1 : Int32)), .val (.ref a_DECIMAL), .unset, .unset, .unset, .unset, .unset] [(.int (ub &&& (2147483647 : Int32)))])) (fun _ k => XS.iand X31.here hx rfl (hb hby at_55) rfl k) ?_
    refine own_by (B := T31.setTop (mkF m 58 #[.val (.int ua), .val (.int ub), .val (.int uc), .val (.int (1 : Int32)), .val (.ref a_DECIMAL), .unset, .unset, .unset, .unset, .unset] [(.int (100001 : Int32)), (.int (ub &&& (2147483647 : Int32)))])) (fun _ k => X31.ldcI (g := (mkF m 56 #[.val (.int ua), .val (.int ub), .val (.int uc), .val (.int (1 : Int32)), .val (.ref a_DECIMAL), .unset, .unset, .unset, .unset, .unset] [(.int (ub &&& (2147483647 : Int32)))])) hx hown (mvT hZ (hw _ (List.mem_of_getElem? (i := 4) rfl))) rfl (hb hby at_56) k) ?_
    refine own_by (B := T31.setTop (mkF m 59 #[.val (.int ua), .val (.int ub), .val (.int uc), .val (.int (1 : Int32)), .val (.ref a_DECIMAL), .unset, .unset, .unset, .unset, .unset] [(.int ((ub &&& (2147483647 : Int32)) % (100001 : Int32)))])) (fun _ k => iremM (g := (mkF m 58 #[.val (.int ua), .val (.int ub), .val (.int uc), .val (.int (1 : Int32)), .val (.ref a_DECIMAL), .unset, .unset, .unset, .unset, .unset] [(.int (100001 : Int32)), (.int (ub &&& (2147483647 : Int32)))])) X31 hx rfl (hb hby at_58) rfl (by decide) k) ?_
    refine own_by (B := T31.setTop (mkF m 63 #[.val (.int ua), .val (.int ub), .val (.int uc), .val (.int (1 : Int32)), .val (.ref a_DECIMAL), .unset, .unset, .unset, .unset, .unset] [(.int ((ub &&& (2147483647 : Int32)) % (100001 : Int32)))])) (fun _ k => XS.goto X31.here hx rfl (pc0 := 59) (pc' := 63) rfl (hb hby at_59) (by decide) (by decide) k) ?_
    obtain ⟨up, hup⟩ : ∃ z : Int32, z = ((ub &&& (2147483647 : Int32)) % (100001 : Int32)) := ⟨_, rfl⟩
    rw [← hup]
    obtain ⟨hup0, hup1⟩ : 0 ≤ up.toInt ∧ up.toInt < 100001 := hup ▸ own_mod ub (100001 : Int32) (by decide)
    by_cases hs32 : up = (0 : Int32)
    · refine own_by (B := T31.setTop (mkF m 65 #[.val (.int ua), .val (.int ub), .val (.int uc), .val (.int (1 : Int32)), .val (.ref a_DECIMAL), .val (.int up), .unset, .unset, .unset, .unset] [])) (fun _ k => XS.istore X31.here hx rfl (hb hby at_63) rfl (l' := #[.val (.int ua), .val (.int ub), .val (.int uc), .val (.int (1 : Int32)), .val (.ref a_DECIMAL), .val (.int up), .unset, .unset, .unset, .unset]) rfl k) ?_
      obtain ⟨T33, h33, X33, e33, E33, A33, D33, -, st33⟩ := newO X31 hx hZ hown (hw _ (List.mem_of_getElem? (i := 5) rfl)) (hw _ (List.mem_of_getElem? (i := 6) rfl)) (hw _ (List.mem_of_getElem? (i := 7) rfl)) e31 (g := (mkF m 65 #[.val (.int ua), .val (.int ub), .val (.int uc), .val (.int (1 : Int32)), .val (.ref a_DECIMAL), .val (.int up), .unset, .unset, .unset, .unset] [])) rfl (hb hby at_65) (by decide) (by decide)
      obtain ⟨b33, g33⟩ : ∃ z, z = h0.size := ⟨_, rfl⟩
      rw [← g33] at A33 D33 st33
      have sz33 := E33.1
      have gn33 : n0 ≤ b33 := g33 ▸ own_old_le O0
      have fz33 : h0.size ≤ b33 := g33 ▸ K0.1
      have lt33 := A33.lt
      have O33 := O0.ext E33
      have K33 := K0.ext E33
      have F33_kind : Fld Z h33 b33 "com/example/planwright/planwright/query/NumericType" "kind" "Lcom/example/planwright/planwright/query/NumericKind;" .null := D33 (Or.inr (hw _ (List.mem_of_getElem? (i := 20) rfl))) (ty := (.object "com/example/planwright/planwright/query/NumericKind")) (by decide)
      have F33_precision : Fld Z h33 b33 "com/example/planwright/planwright/query/NumericType" "precision" "I" (.int (0 : Int32)) := D33 (Or.inr (hw _ (List.mem_of_getElem? (i := 22) rfl))) (ty := .int) (by decide)
      have F33_scale : Fld Z h33 b33 "com/example/planwright/planwright/query/NumericType" "scale" "I" (.int (0 : Int32)) := D33 (Or.inr (hw _ (List.mem_of_getElem? (i := 24) rfl))) (ty := .int) (by decide)
      refine own_by (B := T33.setTop (mkF m 68 #[.val (.int ua), .val (.int ub), .val (.int uc), .val (.int (1 : Int32)), .val (.ref a_DECIMAL), .val (.int up), .unset, .unset, .unset, .unset] [(.ref b33)])) st33 ?_
      refine own_by (B := T33.setTop (mkF m 69 #[.val (.int ua), .val (.int ub), .val (.int uc), .val (.int (1 : Int32)), .val (.ref a_DECIMAL), .val (.int up), .unset, .unset, .unset, .unset] [(.ref b33), (.ref b33)])) (fun _ k => XS.dup X33.here hx rfl (hb hby at_68) rfl rfl k) ?_
      refine own_by (B := T33.setTop (mkF m 71 #[.val (.int ua), .val (.int ub), .val (.int uc), .val (.int (1 : Int32)), .val (.ref a_DECIMAL), .val (.int up), .unset, .unset, .unset, .unset] [(.ref a_DECIMAL), (.ref b33), (.ref b33)])) (fun _ k => XS.aload X33.here hx rfl (hb hby at_69) rfl rfl  k) ?_
      refine own_by (B := T33.setTop (mkF m 73 #[.val (.int ua), .val (.int ub), .val (.int uc), .val (.int (1 : Int32)), .val (.ref a_DECIMAL), .val (.int up), .unset, .unset, .unset, .unset] [(.int up), (.ref a_DECIMAL), (.ref b33), (.ref b33)])) (fun _ k => XS.iload X33.here hx rfl (hb hby at_71) rfl  k) ?_
      refine own_by (B := T33.setTop (mkF m 74 #[.val (.int ua), .val (.int ub), .val (.int uc), .val (.int (1 : Int32)), .val (.ref a_DECIMAL), .val (.int up), .unset, .unset, .unset, .unset] [(.int uc), (.int up), (.ref a_DECIMAL), (.ref b33), (.ref b33)])) (fun _ k => XS.iloadN X33.here hx rfl (hb hby at_73) rfl  k) ?_
      obtain ⟨_, _, ⟨T34, L34, k34, n34⟩, -, X34, ⟨Lc34, hQ34, l34, y34, z34⟩, st34⟩ := X33.specialBack hx (y := (⟨"com/example/planwright/planwright/query/NumericType", "<init>", "(Lcom/example/planwright/planwright/query/NumericKind;II)V"⟩ : MethodName)) rfl hown (mvT hZ (hw _ (List.mem_of_getElem? (i := 8) rfl))) (mvT hZ (hw _ (List.mem_of_getElem? (i := 9) rfl))) (mvT hZ (hw _ (List.mem_of_getElem? (i := 10) rfl))) (by decide) (backOf (W := 1) (rmNT l Z a0 hw [] b33 a_DECIMAL up uc h33 n0 (own_old_le O33) O33 A33 F33_kind F33_precision F33_scale gn33) hZ (hw _ (List.mem_of_getElem? (i := 10) rfl)) (hw _ (List.mem_of_getElem? (i := 7) rfl)) (by decide) (by decide)) (g := (mkF m 74 #[.val (.int ua), .val (.int ub), .val (.int uc), .val (.int (1 : Int32)), .val (.ref a_DECIMAL), .val (.int up), .unset, .unset, .unset, .unset] [(.int uc), (.int up), (.ref a_DECIMAL), (.ref b33), (.ref b33)])) rfl (by rw [hml]; rfl) (Steps.refl _) (a := b33) (argsL := [(.ref a_DECIMAL), (.int up), (.int uc)]) (rest := [(.ref b33)]) (lenOf pd_0__Lcom_example_planwright_planwright_query_NumericKind_II_V rfl) rfl (by show 2 * 0 + _ ≤ _; exact Nat.le_of_eq rfl) (hb hby at_74) (fun _ _ => ⟨rfl, e33, (by decide : 1 + 0 ≤ _), (by decide : 3 + 0 ≤ _)⟩)
      dsimp only [Pt.U, Pt.locs, Pt.cells, Pt.slots] at X34 l34 y34 z34 st34 hQ34
      subst l34 y34 z34
      obtain ⟨rfl, NC34, KC34, EC34, FC34_0, FC34_1, FC34_2⟩ := hQ34
      refine own_by (B := T34.setTop (mkF m 77 #[.val (.int ua), .val (.int ub), .val (.int uc), .val (.int (1 : Int32)), .val (.ref a_DECIMAL), .val (.int up), .unset, .unset, .unset, .unset] [(.ref b33)])) (fun _ k => st34.trans k) ?_
      obtain ⟨h34, e34⟩ : ∃ z, T34.heap = z := ⟨_, rfl⟩
      rw [e34] at KC34 EC34 FC34_0 FC34_1 FC34_2
      have sz34 := KC34.1
      have O34 := O33.keep KC34 (allS gn33 all0)
      have K34 := K33.trans KC34 (allS (Or.inr fz33) all0)
      have N34 := Fr.app N0 NC34
      refine own_by (B := T34.setTop (mkF m 79 #[.val (.int ua), .val (.int ub), .val (.int uc), .val (.int (1 : Int32)), .val (.ref a_DECIMAL), .val (.int up), .val (.ref b33), .unset, .unset, .unset] [])) (fun _ k => XS.astore X34.here hx rfl (hb hby at_77) rfl rfl (l' := #[.val (.int ua), .val (.int ub), .val (.int uc), .val (.int (1 : Int32)), .val (.ref a_DECIMAL), .val (.int up), .val (.ref b33), .unset, .unset, .unset]) rfl k) ?_
      refine own_by (B := T34.setTop (mkF m 81 #[.val (.int ua), .val (.int ub), .val (.int uc), .val (.int (1 : Int32)), .val (.ref a_DECIMAL), .val (.int up), .val (.ref b33), .unset, .unset, .unset] [(.ref b33)])) (fun _ k => XS.aload X34.here hx rfl (hb hby at_79) rfl rfl  k) ?_
      obtain ⟨cq35, kq35, qa35, qb35, qc35⟩ := isOf hZ e34 EC34
      obtain ⟨_, _, ⟨T35, L35, k35, n35⟩, -, X35, ⟨Lc35, hQ35, l35, y35, z35⟩, st35⟩ := X34.virtualBack hx (y := (⟨"com/example/planwright/planwright/query/NumericType", "sum", "()Ljava/util/Optional;"⟩ : MethodName)) (z := (⟨"com/example/planwright/planwright/query/NumericType", "sum", "()Ljava/util/Optional;"⟩ : MethodName)) hown (mvT hZ (hw _ (List.mem_of_getElem? (i := 25) rfl))) (mvT hZ (hw _ (List.mem_of_getElem? (i := 26) rfl))) (notFace_of_selects (args := #[]) (mvT hZ (hw _ (List.mem_of_getElem? (i := 28) rfl)))) (mvT hZ (hw _ (List.mem_of_getElem? (i := 28) rfl))) (mvT hZ (hw _ (List.mem_of_getElem? (i := 27) rfl))) (by decide) (backOf (W := 0) (rmSumA l Z a0 hw [] a_INTEGER a_BIGINT a_DECIMAL a_OTHER a_APPROXIMATE a_EMPTY b33 a_DECIMAL up uc h34 n0 (own_old_le O34) O34 HW EC34 FC34_0 FC34_1 FC34_2 hs32) hZ (hw _ (List.mem_of_getElem? (i := 29) rfl)) (hw _ (List.mem_of_getElem? (i := 7) rfl)) (by decide) (by decide)) qa35 qc35 (g := (mkF m 81 #[.val (.int ua), .val (.int ub), .val (.int uc), .val (.int (1 : Int32)), .val (.ref a_DECIMAL), .val (.int up), .val (.ref b33), .unset, .unset, .unset] [(.ref b33)])) rfl (by rw [hml]; rfl) (Steps.refl _) (argsL := []) (rest := []) (lenOf pd_0___Ljava_util_Optional_ rfl) rfl (by show 2 * 0 + _ ≤ _; exact Nat.le_of_eq rfl) (hb hby at_81) (fun _ _ => ⟨rfl, e34, (by decide : 1 + 0 ≤ _), (by decide : 3 + 0 ≤ _)⟩)
      dsimp only [Pt.U, Pt.locs, Pt.cells, Pt.slots] at X35 l35 y35 z35 st35 hQ35
      subst l35 y35 z35
      obtain ⟨rfl, N35, e35⟩ := hQ35
      refine own_by (B := T35.setTop (mkF m 84 #[.val (.int ua), .val (.int ub), .val (.int uc), .val (.int (1 : Int32)), .val (.ref a_DECIMAL), .val (.int up), .val (.ref b33), .unset, .unset, .unset] [(.ref a_EMPTY)])) (fun _ k => st35.trans k) ?_
      have M35 := Fr.app N34 N35
      refine own_by (B := T35.setTop (mkF m 86 #[.val (.int ua), .val (.int ub), .val (.int uc), .val (.int (1 : Int32)), .val (.ref a_DECIMAL), .val (.int up), .val (.ref b33), .val (.ref a_EMPTY), .unset, .unset] [])) (fun _ k => XS.astore X35.here hx rfl (hb hby at_84) rfl rfl (l' := #[.val (.int ua), .val (.int ub), .val (.int uc), .val (.int (1 : Int32)), .val (.ref a_DECIMAL), .val (.int up), .val (.ref b33), .val (.ref a_EMPTY), .unset, .unset]) rfl k) ?_
      refine own_by (B := T35.setTop (mkF m 88 #[.val (.int ua), .val (.int ub), .val (.int uc), .val (.int (1 : Int32)), .val (.ref a_DECIMAL), .val (.int up), .val (.ref b33), .val (.ref a_EMPTY), .unset, .unset] [(.int up)])) (fun _ k => XS.iload X35.here hx rfl (hb hby at_86) rfl  k) ?_
      refine own_by (B := T35.setTop (mkF m 91 #[.val (.int ua), .val (.int ub), .val (.int uc), .val (.int (1 : Int32)), .val (.ref a_DECIMAL), .val (.int up), .val (.ref b33), .val (.ref a_EMPTY), .unset, .unset] [])) (fun _ k => XS.ifNo X35.here hx rfl (hb hby at_88) rfl (XT.i0_ne_f hs32) k) ?_
      refine own_by (B := T35.setTop (mkF m 93 #[.val (.int ua), .val (.int ub), .val (.int uc), .val (.int (1 : Int32)), .val (.ref a_DECIMAL), .val (.int up), .val (.ref b33), .val (.ref a_EMPTY), .unset, .unset] [(.ref a_EMPTY)])) (fun _ k => XS.aload X35.here hx rfl (hb hby at_91) rfl rfl  k) ?_
      obtain ⟨cq36, kq36, qa36, qb36, qc36⟩ := isOf hZ e35 (E_EMPTY.ext O34.2)
      obtain ⟨_, _, ⟨T36, L36, k36, n36⟩, -, X36, ⟨Lc36, hQ36, l36, y36, z36⟩, st36⟩ := X35.virtualBack hx (y := (⟨"java/util/Optional", "isPresent", "()Z"⟩ : MethodName)) (z := (⟨"java/util/Optional", "isPresent", "()Z"⟩ : MethodName)) hown (mvT hZ (hw _ (List.mem_of_getElem? (i := 50) rfl))) (mvT hZ (hw _ (List.mem_of_getElem? (i := 51) rfl))) (notFace_of_selects (args := #[]) (mvT hZ (hw _ (List.mem_of_getElem? (i := 53) rfl)))) (mvT hZ (hw _ (List.mem_of_getElem? (i := 53) rfl))) (mvT hZ (hw _ (List.mem_of_getElem? (i := 52) rfl))) (by decide) (backOf (W := 0) (rmIsp0 l Z a0 hw [] a_EMPTY h34 n0 (own_old_le O34) (F_EMPTY_value.ext O34.2)) hZ (hw _ (List.mem_of_getElem? (i := 54) rfl)) (hw _ (List.mem_of_getElem? (i := 35) rfl)) (by decide) (by decide)) qa36 qc36 (g := (mkF m 93 #[.val (.int ua), .val (.int ub), .val (.int uc), .val (.int (1 : Int32)), .val (.ref a_DECIMAL), .val (.int up), .val (.ref b33), .val (.ref a_EMPTY), .unset, .unset] [(.ref a_EMPTY)])) rfl (by rw [hml]; rfl) (Steps.refl _) (argsL := []) (rest := []) (lenOf pd_0___Z rfl) rfl (by show 2 * 0 + _ ≤ _; exact Nat.le_of_eq rfl) (hb hby at_93) (fun _ _ => ⟨rfl, e35, (by decide : 1 + 0 ≤ _), (by decide : 3 + 0 ≤ _)⟩)
      dsimp only [Pt.U, Pt.locs, Pt.cells, Pt.slots] at X36 l36 y36 z36 st36 hQ36
      subst l36 y36 z36
      obtain ⟨rfl, N36, e36⟩ := hQ36
      refine own_by (B := T36.setTop (mkF m 96 #[.val (.int ua), .val (.int ub), .val (.int uc), .val (.int (1 : Int32)), .val (.ref a_DECIMAL), .val (.int up), .val (.ref b33), .val (.ref a_EMPTY), .unset, .unset] [(.int own_isp0)])) (fun _ k => st36.trans k) ?_
      have M36 := Fr.app M35 N36
      rw [show own_isp0 = (0 : Int32) from rfl]
      refine own_by (B := T36.setTop (mkF m 99 #[.val (.int ua), .val (.int ub), .val (.int uc), .val (.int (1 : Int32)), .val (.ref a_DECIMAL), .val (.int up), .val (.ref b33), .val (.ref a_EMPTY), .unset, .unset] [])) (fun _ k => XS.ifNo X36.here hx rfl (hb hby at_96) rfl (XT.i0_ne_f (by decide)) k) ?_
      refine own_by (B := T36.setTop (mkF m 100 #[.val (.int ua), .val (.int ub), .val (.int uc), .val (.int (1 : Int32)), .val (.ref a_DECIMAL), .val (.int up), .val (.ref b33), .val (.ref a_EMPTY), .unset, .unset] [(.int (1 : Int32))])) (fun _ k => XS.iconst X36.here hx rfl (hb hby at_99) k) ?_
      refine own_by (B := T36.setTop (mkF m 104 #[.val (.int ua), .val (.int ub), .val (.int uc), .val (.int (1 : Int32)), .val (.ref a_DECIMAL), .val (.int up), .val (.ref b33), .val (.ref a_EMPTY), .unset, .unset] [(.int (1 : Int32))])) (fun _ k => XS.goto X36.here hx rfl (pc0 := 100) (pc' := 104) rfl (hb hby at_100) (by decide) (by decide) k) ?_
      exact own_retZ X36 hx hrt hlk rfl (hb hby at_104) (by decide) (by decide) ⟨rfl, M36⟩
    · refine own_by (B := T31.setTop (mkF m 65 #[.val (.int ua), .val (.int ub), .val (.int uc), .val (.int (1 : Int32)), .val (.ref a_DECIMAL), .val (.int up), .unset, .unset, .unset, .unset] [])) (fun _ k => XS.istore X31.here hx rfl (hb hby at_63) rfl (l' := #[.val (.int ua), .val (.int ub), .val (.int uc), .val (.int (1 : Int32)), .val (.ref a_DECIMAL), .val (.int up), .unset, .unset, .unset, .unset]) rfl k) ?_
      obtain ⟨T37, h37, X37, e37, E37, A37, D37, -, st37⟩ := newO X31 hx hZ hown (hw _ (List.mem_of_getElem? (i := 5) rfl)) (hw _ (List.mem_of_getElem? (i := 6) rfl)) (hw _ (List.mem_of_getElem? (i := 7) rfl)) e31 (g := (mkF m 65 #[.val (.int ua), .val (.int ub), .val (.int uc), .val (.int (1 : Int32)), .val (.ref a_DECIMAL), .val (.int up), .unset, .unset, .unset, .unset] [])) rfl (hb hby at_65) (by decide) (by decide)
      obtain ⟨b37, g37⟩ : ∃ z, z = h0.size := ⟨_, rfl⟩
      rw [← g37] at A37 D37 st37
      have sz37 := E37.1
      have gn37 : n0 ≤ b37 := g37 ▸ own_old_le O0
      have fz37 : h0.size ≤ b37 := g37 ▸ K0.1
      have lt37 := A37.lt
      have O37 := O0.ext E37
      have K37 := K0.ext E37
      have F37_kind : Fld Z h37 b37 "com/example/planwright/planwright/query/NumericType" "kind" "Lcom/example/planwright/planwright/query/NumericKind;" .null := D37 (Or.inr (hw _ (List.mem_of_getElem? (i := 20) rfl))) (ty := (.object "com/example/planwright/planwright/query/NumericKind")) (by decide)
      have F37_precision : Fld Z h37 b37 "com/example/planwright/planwright/query/NumericType" "precision" "I" (.int (0 : Int32)) := D37 (Or.inr (hw _ (List.mem_of_getElem? (i := 22) rfl))) (ty := .int) (by decide)
      have F37_scale : Fld Z h37 b37 "com/example/planwright/planwright/query/NumericType" "scale" "I" (.int (0 : Int32)) := D37 (Or.inr (hw _ (List.mem_of_getElem? (i := 24) rfl))) (ty := .int) (by decide)
      refine own_by (B := T37.setTop (mkF m 68 #[.val (.int ua), .val (.int ub), .val (.int uc), .val (.int (1 : Int32)), .val (.ref a_DECIMAL), .val (.int up), .unset, .unset, .unset, .unset] [(.ref b37)])) st37 ?_
      refine own_by (B := T37.setTop (mkF m 69 #[.val (.int ua), .val (.int ub), .val (.int uc), .val (.int (1 : Int32)), .val (.ref a_DECIMAL), .val (.int up), .unset, .unset, .unset, .unset] [(.ref b37), (.ref b37)])) (fun _ k => XS.dup X37.here hx rfl (hb hby at_68) rfl rfl k) ?_
      refine own_by (B := T37.setTop (mkF m 71 #[.val (.int ua), .val (.int ub), .val (.int uc), .val (.int (1 : Int32)), .val (.ref a_DECIMAL), .val (.int up), .unset, .unset, .unset, .unset] [(.ref a_DECIMAL), (.ref b37), (.ref b37)])) (fun _ k => XS.aload X37.here hx rfl (hb hby at_69) rfl rfl  k) ?_
      refine own_by (B := T37.setTop (mkF m 73 #[.val (.int ua), .val (.int ub), .val (.int uc), .val (.int (1 : Int32)), .val (.ref a_DECIMAL), .val (.int up), .unset, .unset, .unset, .unset] [(.int up), (.ref a_DECIMAL), (.ref b37), (.ref b37)])) (fun _ k => XS.iload X37.here hx rfl (hb hby at_71) rfl  k) ?_
      refine own_by (B := T37.setTop (mkF m 74 #[.val (.int ua), .val (.int ub), .val (.int uc), .val (.int (1 : Int32)), .val (.ref a_DECIMAL), .val (.int up), .unset, .unset, .unset, .unset] [(.int uc), (.int up), (.ref a_DECIMAL), (.ref b37), (.ref b37)])) (fun _ k => XS.iloadN X37.here hx rfl (hb hby at_73) rfl  k) ?_
      obtain ⟨_, _, ⟨T38, L38, k38, n38⟩, -, X38, ⟨Lc38, hQ38, l38, y38, z38⟩, st38⟩ := X37.specialBack hx (y := (⟨"com/example/planwright/planwright/query/NumericType", "<init>", "(Lcom/example/planwright/planwright/query/NumericKind;II)V"⟩ : MethodName)) rfl hown (mvT hZ (hw _ (List.mem_of_getElem? (i := 8) rfl))) (mvT hZ (hw _ (List.mem_of_getElem? (i := 9) rfl))) (mvT hZ (hw _ (List.mem_of_getElem? (i := 10) rfl))) (by decide) (backOf (W := 1) (rmNT l Z a0 hw [] b37 a_DECIMAL up uc h37 n0 (own_old_le O37) O37 A37 F37_kind F37_precision F37_scale gn37) hZ (hw _ (List.mem_of_getElem? (i := 10) rfl)) (hw _ (List.mem_of_getElem? (i := 7) rfl)) (by decide) (by decide)) (g := (mkF m 74 #[.val (.int ua), .val (.int ub), .val (.int uc), .val (.int (1 : Int32)), .val (.ref a_DECIMAL), .val (.int up), .unset, .unset, .unset, .unset] [(.int uc), (.int up), (.ref a_DECIMAL), (.ref b37), (.ref b37)])) rfl (by rw [hml]; rfl) (Steps.refl _) (a := b37) (argsL := [(.ref a_DECIMAL), (.int up), (.int uc)]) (rest := [(.ref b37)]) (lenOf pd_0__Lcom_example_planwright_planwright_query_NumericKind_II_V rfl) rfl (by show 2 * 0 + _ ≤ _; exact Nat.le_of_eq rfl) (hb hby at_74) (fun _ _ => ⟨rfl, e37, (by decide : 1 + 0 ≤ _), (by decide : 3 + 0 ≤ _)⟩)
      dsimp only [Pt.U, Pt.locs, Pt.cells, Pt.slots] at X38 l38 y38 z38 st38 hQ38
      subst l38 y38 z38
      obtain ⟨rfl, NC38, KC38, EC38, FC38_0, FC38_1, FC38_2⟩ := hQ38
      refine own_by (B := T38.setTop (mkF m 77 #[.val (.int ua), .val (.int ub), .val (.int uc), .val (.int (1 : Int32)), .val (.ref a_DECIMAL), .val (.int up), .unset, .unset, .unset, .unset] [(.ref b37)])) (fun _ k => st38.trans k) ?_
      obtain ⟨h38, e38⟩ : ∃ z, T38.heap = z := ⟨_, rfl⟩
      rw [e38] at KC38 EC38 FC38_0 FC38_1 FC38_2
      have sz38 := KC38.1
      have O38 := O37.keep KC38 (allS gn37 all0)
      have K38 := K37.trans KC38 (allS (Or.inr fz37) all0)
      have N38 := Fr.app N0 NC38
      refine own_by (B := T38.setTop (mkF m 79 #[.val (.int ua), .val (.int ub), .val (.int uc), .val (.int (1 : Int32)), .val (.ref a_DECIMAL), .val (.int up), .val (.ref b37), .unset, .unset, .unset] [])) (fun _ k => XS.astore X38.here hx rfl (hb hby at_77) rfl rfl (l' := #[.val (.int ua), .val (.int ub), .val (.int uc), .val (.int (1 : Int32)), .val (.ref a_DECIMAL), .val (.int up), .val (.ref b37), .unset, .unset, .unset]) rfl k) ?_
      refine own_by (B := T38.setTop (mkF m 81 #[.val (.int ua), .val (.int ub), .val (.int uc), .val (.int (1 : Int32)), .val (.ref a_DECIMAL), .val (.int up), .val (.ref b37), .unset, .unset, .unset] [(.ref b37)])) (fun _ k => XS.aload X38.here hx rfl (hb hby at_79) rfl rfl  k) ?_
      obtain ⟨cq39, kq39, qa39, qb39, qc39⟩ := isOf hZ e38 EC38
      obtain ⟨_, _, ⟨T39, L39, k39, n39⟩, -, X39, ⟨Lc39, hQ39, l39, y39, z39⟩, st39⟩ := X38.virtualBack hx (y := (⟨"com/example/planwright/planwright/query/NumericType", "sum", "()Ljava/util/Optional;"⟩ : MethodName)) (z := (⟨"com/example/planwright/planwright/query/NumericType", "sum", "()Ljava/util/Optional;"⟩ : MethodName)) hown (mvT hZ (hw _ (List.mem_of_getElem? (i := 25) rfl))) (mvT hZ (hw _ (List.mem_of_getElem? (i := 26) rfl))) (notFace_of_selects (args := #[]) (mvT hZ (hw _ (List.mem_of_getElem? (i := 28) rfl)))) (mvT hZ (hw _ (List.mem_of_getElem? (i := 28) rfl))) (mvT hZ (hw _ (List.mem_of_getElem? (i := 27) rfl))) (by decide) (backOf (W := 0) (rmSumD l Z a0 hw [] a_INTEGER a_BIGINT a_DECIMAL a_OTHER a_APPROXIMATE a_EMPTY b37 a_DECIMAL up uc h38 n0 (own_old_le O38) O38 HW EC38 FC38_0 FC38_1 FC38_2 hs32 (Fld.ne F_DECIMAL_ordinal F_INTEGER_ordinal (by decide))) hZ (hw _ (List.mem_of_getElem? (i := 29) rfl)) (hw _ (List.mem_of_getElem? (i := 7) rfl)) (by decide) (by decide)) qa39 qc39 (g := (mkF m 81 #[.val (.int ua), .val (.int ub), .val (.int uc), .val (.int (1 : Int32)), .val (.ref a_DECIMAL), .val (.int up), .val (.ref b37), .unset, .unset, .unset] [(.ref b37)])) rfl (by rw [hml]; rfl) (Steps.refl _) (argsL := []) (rest := []) (lenOf pd_0___Ljava_util_Optional_ rfl) rfl (by show 2 * 0 + _ ≤ _; exact Nat.le_of_eq rfl) (hb hby at_81) (fun _ _ => ⟨rfl, e38, (by decide : 1 + 2 ≤ _), (by decide : 3 + 4 ≤ _)⟩)
      dsimp only [Pt.U, Pt.locs, Pt.cells, Pt.slots] at X39 l39 y39 z39 st39 hQ39
      subst l39 y39 z39
      obtain ⟨bo, bd, rfl, NC39, KC39, hb39, EC39, FC39_0, hd39, ED39, FD39_0, FD39_1, FD39_2⟩ := hQ39
      refine own_by (B := T39.setTop (mkF m 84 #[.val (.int ua), .val (.int ub), .val (.int uc), .val (.int (1 : Int32)), .val (.ref a_DECIMAL), .val (.int up), .val (.ref b37), .unset, .unset, .unset] [(.ref bo)])) (fun _ k => st39.trans k) ?_
      have gnbo : n0 ≤ bo := Nat.le_trans (own_old_le O38) hb39
      have fzbo : h0.size ≤ bo := Nat.le_trans K38.1 hb39
      have gnbd : n0 ≤ bd := Nat.le_trans (own_old_le O38) hd39
      have fzbd : h0.size ≤ bd := Nat.le_trans K38.1 hd39
      obtain ⟨h39, e39⟩ : ∃ z, T39.heap = z := ⟨_, rfl⟩
      rw [e39] at KC39 EC39 FC39_0 ED39 FD39_0 FD39_1 FD39_2
      have sz39 := KC39.1
      have O39 := O38.keep KC39 all0
      have K39 := K38.trans KC39 all0
      have N39 := Fr.app N38 NC39
      refine own_by (B := T39.setTop (mkF m 86 #[.val (.int ua), .val (.int ub), .val (.int uc), .val (.int (1 : Int32)), .val (.ref a_DECIMAL), .val (.int up), .val (.ref b37), .val (.ref bo), .unset, .unset] [])) (fun _ k => XS.astore X39.here hx rfl (hb hby at_84) rfl rfl (l' := #[.val (.int ua), .val (.int ub), .val (.int uc), .val (.int (1 : Int32)), .val (.ref a_DECIMAL), .val (.int up), .val (.ref b37), .val (.ref bo), .unset, .unset]) rfl k) ?_
      refine own_by (B := T39.setTop (mkF m 88 #[.val (.int ua), .val (.int ub), .val (.int uc), .val (.int (1 : Int32)), .val (.ref a_DECIMAL), .val (.int up), .val (.ref b37), .val (.ref bo), .unset, .unset] [(.int up)])) (fun _ k => XS.iload X39.here hx rfl (hb hby at_86) rfl  k) ?_
      refine own_by (B := T39.setTop (mkF m 105 #[.val (.int ua), .val (.int ub), .val (.int uc), .val (.int (1 : Int32)), .val (.ref a_DECIMAL), .val (.int up), .val (.ref b37), .val (.ref bo), .unset, .unset] [])) (fun _ k => XS.ifYes X39.here hx rfl (pc0 := 88) (pc' := 105) rfl (hb hby at_88) rfl (XT.i0_ne_t hs32) (by decide) (by decide) k) ?_
      refine own_by (B := T39.setTop (mkF m 107 #[.val (.int ua), .val (.int ub), .val (.int uc), .val (.int (1 : Int32)), .val (.ref a_DECIMAL), .val (.int up), .val (.ref b37), .val (.ref bo), .unset, .unset] [(.ref bo)])) (fun _ k => XS.aload X39.here hx rfl (hb hby at_105) rfl rfl  k) ?_
      obtain ⟨cq40, kq40, qa40, qb40, qc40⟩ := isOf hZ e39 EC39
      obtain ⟨_, _, ⟨T40, L40, k40, n40⟩, -, X40, ⟨Lc40, hQ40, l40, y40, z40⟩, st40⟩ := X39.virtualBack hx (y := (⟨"java/util/Optional", "isPresent", "()Z"⟩ : MethodName)) (z := (⟨"java/util/Optional", "isPresent", "()Z"⟩ : MethodName)) hown (mvT hZ (hw _ (List.mem_of_getElem? (i := 50) rfl))) (mvT hZ (hw _ (List.mem_of_getElem? (i := 51) rfl))) (notFace_of_selects (args := #[]) (mvT hZ (hw _ (List.mem_of_getElem? (i := 53) rfl)))) (mvT hZ (hw _ (List.mem_of_getElem? (i := 53) rfl))) (mvT hZ (hw _ (List.mem_of_getElem? (i := 52) rfl))) (by decide) (backOf (W := 0) (rmIsp1 l Z a0 hw [] bo bd h39 n0 (own_old_le O39) FC39_0) hZ (hw _ (List.mem_of_getElem? (i := 54) rfl)) (hw _ (List.mem_of_getElem? (i := 35) rfl)) (by decide) (by decide)) qa40 qc40 (g := (mkF m 107 #[.val (.int ua), .val (.int ub), .val (.int uc), .val (.int (1 : Int32)), .val (.ref a_DECIMAL), .val (.int up), .val (.ref b37), .val (.ref bo), .unset, .unset] [(.ref bo)])) rfl (by rw [hml]; rfl) (Steps.refl _) (argsL := []) (rest := []) (lenOf pd_0___Z rfl) rfl (by show 2 * 0 + _ ≤ _; exact Nat.le_of_eq rfl) (hb hby at_107) (fun _ _ => ⟨rfl, e39, (by decide : 3 + 0 ≤ _), (by decide : 7 + 0 ≤ _)⟩)
      dsimp only [Pt.U, Pt.locs, Pt.cells, Pt.slots] at X40 l40 y40 z40 st40 hQ40
      subst l40 y40 z40
      obtain ⟨rfl, N40, e40⟩ := hQ40
      refine own_by (B := T40.setTop (mkF m 110 #[.val (.int ua), .val (.int ub), .val (.int uc), .val (.int (1 : Int32)), .val (.ref a_DECIMAL), .val (.int up), .val (.ref b37), .val (.ref bo), .unset, .unset] [(.int (own_isp1 bd))])) (fun _ k => st40.trans k) ?_
      have M40 := Fr.app N39 N40
      rw [show (own_isp1 bd) = (1 : Int32) from rfl]
      refine own_by (B := T40.setTop (mkF m 115 #[.val (.int ua), .val (.int ub), .val (.int uc), .val (.int (1 : Int32)), .val (.ref a_DECIMAL), .val (.int up), .val (.ref b37), .val (.ref bo), .unset, .unset] [])) (fun _ k => XS.ifYes X40.here hx rfl (pc0 := 110) (pc' := 115) rfl (hb hby at_110) rfl (XT.i0_ne_t (by decide)) (by decide) (by decide) k) ?_
      refine own_by (B := T40.setTop (mkF m 117 #[.val (.int ua), .val (.int ub), .val (.int uc), .val (.int (1 : Int32)), .val (.ref a_DECIMAL), .val (.int up), .val (.ref b37), .val (.ref bo), .unset, .unset] [(.ref bo)])) (fun _ k => XS.aload X40.here hx rfl (hb hby at_115) rfl rfl  k) ?_
      obtain ⟨cq41, kq41, qa41, qb41, qc41⟩ := isOf hZ e40 EC39
      obtain ⟨_, _, ⟨T41, L41, k41, n41⟩, -, X41, ⟨Lc41, hQ41, l41, y41, z41⟩, st41⟩ := X40.virtualBack hx (y := (⟨"java/util/Optional", "get", "()Ljava/lang/Object;"⟩ : MethodName)) (z := (⟨"java/util/Optional", "get", "()Ljava/lang/Object;"⟩ : MethodName)) hown (mvT hZ (hw _ (List.mem_of_getElem? (i := 55) rfl))) (mvT hZ (hw _ (List.mem_of_getElem? (i := 56) rfl))) (notFace_of_selects (args := #[]) (mvT hZ (hw _ (List.mem_of_getElem? (i := 58) rfl)))) (mvT hZ (hw _ (List.mem_of_getElem? (i := 58) rfl))) (mvT hZ (hw _ (List.mem_of_getElem? (i := 57) rfl))) (by decide) (backOf (W := 0) (rmGet l Z a0 hw [] bo bd h39 n0 (own_old_le O39) FC39_0) hZ (hw _ (List.mem_of_getElem? (i := 59) rfl)) (hw _ (List.mem_of_getElem? (i := 35) rfl)) (by decide) (by decide)) qa41 qc41 (g := (mkF m 117 #[.val (.int ua), .val (.int ub), .val (.int uc), .val (.int (1 : Int32)), .val (.ref a_DECIMAL), .val (.int up), .val (.ref b37), .val (.ref bo), .unset, .unset] [(.ref bo)])) rfl (by rw [hml]; rfl) (Steps.refl _) (argsL := []) (rest := []) (lenOf pd_0___Ljava_lang_Object_ rfl) rfl (by show 2 * 0 + _ ≤ _; exact Nat.le_of_eq rfl) (hb hby at_117) (fun _ _ => ⟨rfl, e40, (by decide : 3 + 0 ≤ _), (by decide : 7 + 0 ≤ _)⟩)
      dsimp only [Pt.U, Pt.locs, Pt.cells, Pt.slots] at X41 l41 y41 z41 st41 hQ41
      subst l41 y41 z41
      obtain ⟨rfl, N41, e41⟩ := hQ41
      refine own_by (B := T41.setTop (mkF m 120 #[.val (.int ua), .val (.int ub), .val (.int uc), .val (.int (1 : Int32)), .val (.ref a_DECIMAL), .val (.int up), .val (.ref b37), .val (.ref bo), .unset, .unset] [(.ref (own_get bd))])) (fun _ k => st41.trans k) ?_
      have M41 := Fr.app M40 N41
      rw [show (own_get bd) = bd from rfl]
      obtain ⟨T42, X42, e42, st42⟩ := castY X41 hx hZ hown (hw _ (List.mem_of_getElem? (i := 5) rfl)) e41 (Ins.self ED39) (g := (mkF m 120 #[.val (.int ua), .val (.int ub), .val (.int uc), .val (.int (1 : Int32)), .val (.ref a_DECIMAL), .val (.int up), .val (.ref b37), .val (.ref bo), .unset, .unset] [(.ref bd)])) rfl rfl (hb hby at_120)
      refine own_by (B := T42.setTop (mkF m 123 #[.val (.int ua), .val (.int ub), .val (.int uc), .val (.int (1 : Int32)), .val (.ref a_DECIMAL), .val (.int up), .val (.ref b37), .val (.ref bo), .unset, .unset] [(.ref bd)])) st42 ?_
      refine own_by (B := T42.setTop (mkF m 125 #[.val (.int ua), .val (.int ub), .val (.int uc), .val (.int (1 : Int32)), .val (.ref a_DECIMAL), .val (.int up), .val (.ref b37), .val (.ref bo), .val (.ref bd), .unset] [])) (fun _ k => XS.astore X42.here hx rfl (hb hby at_123) rfl rfl (l' := #[.val (.int ua), .val (.int ub), .val (.int uc), .val (.int (1 : Int32)), .val (.ref a_DECIMAL), .val (.int up), .val (.ref b37), .val (.ref bo), .val (.ref bd), .unset]) rfl k) ?_
      refine own_by (B := T42.setTop (mkF m 126 #[.val (.int ua), .val (.int ub), .val (.int uc), .val (.int (1 : Int32)), .val (.ref a_DECIMAL), .val (.int up), .val (.ref b37), .val (.ref bo), .val (.ref bd), .unset] [(.int (1 : Int32))])) (fun _ k => XS.iloadN X42.here hx rfl (hb hby at_125) rfl  k) ?_
      refine own_by (B := T42.setTop (mkF m 171 #[.val (.int ua), .val (.int ub), .val (.int uc), .val (.int (1 : Int32)), .val (.ref a_DECIMAL), .val (.int up), .val (.ref b37), .val (.ref bo), .val (.ref bd), .unset] [])) (fun _ k => XS.ifYes X42.here hx rfl (pc0 := 126) (pc' := 171) rfl (hb hby at_126) rfl (XT.i0_ne_t (by decide)) (by decide) (by decide) k) ?_
      refine own_by (B := T42.setTop (mkF m 173 #[.val (.int ua), .val (.int ub), .val (.int uc), .val (.int (1 : Int32)), .val (.ref a_DECIMAL), .val (.int up), .val (.ref b37), .val (.ref bo), .val (.ref bd), .unset] [(.int up)])) (fun _ k => XS.iload X42.here hx rfl (hb hby at_171) rfl  k) ?_
      refine own_by (B := T42.setTop (mkF m 175 #[.val (.int ua), .val (.int ub), .val (.int uc), .val (.int (1 : Int32)), .val (.ref a_DECIMAL), .val (.int up), .val (.ref b37), .val (.ref bo), .val (.ref bd), .unset] [(.int (99990 : Int32)), (.int up)])) (fun _ k => X42.ldcI (g := (mkF m 173 #[.val (.int ua), .val (.int ub), .val (.int uc), .val (.int (1 : Int32)), .val (.ref a_DECIMAL), .val (.int up), .val (.ref b37), .val (.ref bo), .val (.ref bd), .unset] [(.int up)])) hx hown (mvT hZ (hw _ (List.mem_of_getElem? (i := 93) rfl))) rfl (hb hby at_173) k) ?_
      obtain ⟨mv43, hmv43⟩ : ∃ z : Int32, z = if (99990 : Int32) < up then (100000 : Int32) else (up + (10 : Int32)) := ⟨_, rfl⟩
      suffices hj44 : own_Go p.tables e below (own_K s below (own_Q0 n0) 16 128) (T42.setTop (mkF m 188 #[.val (.int ua), .val (.int ub), .val (.int uc), .val (.int (1 : Int32)), .val (.ref a_DECIMAL), .val (.int up), .val (.ref b37), .val (.ref bo), .val (.ref bd), .unset] [(.int mv43)])) by
        by_cases hc45 : (99990 : Int32) < up
        · refine own_by (B := T42.setTop (mkF m 186 #[.val (.int ua), .val (.int ub), .val (.int uc), .val (.int (1 : Int32)), .val (.ref a_DECIMAL), .val (.int up), .val (.ref b37), .val (.ref bo), .val (.ref bd), .unset] [])) (fun _ k => XS.icmpYes X42.here hx rfl (pc0 := 175) (pc' := 186) rfl (hb hby at_175) rfl (XT.ii_gt_t hc45) (by decide) (by decide) k) ?_
          refine own_by (B := T42.setTop (mkF m 188 #[.val (.int ua), .val (.int ub), .val (.int uc), .val (.int (1 : Int32)), .val (.ref a_DECIMAL), .val (.int up), .val (.ref b37), .val (.ref bo), .val (.ref bd), .unset] [(.int (100000 : Int32))])) (fun _ k => X42.ldcI (g := (mkF m 186 #[.val (.int ua), .val (.int ub), .val (.int uc), .val (.int (1 : Int32)), .val (.ref a_DECIMAL), .val (.int up), .val (.ref b37), .val (.ref bo), .val (.ref bd), .unset] [])) hx hown (mvT hZ (hw _ (List.mem_of_getElem? (i := 102) rfl))) rfl (hb hby at_186) k) ?_
          rw [show mv43 = (100000 : Int32) from hmv43.trans (((if_pos hc45).trans rfl))] at hj44
          exact hj44
        · refine own_by (B := T42.setTop (mkF m 178 #[.val (.int ua), .val (.int ub), .val (.int uc), .val (.int (1 : Int32)), .val (.ref a_DECIMAL), .val (.int up), .val (.ref b37), .val (.ref bo), .val (.ref bd), .unset] [])) (fun _ k => XS.icmpNo X42.here hx rfl (hb hby at_175) rfl (XT.ii_gt_f hc45) k) ?_
          refine own_by (B := T42.setTop (mkF m 180 #[.val (.int ua), .val (.int ub), .val (.int uc), .val (.int (1 : Int32)), .val (.ref a_DECIMAL), .val (.int up), .val (.ref b37), .val (.ref bo), .val (.ref bd), .unset] [(.int up)])) (fun _ k => XS.iload X42.here hx rfl (hb hby at_178) rfl  k) ?_
          refine own_by (B := T42.setTop (mkF m 182 #[.val (.int ua), .val (.int ub), .val (.int uc), .val (.int (1 : Int32)), .val (.ref a_DECIMAL), .val (.int up), .val (.ref b37), .val (.ref bo), .val (.ref bd), .unset] [(.int (10 : Int32)), (.int up)])) (fun _ k => XS.bipush X42.here hx rfl (hb hby at_180) k) ?_
          refine own_by (B := T42.setTop (mkF m 183 #[.val (.int ua), .val (.int ub), .val (.int uc), .val (.int (1 : Int32)), .val (.ref a_DECIMAL), .val (.int up), .val (.ref b37), .val (.ref bo), .val (.ref bd), .unset] [(.int (up + (10 : Int32)))])) (fun _ k => XS.iadd X42.here hx rfl (hb hby at_182) rfl k) ?_
          refine own_by (B := T42.setTop (mkF m 188 #[.val (.int ua), .val (.int ub), .val (.int uc), .val (.int (1 : Int32)), .val (.ref a_DECIMAL), .val (.int up), .val (.ref b37), .val (.ref bo), .val (.ref bd), .unset] [(.int (up + (10 : Int32)))])) (fun _ k => XS.goto X42.here hx rfl (pc0 := 183) (pc' := 188) rfl (hb hby at_183) (by decide) (by decide) k) ?_
          rw [show mv43 = (up + (10 : Int32)) from hmv43.trans (((if_neg hc45).trans rfl))] at hj44
          exact hj44
      refine own_by (B := T42.setTop (mkF m 190 #[.val (.int ua), .val (.int ub), .val (.int uc), .val (.int (1 : Int32)), .val (.ref a_DECIMAL), .val (.int up), .val (.ref b37), .val (.ref bo), .val (.ref bd), .val (.int mv43)] [])) (fun _ k => XS.istore X42.here hx rfl (hb hby at_188) rfl (l' := #[.val (.int ua), .val (.int ub), .val (.int uc), .val (.int (1 : Int32)), .val (.ref a_DECIMAL), .val (.int up), .val (.ref b37), .val (.ref bo), .val (.ref bd), .val (.int mv43)]) rfl k) ?_
      refine own_by (B := T42.setTop (mkF m 192 #[.val (.int ua), .val (.int ub), .val (.int uc), .val (.int (1 : Int32)), .val (.ref a_DECIMAL), .val (.int up), .val (.ref b37), .val (.ref bo), .val (.ref bd), .val (.int mv43)] [(.ref bd)])) (fun _ k => XS.aload X42.here hx rfl (hb hby at_190) rfl rfl  k) ?_
      obtain ⟨cq46, kq46, qa46, qb46, qc46⟩ := isOf hZ e42 ED39
      obtain ⟨_, _, ⟨T46, L46, k46, n46⟩, -, X46, ⟨Lc46, hQ46, l46, y46, z46⟩, st46⟩ := X42.virtualBack hx (y := (⟨"com/example/planwright/planwright/query/NumericType", "kind", "()Lcom/example/planwright/planwright/query/NumericKind;"⟩ : MethodName)) (z := (⟨"com/example/planwright/planwright/query/NumericType", "kind", "()Lcom/example/planwright/planwright/query/NumericKind;"⟩ : MethodName)) hown (mvT hZ (hw _ (List.mem_of_getElem? (i := 61) rfl))) (mvT hZ (hw _ (List.mem_of_getElem? (i := 62) rfl))) (notFace_of_selects (args := #[]) (mvT hZ (hw _ (List.mem_of_getElem? (i := 64) rfl)))) (mvT hZ (hw _ (List.mem_of_getElem? (i := 64) rfl))) (mvT hZ (hw _ (List.mem_of_getElem? (i := 63) rfl))) (by decide) (backOf (W := 0) (rmGk l Z a0 hw [] bd a_DECIMAL h39 n0 (own_old_le O39) FD39_0) hZ (hw _ (List.mem_of_getElem? (i := 65) rfl)) (hw _ (List.mem_of_getElem? (i := 7) rfl)) (by decide) (by decide)) qa46 qc46 (g := (mkF m 192 #[.val (.int ua), .val (.int ub), .val (.int uc), .val (.int (1 : Int32)), .val (.ref a_DECIMAL), .val (.int up), .val (.ref b37), .val (.ref bo), .val (.ref bd), .val (.int mv43)] [(.ref bd)])) rfl (by rw [hml]; rfl) (Steps.refl _) (argsL := []) (rest := []) (lenOf pd_0___Lcom_example_planwright_planwright_query_NumericKind_ rfl) rfl (by show 2 * 0 + _ ≤ _; exact Nat.le_of_eq rfl) (hb hby at_192) (fun _ _ => ⟨rfl, e42, (by decide : 3 + 0 ≤ _), (by decide : 7 + 0 ≤ _)⟩)
      dsimp only [Pt.U, Pt.locs, Pt.cells, Pt.slots] at X46 l46 y46 z46 st46 hQ46
      subst l46 y46 z46
      obtain ⟨rfl, N46, e46⟩ := hQ46
      refine own_by (B := T46.setTop (mkF m 195 #[.val (.int ua), .val (.int ub), .val (.int uc), .val (.int (1 : Int32)), .val (.ref a_DECIMAL), .val (.int up), .val (.ref b37), .val (.ref bo), .val (.ref bd), .val (.int mv43)] [(.ref (own_gk a_DECIMAL))])) (fun _ k => st46.trans k) ?_
      have M46 := Fr.app M41 N46
      rw [show (own_gk a_DECIMAL) = a_DECIMAL from rfl]
      obtain ⟨T47, X47, e47, st47⟩ := getS2 X46 hx hZ hown (host := "") (Or.inl (hw _ (List.mem_of_getElem? (i := 76) rfl))) Via.refl e46 (S_DECIMAL.ext O39.2) (g := (mkF m 195 #[.val (.int ua), .val (.int ub), .val (.int uc), .val (.int (1 : Int32)), .val (.ref a_DECIMAL), .val (.int up), .val (.ref b37), .val (.ref bo), .val (.ref bd), .val (.int mv43)] [(.ref a_DECIMAL)])) rfl (hb hby at_195)
      refine own_by (B := T47.setTop (mkF m 198 #[.val (.int ua), .val (.int ub), .val (.int uc), .val (.int (1 : Int32)), .val (.ref a_DECIMAL), .val (.int up), .val (.ref b37), .val (.ref bo), .val (.ref bd), .val (.int mv43)] [(.ref a_DECIMAL), (.ref a_DECIMAL)])) st47 ?_
      refine own_by (B := T47.setTop (mkF m 201 #[.val (.int ua), .val (.int ub), .val (.int uc), .val (.int (1 : Int32)), .val (.ref a_DECIMAL), .val (.int up), .val (.ref b37), .val (.ref bo), .val (.ref bd), .val (.int mv43)] [])) (fun _ k => XT.acmpNo X47.here hx rfl (hb hby at_198) rfl rfl rfl (XT.aa_ne_f rfl) k) ?_
      refine own_by (B := T47.setTop (mkF m 203 #[.val (.int ua), .val (.int ub), .val (.int uc), .val (.int (1 : Int32)), .val (.ref a_DECIMAL), .val (.int up), .val (.ref b37), .val (.ref bo), .val (.ref bd), .val (.int mv43)] [(.ref bd)])) (fun _ k => XS.aload X47.here hx rfl (hb hby at_201) rfl rfl  k) ?_
      obtain ⟨cq48, kq48, qa48, qb48, qc48⟩ := isOf hZ e47 ED39
      obtain ⟨_, _, ⟨T48, L48, k48, n48⟩, -, X48, ⟨Lc48, hQ48, l48, y48, z48⟩, st48⟩ := X47.virtualBack hx (y := (⟨"com/example/planwright/planwright/query/NumericType", "precision", "()I"⟩ : MethodName)) (z := (⟨"com/example/planwright/planwright/query/NumericType", "precision", "()I"⟩ : MethodName)) hown (mvT hZ (hw _ (List.mem_of_getElem? (i := 66) rfl))) (mvT hZ (hw _ (List.mem_of_getElem? (i := 67) rfl))) (notFace_of_selects (args := #[]) (mvT hZ (hw _ (List.mem_of_getElem? (i := 69) rfl)))) (mvT hZ (hw _ (List.mem_of_getElem? (i := 69) rfl))) (mvT hZ (hw _ (List.mem_of_getElem? (i := 68) rfl))) (by decide) (backOf (W := 0) (rmGp l Z a0 hw [] bd (own_min (up + (10 : Int32)) (100000 : Int32)) h39 n0 (own_old_le O39) FD39_1) hZ (hw _ (List.mem_of_getElem? (i := 70) rfl)) (hw _ (List.mem_of_getElem? (i := 7) rfl)) (by decide) (by decide)) qa48 qc48 (g := (mkF m 203 #[.val (.int ua), .val (.int ub), .val (.int uc), .val (.int (1 : Int32)), .val (.ref a_DECIMAL), .val (.int up), .val (.ref b37), .val (.ref bo), .val (.ref bd), .val (.int mv43)] [(.ref bd)])) rfl (by rw [hml]; rfl) (Steps.refl _) (argsL := []) (rest := []) (lenOf pd_0___I rfl) rfl (by show 2 * 0 + _ ≤ _; exact Nat.le_of_eq rfl) (hb hby at_203) (fun _ _ => ⟨rfl, e47, (by decide : 3 + 0 ≤ _), (by decide : 7 + 0 ≤ _)⟩)
      dsimp only [Pt.U, Pt.locs, Pt.cells, Pt.slots] at X48 l48 y48 z48 st48 hQ48
      subst l48 y48 z48
      obtain ⟨rfl, N48, e48⟩ := hQ48
      refine own_by (B := T48.setTop (mkF m 206 #[.val (.int ua), .val (.int ub), .val (.int uc), .val (.int (1 : Int32)), .val (.ref a_DECIMAL), .val (.int up), .val (.ref b37), .val (.ref bo), .val (.ref bd), .val (.int mv43)] [(.int (own_gp (own_min (up + (10 : Int32)) (100000 : Int32))))])) (fun _ k => st48.trans k) ?_
      have M48 := Fr.app M46 N48
      rw [show (own_gp (own_min (up + (10 : Int32)) (100000 : Int32))) = (own_min (up + (10 : Int32)) (100000 : Int32)) from rfl]
      refine own_by (B := T48.setTop (mkF m 208 #[.val (.int ua), .val (.int ub), .val (.int uc), .val (.int (1 : Int32)), .val (.ref a_DECIMAL), .val (.int up), .val (.ref b37), .val (.ref bo), .val (.ref bd), .val (.int mv43)] [(.int mv43), (.int (own_min (up + (10 : Int32)) (100000 : Int32)))])) (fun _ k => XS.iload X48.here hx rfl (hb hby at_206) rfl  k) ?_
      refine own_by (B := T48.setTop (mkF m 211 #[.val (.int ua), .val (.int ub), .val (.int uc), .val (.int (1 : Int32)), .val (.ref a_DECIMAL), .val (.int up), .val (.ref b37), .val (.ref bo), .val (.ref bd), .val (.int mv43)] [])) (fun _ k => XS.icmpNo X48.here hx rfl (hb hby at_208) rfl (XT.ii_ne_f (own_exp hup0 hup1 hmv43)) k) ?_
      refine own_by (B := T48.setTop (mkF m 213 #[.val (.int ua), .val (.int ub), .val (.int uc), .val (.int (1 : Int32)), .val (.ref a_DECIMAL), .val (.int up), .val (.ref b37), .val (.ref bo), .val (.ref bd), .val (.int mv43)] [(.ref bd)])) (fun _ k => XS.aload X48.here hx rfl (hb hby at_211) rfl rfl  k) ?_
      obtain ⟨cq49, kq49, qa49, qb49, qc49⟩ := isOf hZ e48 ED39
      obtain ⟨_, _, ⟨T49, L49, k49, n49⟩, -, X49, ⟨Lc49, hQ49, l49, y49, z49⟩, st49⟩ := X48.virtualBack hx (y := (⟨"com/example/planwright/planwright/query/NumericType", "scale", "()I"⟩ : MethodName)) (z := (⟨"com/example/planwright/planwright/query/NumericType", "scale", "()I"⟩ : MethodName)) hown (mvT hZ (hw _ (List.mem_of_getElem? (i := 71) rfl))) (mvT hZ (hw _ (List.mem_of_getElem? (i := 72) rfl))) (notFace_of_selects (args := #[]) (mvT hZ (hw _ (List.mem_of_getElem? (i := 74) rfl)))) (mvT hZ (hw _ (List.mem_of_getElem? (i := 74) rfl))) (mvT hZ (hw _ (List.mem_of_getElem? (i := 73) rfl))) (by decide) (backOf (W := 0) (rmGs l Z a0 hw [] bd uc h39 n0 (own_old_le O39) FD39_2) hZ (hw _ (List.mem_of_getElem? (i := 75) rfl)) (hw _ (List.mem_of_getElem? (i := 7) rfl)) (by decide) (by decide)) qa49 qc49 (g := (mkF m 213 #[.val (.int ua), .val (.int ub), .val (.int uc), .val (.int (1 : Int32)), .val (.ref a_DECIMAL), .val (.int up), .val (.ref b37), .val (.ref bo), .val (.ref bd), .val (.int mv43)] [(.ref bd)])) rfl (by rw [hml]; rfl) (Steps.refl _) (argsL := []) (rest := []) (lenOf pd_0___I rfl) rfl (by show 2 * 0 + _ ≤ _; exact Nat.le_of_eq rfl) (hb hby at_213) (fun _ _ => ⟨rfl, e48, (by decide : 3 + 0 ≤ _), (by decide : 7 + 0 ≤ _)⟩)
      dsimp only [Pt.U, Pt.locs, Pt.cells, Pt.slots] at X49 l49 y49 z49 st49 hQ49
      subst l49 y49 z49
      obtain ⟨rfl, N49, e49⟩ := hQ49
      refine own_by (B := T49.setTop (mkF m 216 #[.val (.int ua), .val (.int ub), .val (.int uc), .val (.int (1 : Int32)), .val (.ref a_DECIMAL), .val (.int up), .val (.ref b37), .val (.ref bo), .val (.ref bd), .val (.int mv43)] [(.int (own_gs uc))])) (fun _ k => st49.trans k) ?_
      have M49 := Fr.app M48 N49
      rw [show (own_gs uc) = uc from rfl]
      refine own_by (B := T49.setTop (mkF m 217 #[.val (.int ua), .val (.int ub), .val (.int uc), .val (.int (1 : Int32)), .val (.ref a_DECIMAL), .val (.int up), .val (.ref b37), .val (.ref bo), .val (.ref bd), .val (.int mv43)] [(.int uc), (.int uc)])) (fun _ k => XS.iloadN X49.here hx rfl (hb hby at_216) rfl  k) ?_
      refine own_by (B := T49.setTop (mkF m 220 #[.val (.int ua), .val (.int ub), .val (.int uc), .val (.int (1 : Int32)), .val (.ref a_DECIMAL), .val (.int up), .val (.ref b37), .val (.ref bo), .val (.ref bd), .val (.int mv43)] [])) (fun _ k => XS.icmpNo X49.here hx rfl (hb hby at_217) rfl (XT.ii_ne_f rfl) k) ?_
      refine own_by (B := T49.setTop (mkF m 221 #[.val (.int ua), .val (.int ub), .val (.int uc), .val (.int (1 : Int32)), .val (.ref a_DECIMAL), .val (.int up), .val (.ref b37), .val (.ref bo), .val (.ref bd), .val (.int mv43)] [(.int (1 : Int32))])) (fun _ k => XS.iconst X49.here hx rfl (hb hby at_220) k) ?_
      refine own_by (B := T49.setTop (mkF m 225 #[.val (.int ua), .val (.int ub), .val (.int uc), .val (.int (1 : Int32)), .val (.ref a_DECIMAL), .val (.int up), .val (.ref b37), .val (.ref bo), .val (.ref bd), .val (.int mv43)] [(.int (1 : Int32))])) (fun _ k => XS.goto X49.here hx rfl (pc0 := 221) (pc' := 225) rfl (hb hby at_221) (by decide) (by decide) k) ?_
      exact own_retZ X49 hx hrt hlk rfl (hb hby at_225) (by decide) (by decide) ⟨rfl, M49⟩
  · refine own_by (B := s₁.setTop (mkF m 5 #[.val (.int ua), .val (.int ub), .val (.int uc), .val (.int (2 : Int32)), .unset, .unset, .unset, .unset, .unset, .unset] [(.int (2 : Int32))])) (fun _ k => XS.iloadN X0.here hx rfl (hb hby at_4) rfl  k) ?_
    refine own_by (B := s₁.setTop (mkF m 16 #[.val (.int ua), .val (.int ub), .val (.int uc), .val (.int (2 : Int32)), .unset, .unset, .unset, .unset, .unset, .unset] [])) (fun _ k => XS.ifYes X0.here hx rfl (pc0 := 5) (pc' := 16) rfl (hb hby at_5) rfl (XT.i0_ne_t (by decide)) (by decide) (by decide) k) ?_
    refine own_by (B := s₁.setTop (mkF m 17 #[.val (.int ua), .val (.int ub), .val (.int uc), .val (.int (2 : Int32)), .unset, .unset, .unset, .unset, .unset, .unset] [(.int (2 : Int32))])) (fun _ k => XS.iloadN X0.here hx rfl (hb hby at_16) rfl  k) ?_
    refine own_by (B := s₁.setTop (mkF m 18 #[.val (.int ua), .val (.int ub), .val (.int uc), .val (.int (2 : Int32)), .unset, .unset, .unset, .unset, .unset, .unset] [(.int (1 : Int32)), (.int (2 : Int32))])) (fun _ k => XS.iconst X0.here hx rfl (hb hby at_17) k) ?_
    refine own_by (B := s₁.setTop (mkF m 29 #[.val (.int ua), .val (.int ub), .val (.int uc), .val (.int (2 : Int32)), .unset, .unset, .unset, .unset, .unset, .unset] [])) (fun _ k => XS.icmpYes X0.here hx rfl (pc0 := 18) (pc' := 29) rfl (hb hby at_18) rfl (XT.ii_ne_t (by decide)) (by decide) (by decide) k) ?_
    refine own_by (B := s₁.setTop (mkF m 30 #[.val (.int ua), .val (.int ub), .val (.int uc), .val (.int (2 : Int32)), .unset, .unset, .unset, .unset, .unset, .unset] [(.int (2 : Int32))])) (fun _ k => XS.iloadN X0.here hx rfl (hb hby at_29) rfl  k) ?_
    refine own_by (B := s₁.setTop (mkF m 31 #[.val (.int ua), .val (.int ub), .val (.int uc), .val (.int (2 : Int32)), .unset, .unset, .unset, .unset, .unset, .unset] [(.int (2 : Int32)), (.int (2 : Int32))])) (fun _ k => XS.iconst X0.here hx rfl (hb hby at_30) k) ?_
    refine own_by (B := s₁.setTop (mkF m 34 #[.val (.int ua), .val (.int ub), .val (.int uc), .val (.int (2 : Int32)), .unset, .unset, .unset, .unset, .unset, .unset] [])) (fun _ k => XS.icmpNo X0.here hx rfl (hb hby at_31) rfl (XT.ii_ne_f (by decide)) k) ?_
    obtain ⟨T50, X50, e50, st50⟩ := getS2 X0 hx hZ hown (host := "") (Or.inl (hw _ (List.mem_of_getElem? (i := 100) rfl))) Via.refl e0 (S_APPROXIMATE.ext O0.2) (g := (mkF m 34 #[.val (.int ua), .val (.int ub), .val (.int uc), .val (.int (2 : Int32)), .unset, .unset, .unset, .unset, .unset, .unset] [])) rfl (hb hby at_34)
    refine own_by (B := T50.setTop (mkF m 37 #[.val (.int ua), .val (.int ub), .val (.int uc), .val (.int (2 : Int32)), .unset, .unset, .unset, .unset, .unset, .unset] [(.ref a_APPROXIMATE)])) st50 ?_
    refine own_by (B := T50.setTop (mkF m 39 #[.val (.int ua), .val (.int ub), .val (.int uc), .val (.int (2 : Int32)), .val (.ref a_APPROXIMATE), .unset, .unset, .unset, .unset, .unset] [])) (fun _ k => XS.astore X50.here hx rfl (hb hby at_37) rfl rfl (l' := #[.val (.int ua), .val (.int ub), .val (.int uc), .val (.int (2 : Int32)), .val (.ref a_APPROXIMATE), .unset, .unset, .unset, .unset, .unset]) rfl k) ?_
    refine own_by (B := T50.setTop (mkF m 47 #[.val (.int ua), .val (.int ub), .val (.int uc), .val (.int (2 : Int32)), .val (.ref a_APPROXIMATE), .unset, .unset, .unset, .unset, .unset] [])) (fun _ k => XS.goto X50.here hx rfl (pc0 := 39) (pc' := 47) rfl (hb hby at_39) (by decide) (by decide) k) ?_
    refine own_by (B := T50.setTop (mkF m 48 #[.val (.int ua), .val (.int ub), .val (.int uc), .val (.int (2 : Int32)), .val (.ref a_APPROXIMATE), .unset, .unset, .unset, .unset, .unset] [(.int (2 : Int32))])) (fun _ k => XS.iloadN X50.here hx rfl (hb hby at_47) rfl  k) ?_
    refine own_by (B := T50.setTop (mkF m 49 #[.val (.int ua), .val (.int ub), .val (.int uc), .val (.int (2 : Int32)), .val (.ref a_APPROXIMATE), .unset, .unset, .unset, .unset, .unset] [(.int (1 : Int32)), (.int (2 : Int32))])) (fun _ k => XS.iconst X50.here hx rfl (hb hby at_48) k) ?_
    refine own_by (B := T50.setTop (mkF m 62 #[.val (.int ua), .val (.int ub), .val (.int uc), .val (.int (2 : Int32)), .val (.ref a_APPROXIMATE), .unset, .unset, .unset, .unset, .unset] [])) (fun _ k => XS.icmpYes X50.here hx rfl (pc0 := 49) (pc' := 62) rfl (hb hby at_49) rfl (XT.ii_gt_t (by decide)) (by decide) (by decide) k) ?_
    refine own_by (B := T50.setTop (mkF m 63 #[.val (.int ua), .val (.int ub), .val (.int uc), .val (.int (2 : Int32)), .val (.ref a_APPROXIMATE), .unset, .unset, .unset, .unset, .unset] [(.int (0 : Int32))])) (fun _ k => XS.iconst X50.here hx rfl (hb hby at_62) k) ?_
    refine own_by (B := T50.setTop (mkF m 65 #[.val (.int ua), .val (.int ub), .val (.int uc), .val (.int (2 : Int32)), .val (.ref a_APPROXIMATE), .val (.int (0 : Int32)), .unset, .unset, .unset, .unset] [])) (fun _ k => XS.istore X50.here hx rfl (hb hby at_63) rfl (l' := #[.val (.int ua), .val (.int ub), .val (.int uc), .val (.int (2 : Int32)), .val (.ref a_APPROXIMATE), .val (.int (0 : Int32)), .unset, .unset, .unset, .unset]) rfl k) ?_
    obtain ⟨T51, h51, X51, e51, E51, A51, D51, -, st51⟩ := newO X50 hx hZ hown (hw _ (List.mem_of_getElem? (i := 5) rfl)) (hw _ (List.mem_of_getElem? (i := 6) rfl)) (hw _ (List.mem_of_getElem? (i := 7) rfl)) e50 (g := (mkF m 65 #[.val (.int ua), .val (.int ub), .val (.int uc), .val (.int (2 : Int32)), .val (.ref a_APPROXIMATE), .val (.int (0 : Int32)), .unset, .unset, .unset, .unset] [])) rfl (hb hby at_65) (by decide) (by decide)
    obtain ⟨b51, g51⟩ : ∃ z, z = h0.size := ⟨_, rfl⟩
    rw [← g51] at A51 D51 st51
    have sz51 := E51.1
    have gn51 : n0 ≤ b51 := g51 ▸ own_old_le O0
    have fz51 : h0.size ≤ b51 := g51 ▸ K0.1
    have lt51 := A51.lt
    have O51 := O0.ext E51
    have K51 := K0.ext E51
    have F51_kind : Fld Z h51 b51 "com/example/planwright/planwright/query/NumericType" "kind" "Lcom/example/planwright/planwright/query/NumericKind;" .null := D51 (Or.inr (hw _ (List.mem_of_getElem? (i := 20) rfl))) (ty := (.object "com/example/planwright/planwright/query/NumericKind")) (by decide)
    have F51_precision : Fld Z h51 b51 "com/example/planwright/planwright/query/NumericType" "precision" "I" (.int (0 : Int32)) := D51 (Or.inr (hw _ (List.mem_of_getElem? (i := 22) rfl))) (ty := .int) (by decide)
    have F51_scale : Fld Z h51 b51 "com/example/planwright/planwright/query/NumericType" "scale" "I" (.int (0 : Int32)) := D51 (Or.inr (hw _ (List.mem_of_getElem? (i := 24) rfl))) (ty := .int) (by decide)
    refine own_by (B := T51.setTop (mkF m 68 #[.val (.int ua), .val (.int ub), .val (.int uc), .val (.int (2 : Int32)), .val (.ref a_APPROXIMATE), .val (.int (0 : Int32)), .unset, .unset, .unset, .unset] [(.ref b51)])) st51 ?_
    refine own_by (B := T51.setTop (mkF m 69 #[.val (.int ua), .val (.int ub), .val (.int uc), .val (.int (2 : Int32)), .val (.ref a_APPROXIMATE), .val (.int (0 : Int32)), .unset, .unset, .unset, .unset] [(.ref b51), (.ref b51)])) (fun _ k => XS.dup X51.here hx rfl (hb hby at_68) rfl rfl k) ?_
    refine own_by (B := T51.setTop (mkF m 71 #[.val (.int ua), .val (.int ub), .val (.int uc), .val (.int (2 : Int32)), .val (.ref a_APPROXIMATE), .val (.int (0 : Int32)), .unset, .unset, .unset, .unset] [(.ref a_APPROXIMATE), (.ref b51), (.ref b51)])) (fun _ k => XS.aload X51.here hx rfl (hb hby at_69) rfl rfl  k) ?_
    refine own_by (B := T51.setTop (mkF m 73 #[.val (.int ua), .val (.int ub), .val (.int uc), .val (.int (2 : Int32)), .val (.ref a_APPROXIMATE), .val (.int (0 : Int32)), .unset, .unset, .unset, .unset] [(.int (0 : Int32)), (.ref a_APPROXIMATE), (.ref b51), (.ref b51)])) (fun _ k => XS.iload X51.here hx rfl (hb hby at_71) rfl  k) ?_
    refine own_by (B := T51.setTop (mkF m 74 #[.val (.int ua), .val (.int ub), .val (.int uc), .val (.int (2 : Int32)), .val (.ref a_APPROXIMATE), .val (.int (0 : Int32)), .unset, .unset, .unset, .unset] [(.int uc), (.int (0 : Int32)), (.ref a_APPROXIMATE), (.ref b51), (.ref b51)])) (fun _ k => XS.iloadN X51.here hx rfl (hb hby at_73) rfl  k) ?_
    obtain ⟨_, _, ⟨T52, L52, k52, n52⟩, -, X52, ⟨Lc52, hQ52, l52, y52, z52⟩, st52⟩ := X51.specialBack hx (y := (⟨"com/example/planwright/planwright/query/NumericType", "<init>", "(Lcom/example/planwright/planwright/query/NumericKind;II)V"⟩ : MethodName)) rfl hown (mvT hZ (hw _ (List.mem_of_getElem? (i := 8) rfl))) (mvT hZ (hw _ (List.mem_of_getElem? (i := 9) rfl))) (mvT hZ (hw _ (List.mem_of_getElem? (i := 10) rfl))) (by decide) (backOf (W := 1) (rmNT l Z a0 hw [] b51 a_APPROXIMATE (0 : Int32) uc h51 n0 (own_old_le O51) O51 A51 F51_kind F51_precision F51_scale gn51) hZ (hw _ (List.mem_of_getElem? (i := 10) rfl)) (hw _ (List.mem_of_getElem? (i := 7) rfl)) (by decide) (by decide)) (g := (mkF m 74 #[.val (.int ua), .val (.int ub), .val (.int uc), .val (.int (2 : Int32)), .val (.ref a_APPROXIMATE), .val (.int (0 : Int32)), .unset, .unset, .unset, .unset] [(.int uc), (.int (0 : Int32)), (.ref a_APPROXIMATE), (.ref b51), (.ref b51)])) rfl (by rw [hml]; rfl) (Steps.refl _) (a := b51) (argsL := [(.ref a_APPROXIMATE), (.int (0 : Int32)), (.int uc)]) (rest := [(.ref b51)]) (lenOf pd_0__Lcom_example_planwright_planwright_query_NumericKind_II_V rfl) rfl (by show 2 * 0 + _ ≤ _; exact Nat.le_of_eq rfl) (hb hby at_74) (fun _ _ => ⟨rfl, e51, (by decide : 1 + 0 ≤ _), (by decide : 3 + 0 ≤ _)⟩)
    dsimp only [Pt.U, Pt.locs, Pt.cells, Pt.slots] at X52 l52 y52 z52 st52 hQ52
    subst l52 y52 z52
    obtain ⟨rfl, NC52, KC52, EC52, FC52_0, FC52_1, FC52_2⟩ := hQ52
    refine own_by (B := T52.setTop (mkF m 77 #[.val (.int ua), .val (.int ub), .val (.int uc), .val (.int (2 : Int32)), .val (.ref a_APPROXIMATE), .val (.int (0 : Int32)), .unset, .unset, .unset, .unset] [(.ref b51)])) (fun _ k => st52.trans k) ?_
    obtain ⟨h52, e52⟩ : ∃ z, T52.heap = z := ⟨_, rfl⟩
    rw [e52] at KC52 EC52 FC52_0 FC52_1 FC52_2
    have sz52 := KC52.1
    have O52 := O51.keep KC52 (allS gn51 all0)
    have K52 := K51.trans KC52 (allS (Or.inr fz51) all0)
    have N52 := Fr.app N0 NC52
    refine own_by (B := T52.setTop (mkF m 79 #[.val (.int ua), .val (.int ub), .val (.int uc), .val (.int (2 : Int32)), .val (.ref a_APPROXIMATE), .val (.int (0 : Int32)), .val (.ref b51), .unset, .unset, .unset] [])) (fun _ k => XS.astore X52.here hx rfl (hb hby at_77) rfl rfl (l' := #[.val (.int ua), .val (.int ub), .val (.int uc), .val (.int (2 : Int32)), .val (.ref a_APPROXIMATE), .val (.int (0 : Int32)), .val (.ref b51), .unset, .unset, .unset]) rfl k) ?_
    refine own_by (B := T52.setTop (mkF m 81 #[.val (.int ua), .val (.int ub), .val (.int uc), .val (.int (2 : Int32)), .val (.ref a_APPROXIMATE), .val (.int (0 : Int32)), .val (.ref b51), .unset, .unset, .unset] [(.ref b51)])) (fun _ k => XS.aload X52.here hx rfl (hb hby at_79) rfl rfl  k) ?_
    obtain ⟨cq53, kq53, qa53, qb53, qc53⟩ := isOf hZ e52 EC52
    obtain ⟨_, _, ⟨T53, L53, k53, n53⟩, -, X53, ⟨Lc53, hQ53, l53, y53, z53⟩, st53⟩ := X52.virtualBack hx (y := (⟨"com/example/planwright/planwright/query/NumericType", "sum", "()Ljava/util/Optional;"⟩ : MethodName)) (z := (⟨"com/example/planwright/planwright/query/NumericType", "sum", "()Ljava/util/Optional;"⟩ : MethodName)) hown (mvT hZ (hw _ (List.mem_of_getElem? (i := 25) rfl))) (mvT hZ (hw _ (List.mem_of_getElem? (i := 26) rfl))) (notFace_of_selects (args := #[]) (mvT hZ (hw _ (List.mem_of_getElem? (i := 28) rfl)))) (mvT hZ (hw _ (List.mem_of_getElem? (i := 28) rfl))) (mvT hZ (hw _ (List.mem_of_getElem? (i := 27) rfl))) (by decide) (backOf (W := 0) (rmSumA l Z a0 hw [] a_INTEGER a_BIGINT a_DECIMAL a_OTHER a_APPROXIMATE a_EMPTY b51 a_APPROXIMATE (0 : Int32) uc h52 n0 (own_old_le O52) O52 HW EC52 FC52_0 FC52_1 FC52_2 rfl) hZ (hw _ (List.mem_of_getElem? (i := 29) rfl)) (hw _ (List.mem_of_getElem? (i := 7) rfl)) (by decide) (by decide)) qa53 qc53 (g := (mkF m 81 #[.val (.int ua), .val (.int ub), .val (.int uc), .val (.int (2 : Int32)), .val (.ref a_APPROXIMATE), .val (.int (0 : Int32)), .val (.ref b51), .unset, .unset, .unset] [(.ref b51)])) rfl (by rw [hml]; rfl) (Steps.refl _) (argsL := []) (rest := []) (lenOf pd_0___Ljava_util_Optional_ rfl) rfl (by show 2 * 0 + _ ≤ _; exact Nat.le_of_eq rfl) (hb hby at_81) (fun _ _ => ⟨rfl, e52, (by decide : 1 + 0 ≤ _), (by decide : 3 + 0 ≤ _)⟩)
    dsimp only [Pt.U, Pt.locs, Pt.cells, Pt.slots] at X53 l53 y53 z53 st53 hQ53
    subst l53 y53 z53
    obtain ⟨rfl, N53, e53⟩ := hQ53
    refine own_by (B := T53.setTop (mkF m 84 #[.val (.int ua), .val (.int ub), .val (.int uc), .val (.int (2 : Int32)), .val (.ref a_APPROXIMATE), .val (.int (0 : Int32)), .val (.ref b51), .unset, .unset, .unset] [(.ref a_EMPTY)])) (fun _ k => st53.trans k) ?_
    have M53 := Fr.app N52 N53
    refine own_by (B := T53.setTop (mkF m 86 #[.val (.int ua), .val (.int ub), .val (.int uc), .val (.int (2 : Int32)), .val (.ref a_APPROXIMATE), .val (.int (0 : Int32)), .val (.ref b51), .val (.ref a_EMPTY), .unset, .unset] [])) (fun _ k => XS.astore X53.here hx rfl (hb hby at_84) rfl rfl (l' := #[.val (.int ua), .val (.int ub), .val (.int uc), .val (.int (2 : Int32)), .val (.ref a_APPROXIMATE), .val (.int (0 : Int32)), .val (.ref b51), .val (.ref a_EMPTY), .unset, .unset]) rfl k) ?_
    refine own_by (B := T53.setTop (mkF m 88 #[.val (.int ua), .val (.int ub), .val (.int uc), .val (.int (2 : Int32)), .val (.ref a_APPROXIMATE), .val (.int (0 : Int32)), .val (.ref b51), .val (.ref a_EMPTY), .unset, .unset] [(.int (0 : Int32))])) (fun _ k => XS.iload X53.here hx rfl (hb hby at_86) rfl  k) ?_
    refine own_by (B := T53.setTop (mkF m 91 #[.val (.int ua), .val (.int ub), .val (.int uc), .val (.int (2 : Int32)), .val (.ref a_APPROXIMATE), .val (.int (0 : Int32)), .val (.ref b51), .val (.ref a_EMPTY), .unset, .unset] [])) (fun _ k => XS.ifNo X53.here hx rfl (hb hby at_88) rfl (XT.i0_ne_f (by decide)) k) ?_
    refine own_by (B := T53.setTop (mkF m 93 #[.val (.int ua), .val (.int ub), .val (.int uc), .val (.int (2 : Int32)), .val (.ref a_APPROXIMATE), .val (.int (0 : Int32)), .val (.ref b51), .val (.ref a_EMPTY), .unset, .unset] [(.ref a_EMPTY)])) (fun _ k => XS.aload X53.here hx rfl (hb hby at_91) rfl rfl  k) ?_
    obtain ⟨cq54, kq54, qa54, qb54, qc54⟩ := isOf hZ e53 (E_EMPTY.ext O52.2)
    obtain ⟨_, _, ⟨T54, L54, k54, n54⟩, -, X54, ⟨Lc54, hQ54, l54, y54, z54⟩, st54⟩ := X53.virtualBack hx (y := (⟨"java/util/Optional", "isPresent", "()Z"⟩ : MethodName)) (z := (⟨"java/util/Optional", "isPresent", "()Z"⟩ : MethodName)) hown (mvT hZ (hw _ (List.mem_of_getElem? (i := 50) rfl))) (mvT hZ (hw _ (List.mem_of_getElem? (i := 51) rfl))) (notFace_of_selects (args := #[]) (mvT hZ (hw _ (List.mem_of_getElem? (i := 53) rfl)))) (mvT hZ (hw _ (List.mem_of_getElem? (i := 53) rfl))) (mvT hZ (hw _ (List.mem_of_getElem? (i := 52) rfl))) (by decide) (backOf (W := 0) (rmIsp0 l Z a0 hw [] a_EMPTY h52 n0 (own_old_le O52) (F_EMPTY_value.ext O52.2)) hZ (hw _ (List.mem_of_getElem? (i := 54) rfl)) (hw _ (List.mem_of_getElem? (i := 35) rfl)) (by decide) (by decide)) qa54 qc54 (g := (mkF m 93 #[.val (.int ua), .val (.int ub), .val (.int uc), .val (.int (2 : Int32)), .val (.ref a_APPROXIMATE), .val (.int (0 : Int32)), .val (.ref b51), .val (.ref a_EMPTY), .unset, .unset] [(.ref a_EMPTY)])) rfl (by rw [hml]; rfl) (Steps.refl _) (argsL := []) (rest := []) (lenOf pd_0___Z rfl) rfl (by show 2 * 0 + _ ≤ _; exact Nat.le_of_eq rfl) (hb hby at_93) (fun _ _ => ⟨rfl, e53, (by decide : 1 + 0 ≤ _), (by decide : 3 + 0 ≤ _)⟩)
    dsimp only [Pt.U, Pt.locs, Pt.cells, Pt.slots] at X54 l54 y54 z54 st54 hQ54
    subst l54 y54 z54
    obtain ⟨rfl, N54, e54⟩ := hQ54
    refine own_by (B := T54.setTop (mkF m 96 #[.val (.int ua), .val (.int ub), .val (.int uc), .val (.int (2 : Int32)), .val (.ref a_APPROXIMATE), .val (.int (0 : Int32)), .val (.ref b51), .val (.ref a_EMPTY), .unset, .unset] [(.int own_isp0)])) (fun _ k => st54.trans k) ?_
    have M54 := Fr.app M53 N54
    rw [show own_isp0 = (0 : Int32) from rfl]
    refine own_by (B := T54.setTop (mkF m 99 #[.val (.int ua), .val (.int ub), .val (.int uc), .val (.int (2 : Int32)), .val (.ref a_APPROXIMATE), .val (.int (0 : Int32)), .val (.ref b51), .val (.ref a_EMPTY), .unset, .unset] [])) (fun _ k => XS.ifNo X54.here hx rfl (hb hby at_96) rfl (XT.i0_ne_f (by decide)) k) ?_
    refine own_by (B := T54.setTop (mkF m 100 #[.val (.int ua), .val (.int ub), .val (.int uc), .val (.int (2 : Int32)), .val (.ref a_APPROXIMATE), .val (.int (0 : Int32)), .val (.ref b51), .val (.ref a_EMPTY), .unset, .unset] [(.int (1 : Int32))])) (fun _ k => XS.iconst X54.here hx rfl (hb hby at_99) k) ?_
    refine own_by (B := T54.setTop (mkF m 104 #[.val (.int ua), .val (.int ub), .val (.int uc), .val (.int (2 : Int32)), .val (.ref a_APPROXIMATE), .val (.int (0 : Int32)), .val (.ref b51), .val (.ref a_EMPTY), .unset, .unset] [(.int (1 : Int32))])) (fun _ k => XS.goto X54.here hx rfl (pc0 := 100) (pc' := 104) rfl (hb hby at_100) (by decide) (by decide) k) ?_
    exact own_retZ X54 hx hrt hlk rfl (hb hby at_104) (by decide) (by decide) ⟨rfl, M54⟩
  · refine own_by (B := s₁.setTop (mkF m 5 #[.val (.int ua), .val (.int ub), .val (.int uc), .val (.int (3 : Int32)), .unset, .unset, .unset, .unset, .unset, .unset] [(.int (3 : Int32))])) (fun _ k => XS.iloadN X0.here hx rfl (hb hby at_4) rfl  k) ?_
    refine own_by (B := s₁.setTop (mkF m 16 #[.val (.int ua), .val (.int ub), .val (.int uc), .val (.int (3 : Int32)), .unset, .unset, .unset, .unset, .unset, .unset] [])) (fun _ k => XS.ifYes X0.here hx rfl (pc0 := 5) (pc' := 16) rfl (hb hby at_5) rfl (XT.i0_ne_t (by decide)) (by decide) (by decide) k) ?_
    refine own_by (B := s₁.setTop (mkF m 17 #[.val (.int ua), .val (.int ub), .val (.int uc), .val (.int (3 : Int32)), .unset, .unset, .unset, .unset, .unset, .unset] [(.int (3 : Int32))])) (fun _ k => XS.iloadN X0.here hx rfl (hb hby at_16) rfl  k) ?_
    refine own_by (B := s₁.setTop (mkF m 18 #[.val (.int ua), .val (.int ub), .val (.int uc), .val (.int (3 : Int32)), .unset, .unset, .unset, .unset, .unset, .unset] [(.int (1 : Int32)), (.int (3 : Int32))])) (fun _ k => XS.iconst X0.here hx rfl (hb hby at_17) k) ?_
    refine own_by (B := s₁.setTop (mkF m 29 #[.val (.int ua), .val (.int ub), .val (.int uc), .val (.int (3 : Int32)), .unset, .unset, .unset, .unset, .unset, .unset] [])) (fun _ k => XS.icmpYes X0.here hx rfl (pc0 := 18) (pc' := 29) rfl (hb hby at_18) rfl (XT.ii_ne_t (by decide)) (by decide) (by decide) k) ?_
    refine own_by (B := s₁.setTop (mkF m 30 #[.val (.int ua), .val (.int ub), .val (.int uc), .val (.int (3 : Int32)), .unset, .unset, .unset, .unset, .unset, .unset] [(.int (3 : Int32))])) (fun _ k => XS.iloadN X0.here hx rfl (hb hby at_29) rfl  k) ?_
    refine own_by (B := s₁.setTop (mkF m 31 #[.val (.int ua), .val (.int ub), .val (.int uc), .val (.int (3 : Int32)), .unset, .unset, .unset, .unset, .unset, .unset] [(.int (2 : Int32)), (.int (3 : Int32))])) (fun _ k => XS.iconst X0.here hx rfl (hb hby at_30) k) ?_
    refine own_by (B := s₁.setTop (mkF m 42 #[.val (.int ua), .val (.int ub), .val (.int uc), .val (.int (3 : Int32)), .unset, .unset, .unset, .unset, .unset, .unset] [])) (fun _ k => XS.icmpYes X0.here hx rfl (pc0 := 31) (pc' := 42) rfl (hb hby at_31) rfl (XT.ii_ne_t (by decide)) (by decide) (by decide) k) ?_
    obtain ⟨T55, X55, e55, st55⟩ := getS2 X0 hx hZ hown (host := "") (Or.inl (hw _ (List.mem_of_getElem? (i := 94) rfl))) Via.refl e0 (S_OTHER.ext O0.2) (g := (mkF m 42 #[.val (.int ua), .val (.int ub), .val (.int uc), .val (.int (3 : Int32)), .unset, .unset, .unset, .unset, .unset, .unset] [])) rfl (hb hby at_42)
    refine own_by (B := T55.setTop (mkF m 45 #[.val (.int ua), .val (.int ub), .val (.int uc), .val (.int (3 : Int32)), .unset, .unset, .unset, .unset, .unset, .unset] [(.ref a_OTHER)])) st55 ?_
    refine own_by (B := T55.setTop (mkF m 47 #[.val (.int ua), .val (.int ub), .val (.int uc), .val (.int (3 : Int32)), .val (.ref a_OTHER), .unset, .unset, .unset, .unset, .unset] [])) (fun _ k => XS.astore X55.here hx rfl (hb hby at_45) rfl rfl (l' := #[.val (.int ua), .val (.int ub), .val (.int uc), .val (.int (3 : Int32)), .val (.ref a_OTHER), .unset, .unset, .unset, .unset, .unset]) rfl k) ?_
    refine own_by (B := T55.setTop (mkF m 48 #[.val (.int ua), .val (.int ub), .val (.int uc), .val (.int (3 : Int32)), .val (.ref a_OTHER), .unset, .unset, .unset, .unset, .unset] [(.int (3 : Int32))])) (fun _ k => XS.iloadN X55.here hx rfl (hb hby at_47) rfl  k) ?_
    refine own_by (B := T55.setTop (mkF m 49 #[.val (.int ua), .val (.int ub), .val (.int uc), .val (.int (3 : Int32)), .val (.ref a_OTHER), .unset, .unset, .unset, .unset, .unset] [(.int (1 : Int32)), (.int (3 : Int32))])) (fun _ k => XS.iconst X55.here hx rfl (hb hby at_48) k) ?_
    refine own_by (B := T55.setTop (mkF m 62 #[.val (.int ua), .val (.int ub), .val (.int uc), .val (.int (3 : Int32)), .val (.ref a_OTHER), .unset, .unset, .unset, .unset, .unset] [])) (fun _ k => XS.icmpYes X55.here hx rfl (pc0 := 49) (pc' := 62) rfl (hb hby at_49) rfl (XT.ii_gt_t (by decide)) (by decide) (by decide) k) ?_
    refine own_by (B := T55.setTop (mkF m 63 #[.val (.int ua), .val (.int ub), .val (.int uc), .val (.int (3 : Int32)), .val (.ref a_OTHER), .unset, .unset, .unset, .unset, .unset] [(.int (0 : Int32))])) (fun _ k => XS.iconst X55.here hx rfl (hb hby at_62) k) ?_
    refine own_by (B := T55.setTop (mkF m 65 #[.val (.int ua), .val (.int ub), .val (.int uc), .val (.int (3 : Int32)), .val (.ref a_OTHER), .val (.int (0 : Int32)), .unset, .unset, .unset, .unset] [])) (fun _ k => XS.istore X55.here hx rfl (hb hby at_63) rfl (l' := #[.val (.int ua), .val (.int ub), .val (.int uc), .val (.int (3 : Int32)), .val (.ref a_OTHER), .val (.int (0 : Int32)), .unset, .unset, .unset, .unset]) rfl k) ?_
    obtain ⟨T56, h56, X56, e56, E56, A56, D56, -, st56⟩ := newO X55 hx hZ hown (hw _ (List.mem_of_getElem? (i := 5) rfl)) (hw _ (List.mem_of_getElem? (i := 6) rfl)) (hw _ (List.mem_of_getElem? (i := 7) rfl)) e55 (g := (mkF m 65 #[.val (.int ua), .val (.int ub), .val (.int uc), .val (.int (3 : Int32)), .val (.ref a_OTHER), .val (.int (0 : Int32)), .unset, .unset, .unset, .unset] [])) rfl (hb hby at_65) (by decide) (by decide)
    obtain ⟨b56, g56⟩ : ∃ z, z = h0.size := ⟨_, rfl⟩
    rw [← g56] at A56 D56 st56
    have sz56 := E56.1
    have gn56 : n0 ≤ b56 := g56 ▸ own_old_le O0
    have fz56 : h0.size ≤ b56 := g56 ▸ K0.1
    have lt56 := A56.lt
    have O56 := O0.ext E56
    have K56 := K0.ext E56
    have F56_kind : Fld Z h56 b56 "com/example/planwright/planwright/query/NumericType" "kind" "Lcom/example/planwright/planwright/query/NumericKind;" .null := D56 (Or.inr (hw _ (List.mem_of_getElem? (i := 20) rfl))) (ty := (.object "com/example/planwright/planwright/query/NumericKind")) (by decide)
    have F56_precision : Fld Z h56 b56 "com/example/planwright/planwright/query/NumericType" "precision" "I" (.int (0 : Int32)) := D56 (Or.inr (hw _ (List.mem_of_getElem? (i := 22) rfl))) (ty := .int) (by decide)
    have F56_scale : Fld Z h56 b56 "com/example/planwright/planwright/query/NumericType" "scale" "I" (.int (0 : Int32)) := D56 (Or.inr (hw _ (List.mem_of_getElem? (i := 24) rfl))) (ty := .int) (by decide)
    refine own_by (B := T56.setTop (mkF m 68 #[.val (.int ua), .val (.int ub), .val (.int uc), .val (.int (3 : Int32)), .val (.ref a_OTHER), .val (.int (0 : Int32)), .unset, .unset, .unset, .unset] [(.ref b56)])) st56 ?_
    refine own_by (B := T56.setTop (mkF m 69 #[.val (.int ua), .val (.int ub), .val (.int uc), .val (.int (3 : Int32)), .val (.ref a_OTHER), .val (.int (0 : Int32)), .unset, .unset, .unset, .unset] [(.ref b56), (.ref b56)])) (fun _ k => XS.dup X56.here hx rfl (hb hby at_68) rfl rfl k) ?_
    refine own_by (B := T56.setTop (mkF m 71 #[.val (.int ua), .val (.int ub), .val (.int uc), .val (.int (3 : Int32)), .val (.ref a_OTHER), .val (.int (0 : Int32)), .unset, .unset, .unset, .unset] [(.ref a_OTHER), (.ref b56), (.ref b56)])) (fun _ k => XS.aload X56.here hx rfl (hb hby at_69) rfl rfl  k) ?_
    refine own_by (B := T56.setTop (mkF m 73 #[.val (.int ua), .val (.int ub), .val (.int uc), .val (.int (3 : Int32)), .val (.ref a_OTHER), .val (.int (0 : Int32)), .unset, .unset, .unset, .unset] [(.int (0 : Int32)), (.ref a_OTHER), (.ref b56), (.ref b56)])) (fun _ k => XS.iload X56.here hx rfl (hb hby at_71) rfl  k) ?_
    refine own_by (B := T56.setTop (mkF m 74 #[.val (.int ua), .val (.int ub), .val (.int uc), .val (.int (3 : Int32)), .val (.ref a_OTHER), .val (.int (0 : Int32)), .unset, .unset, .unset, .unset] [(.int uc), (.int (0 : Int32)), (.ref a_OTHER), (.ref b56), (.ref b56)])) (fun _ k => XS.iloadN X56.here hx rfl (hb hby at_73) rfl  k) ?_
    obtain ⟨_, _, ⟨T57, L57, k57, n57⟩, -, X57, ⟨Lc57, hQ57, l57, y57, z57⟩, st57⟩ := X56.specialBack hx (y := (⟨"com/example/planwright/planwright/query/NumericType", "<init>", "(Lcom/example/planwright/planwright/query/NumericKind;II)V"⟩ : MethodName)) rfl hown (mvT hZ (hw _ (List.mem_of_getElem? (i := 8) rfl))) (mvT hZ (hw _ (List.mem_of_getElem? (i := 9) rfl))) (mvT hZ (hw _ (List.mem_of_getElem? (i := 10) rfl))) (by decide) (backOf (W := 1) (rmNT l Z a0 hw [] b56 a_OTHER (0 : Int32) uc h56 n0 (own_old_le O56) O56 A56 F56_kind F56_precision F56_scale gn56) hZ (hw _ (List.mem_of_getElem? (i := 10) rfl)) (hw _ (List.mem_of_getElem? (i := 7) rfl)) (by decide) (by decide)) (g := (mkF m 74 #[.val (.int ua), .val (.int ub), .val (.int uc), .val (.int (3 : Int32)), .val (.ref a_OTHER), .val (.int (0 : Int32)), .unset, .unset, .unset, .unset] [(.int uc), (.int (0 : Int32)), (.ref a_OTHER), (.ref b56), (.ref b56)])) rfl (by rw [hml]; rfl) (Steps.refl _) (a := b56) (argsL := [(.ref a_OTHER), (.int (0 : Int32)), (.int uc)]) (rest := [(.ref b56)]) (lenOf pd_0__Lcom_example_planwright_planwright_query_NumericKind_II_V rfl) rfl (by show 2 * 0 + _ ≤ _; exact Nat.le_of_eq rfl) (hb hby at_74) (fun _ _ => ⟨rfl, e56, (by decide : 1 + 0 ≤ _), (by decide : 3 + 0 ≤ _)⟩)
    dsimp only [Pt.U, Pt.locs, Pt.cells, Pt.slots] at X57 l57 y57 z57 st57 hQ57
    subst l57 y57 z57
    obtain ⟨rfl, NC57, KC57, EC57, FC57_0, FC57_1, FC57_2⟩ := hQ57
    refine own_by (B := T57.setTop (mkF m 77 #[.val (.int ua), .val (.int ub), .val (.int uc), .val (.int (3 : Int32)), .val (.ref a_OTHER), .val (.int (0 : Int32)), .unset, .unset, .unset, .unset] [(.ref b56)])) (fun _ k => st57.trans k) ?_
    obtain ⟨h57, e57⟩ : ∃ z, T57.heap = z := ⟨_, rfl⟩
    rw [e57] at KC57 EC57 FC57_0 FC57_1 FC57_2
    have sz57 := KC57.1
    have O57 := O56.keep KC57 (allS gn56 all0)
    have K57 := K56.trans KC57 (allS (Or.inr fz56) all0)
    have N57 := Fr.app N0 NC57
    refine own_by (B := T57.setTop (mkF m 79 #[.val (.int ua), .val (.int ub), .val (.int uc), .val (.int (3 : Int32)), .val (.ref a_OTHER), .val (.int (0 : Int32)), .val (.ref b56), .unset, .unset, .unset] [])) (fun _ k => XS.astore X57.here hx rfl (hb hby at_77) rfl rfl (l' := #[.val (.int ua), .val (.int ub), .val (.int uc), .val (.int (3 : Int32)), .val (.ref a_OTHER), .val (.int (0 : Int32)), .val (.ref b56), .unset, .unset, .unset]) rfl k) ?_
    refine own_by (B := T57.setTop (mkF m 81 #[.val (.int ua), .val (.int ub), .val (.int uc), .val (.int (3 : Int32)), .val (.ref a_OTHER), .val (.int (0 : Int32)), .val (.ref b56), .unset, .unset, .unset] [(.ref b56)])) (fun _ k => XS.aload X57.here hx rfl (hb hby at_79) rfl rfl  k) ?_
    obtain ⟨cq58, kq58, qa58, qb58, qc58⟩ := isOf hZ e57 EC57
    obtain ⟨_, _, ⟨T58, L58, k58, n58⟩, -, X58, ⟨Lc58, hQ58, l58, y58, z58⟩, st58⟩ := X57.virtualBack hx (y := (⟨"com/example/planwright/planwright/query/NumericType", "sum", "()Ljava/util/Optional;"⟩ : MethodName)) (z := (⟨"com/example/planwright/planwright/query/NumericType", "sum", "()Ljava/util/Optional;"⟩ : MethodName)) hown (mvT hZ (hw _ (List.mem_of_getElem? (i := 25) rfl))) (mvT hZ (hw _ (List.mem_of_getElem? (i := 26) rfl))) (notFace_of_selects (args := #[]) (mvT hZ (hw _ (List.mem_of_getElem? (i := 28) rfl)))) (mvT hZ (hw _ (List.mem_of_getElem? (i := 28) rfl))) (mvT hZ (hw _ (List.mem_of_getElem? (i := 27) rfl))) (by decide) (backOf (W := 0) (rmSumA l Z a0 hw [] a_INTEGER a_BIGINT a_DECIMAL a_OTHER a_APPROXIMATE a_EMPTY b56 a_OTHER (0 : Int32) uc h57 n0 (own_old_le O57) O57 HW EC57 FC57_0 FC57_1 FC57_2 rfl) hZ (hw _ (List.mem_of_getElem? (i := 29) rfl)) (hw _ (List.mem_of_getElem? (i := 7) rfl)) (by decide) (by decide)) qa58 qc58 (g := (mkF m 81 #[.val (.int ua), .val (.int ub), .val (.int uc), .val (.int (3 : Int32)), .val (.ref a_OTHER), .val (.int (0 : Int32)), .val (.ref b56), .unset, .unset, .unset] [(.ref b56)])) rfl (by rw [hml]; rfl) (Steps.refl _) (argsL := []) (rest := []) (lenOf pd_0___Ljava_util_Optional_ rfl) rfl (by show 2 * 0 + _ ≤ _; exact Nat.le_of_eq rfl) (hb hby at_81) (fun _ _ => ⟨rfl, e57, (by decide : 1 + 0 ≤ _), (by decide : 3 + 0 ≤ _)⟩)
    dsimp only [Pt.U, Pt.locs, Pt.cells, Pt.slots] at X58 l58 y58 z58 st58 hQ58
    subst l58 y58 z58
    obtain ⟨rfl, N58, e58⟩ := hQ58
    refine own_by (B := T58.setTop (mkF m 84 #[.val (.int ua), .val (.int ub), .val (.int uc), .val (.int (3 : Int32)), .val (.ref a_OTHER), .val (.int (0 : Int32)), .val (.ref b56), .unset, .unset, .unset] [(.ref a_EMPTY)])) (fun _ k => st58.trans k) ?_
    have M58 := Fr.app N57 N58
    refine own_by (B := T58.setTop (mkF m 86 #[.val (.int ua), .val (.int ub), .val (.int uc), .val (.int (3 : Int32)), .val (.ref a_OTHER), .val (.int (0 : Int32)), .val (.ref b56), .val (.ref a_EMPTY), .unset, .unset] [])) (fun _ k => XS.astore X58.here hx rfl (hb hby at_84) rfl rfl (l' := #[.val (.int ua), .val (.int ub), .val (.int uc), .val (.int (3 : Int32)), .val (.ref a_OTHER), .val (.int (0 : Int32)), .val (.ref b56), .val (.ref a_EMPTY), .unset, .unset]) rfl k) ?_
    refine own_by (B := T58.setTop (mkF m 88 #[.val (.int ua), .val (.int ub), .val (.int uc), .val (.int (3 : Int32)), .val (.ref a_OTHER), .val (.int (0 : Int32)), .val (.ref b56), .val (.ref a_EMPTY), .unset, .unset] [(.int (0 : Int32))])) (fun _ k => XS.iload X58.here hx rfl (hb hby at_86) rfl  k) ?_
    refine own_by (B := T58.setTop (mkF m 91 #[.val (.int ua), .val (.int ub), .val (.int uc), .val (.int (3 : Int32)), .val (.ref a_OTHER), .val (.int (0 : Int32)), .val (.ref b56), .val (.ref a_EMPTY), .unset, .unset] [])) (fun _ k => XS.ifNo X58.here hx rfl (hb hby at_88) rfl (XT.i0_ne_f (by decide)) k) ?_
    refine own_by (B := T58.setTop (mkF m 93 #[.val (.int ua), .val (.int ub), .val (.int uc), .val (.int (3 : Int32)), .val (.ref a_OTHER), .val (.int (0 : Int32)), .val (.ref b56), .val (.ref a_EMPTY), .unset, .unset] [(.ref a_EMPTY)])) (fun _ k => XS.aload X58.here hx rfl (hb hby at_91) rfl rfl  k) ?_
    obtain ⟨cq59, kq59, qa59, qb59, qc59⟩ := isOf hZ e58 (E_EMPTY.ext O57.2)
    obtain ⟨_, _, ⟨T59, L59, k59, n59⟩, -, X59, ⟨Lc59, hQ59, l59, y59, z59⟩, st59⟩ := X58.virtualBack hx (y := (⟨"java/util/Optional", "isPresent", "()Z"⟩ : MethodName)) (z := (⟨"java/util/Optional", "isPresent", "()Z"⟩ : MethodName)) hown (mvT hZ (hw _ (List.mem_of_getElem? (i := 50) rfl))) (mvT hZ (hw _ (List.mem_of_getElem? (i := 51) rfl))) (notFace_of_selects (args := #[]) (mvT hZ (hw _ (List.mem_of_getElem? (i := 53) rfl)))) (mvT hZ (hw _ (List.mem_of_getElem? (i := 53) rfl))) (mvT hZ (hw _ (List.mem_of_getElem? (i := 52) rfl))) (by decide) (backOf (W := 0) (rmIsp0 l Z a0 hw [] a_EMPTY h57 n0 (own_old_le O57) (F_EMPTY_value.ext O57.2)) hZ (hw _ (List.mem_of_getElem? (i := 54) rfl)) (hw _ (List.mem_of_getElem? (i := 35) rfl)) (by decide) (by decide)) qa59 qc59 (g := (mkF m 93 #[.val (.int ua), .val (.int ub), .val (.int uc), .val (.int (3 : Int32)), .val (.ref a_OTHER), .val (.int (0 : Int32)), .val (.ref b56), .val (.ref a_EMPTY), .unset, .unset] [(.ref a_EMPTY)])) rfl (by rw [hml]; rfl) (Steps.refl _) (argsL := []) (rest := []) (lenOf pd_0___Z rfl) rfl (by show 2 * 0 + _ ≤ _; exact Nat.le_of_eq rfl) (hb hby at_93) (fun _ _ => ⟨rfl, e58, (by decide : 1 + 0 ≤ _), (by decide : 3 + 0 ≤ _)⟩)
    dsimp only [Pt.U, Pt.locs, Pt.cells, Pt.slots] at X59 l59 y59 z59 st59 hQ59
    subst l59 y59 z59
    obtain ⟨rfl, N59, e59⟩ := hQ59
    refine own_by (B := T59.setTop (mkF m 96 #[.val (.int ua), .val (.int ub), .val (.int uc), .val (.int (3 : Int32)), .val (.ref a_OTHER), .val (.int (0 : Int32)), .val (.ref b56), .val (.ref a_EMPTY), .unset, .unset] [(.int own_isp0)])) (fun _ k => st59.trans k) ?_
    have M59 := Fr.app M58 N59
    rw [show own_isp0 = (0 : Int32) from rfl]
    refine own_by (B := T59.setTop (mkF m 99 #[.val (.int ua), .val (.int ub), .val (.int uc), .val (.int (3 : Int32)), .val (.ref a_OTHER), .val (.int (0 : Int32)), .val (.ref b56), .val (.ref a_EMPTY), .unset, .unset] [])) (fun _ k => XS.ifNo X59.here hx rfl (hb hby at_96) rfl (XT.i0_ne_f (by decide)) k) ?_
    refine own_by (B := T59.setTop (mkF m 100 #[.val (.int ua), .val (.int ub), .val (.int uc), .val (.int (3 : Int32)), .val (.ref a_OTHER), .val (.int (0 : Int32)), .val (.ref b56), .val (.ref a_EMPTY), .unset, .unset] [(.int (1 : Int32))])) (fun _ k => XS.iconst X59.here hx rfl (hb hby at_99) k) ?_
    refine own_by (B := T59.setTop (mkF m 104 #[.val (.int ua), .val (.int ub), .val (.int uc), .val (.int (3 : Int32)), .val (.ref a_OTHER), .val (.int (0 : Int32)), .val (.ref b56), .val (.ref a_EMPTY), .unset, .unset] [(.int (1 : Int32))])) (fun _ k => XS.goto X59.here hx rfl (pc0 := 100) (pc' := 104) rfl (hb hby at_100) (by decide) (by decide) k) ?_
    exact own_retZ X59 hx hrt hlk rfl (hb hby at_104) (by decide) (by decide) ⟨rfl, M59⟩

set_option maxRecDepth 65536 in
set_option maxHeartbeats 40000000 in
theorem comes_1 {Post : Tables → Env → Array Value → State → Outcome → State → Prop} (hpost : ∀ tb e args s v u, (limb_1_1.after args s (.returned v) u = true ∧ limb_1_2.after args s (.returned v) u = true ∧ True) → FrameEnd s (.returned v) u (Jvm.fieldLocs frame_1_writes args s ++ Jvm.arrayLocs frame_1_arrays args s ++ Jvm.staticLocs frame_1_statics s) 16 128 → Post tb e args s (.returned v) u) :
    ArmFor flags0 classFile x code maxLocals ret World_1 tables_1 room_1 Calls_1 rest_1 Pre_1 Post := by
  intro l hfl _ _ p e ha hc hk s m args below hf hA hF happ hP
  obtain ⟨hcalls, hrest, hpre⟩ := hP
  obtain ⟨-, -, -, hnamed, -, -, -, hat⟩ := (Spec.applies_iff hf).mp happ
  obtain ⟨hg, hn⟩ := and_e (Cond.before_iff.mp (show (Jvm.Cond.and given_1 narrow_1).before args s = true from hpre))
  obtain ⟨hg1a, hg1b⟩ := and_e hg
  obtain ⟨hg2a, hg2b⟩ := and_e hg1b
  obtain ⟨hg3a, hg3b⟩ := and_e hg2b
  obtain ⟨w0, w1, w2, rfl⟩ : ∃ w0 w1 w2 : Value, args = #[w0, w1, w2] := by
    have hs : args.size = 3 := by simpa [Cond.value, given_1] using hg1a
    obtain ⟨L⟩ := args
    match L, hs with
    | [w0, w1, w2], _ => exact ⟨w0, w1, w2, rfl⟩
  have hw := fun d (hd : d ∈ tables_1) => atoms_spec (ws := Jvm.Cond.code x code maxLocals ret :: tables_1) hat d (List.mem_cons_of_mem _ hd)
  have hfit : Fit s := fun {y c} hc i hi => by
    obtain ⟨ha, rfl⟩ := Array.getElem?_eq_some_iff.mp hc
    have q := List.all_eq_true.mp ((Array.all_eq_true_iff_forall_mem.mp hF) _ (Array.getElem_mem ha)) i (List.mem_range.mpr hi)
    simpa [Array.getElem?_eq_getElem hi] using q
  obtain ⟨hsets, hown0⟩ := atoms_of _ (rest_1_c_eq ▸ (show rest_1_c.before _ s = true from hrest))
  have hr0 := Cond.before_iff.mp hown0
  obtain ⟨i0, ei0⟩ := is_v hg2a
  obtain rfl : w0 = (.int i0) := Option.some.inj ei0
  obtain ⟨i1, ei1⟩ := is_v hg3a
  obtain rfl : w1 = (.int i1) := Option.some.inj ei1
  obtain ⟨i2, ei2⟩ := is_v hg3b
  obtain rfl : w2 = (.int i2) := Option.some.inj ei2
  obtain ⟨hn1a, hn1b⟩ := and_e hn
  obtain ⟨hn2a, hn2b⟩ := and_e hn1b
  obtain ⟨hn3a, hn3b⟩ := and_e hn2b
  obtain ⟨hn4a, hn4b⟩ := and_e hn3b
  obtain ⟨hn5a, hn5b⟩ := and_e hn4b
  obtain ⟨hn6a, hn6b⟩ := and_e hn5b
  obtain ⟨hn7a, hn7b⟩ := and_e hn6b
  obtain ⟨hn8a, hn8b⟩ := and_e hn7b
  obtain ⟨hn9a, hn9b⟩ := and_e hn8b
  obtain ⟨a_INTEGER, ev_INTEGER⟩ := exa_v hn1a
  have E_INTEGER : Exa s s.heap a_INTEGER "com/example/planwright/planwright/query/NumericKind" := Exa.start ev_INTEGER hn1a
  have S_INTEGER : Sta s s.heap "com/example/planwright/planwright/query/NumericKind" "INTEGER" "Lcom/example/planwright/planwright/query/NumericKind;" (.ref a_INTEGER) := Sta.start ev_INTEGER (Or.inr ⟨(hw _ (List.mem_of_getElem? (i := 1) rfl)), (hw _ (List.mem_of_getElem? (i := 2) rfl))⟩)
  obtain ⟨a_BIGINT, ev_BIGINT⟩ := exa_v hn2a
  have E_BIGINT : Exa s s.heap a_BIGINT "com/example/planwright/planwright/query/NumericType" := Exa.start ev_BIGINT hn2a
  have S_BIGINT : Sta s s.heap "com/example/planwright/planwright/query/NumericType" "BIGINT" "Lcom/example/planwright/planwright/query/NumericType;" (.ref a_BIGINT) := Sta.start ev_BIGINT (Or.inr ⟨(hw _ (List.mem_of_getElem? (i := 7) rfl)), (hw _ (List.mem_of_getElem? (i := 32) rfl))⟩)
  obtain ⟨a_DECIMAL, ev_DECIMAL⟩ := exa_v hn6a
  have E_DECIMAL : Exa s s.heap a_DECIMAL "com/example/planwright/planwright/query/NumericKind" := Exa.start ev_DECIMAL hn6a
  have S_DECIMAL : Sta s s.heap "com/example/planwright/planwright/query/NumericKind" "DECIMAL" "Lcom/example/planwright/planwright/query/NumericKind;" (.ref a_DECIMAL) := Sta.start ev_DECIMAL (Or.inr ⟨(hw _ (List.mem_of_getElem? (i := 1) rfl)), (hw _ (List.mem_of_getElem? (i := 77) rfl))⟩)
  obtain ⟨a_OTHER, ev_OTHER⟩ := exa_v hn9a
  have E_OTHER : Exa s s.heap a_OTHER "com/example/planwright/planwright/query/NumericKind" := Exa.start ev_OTHER hn9a
  have S_OTHER : Sta s s.heap "com/example/planwright/planwright/query/NumericKind" "OTHER" "Lcom/example/planwright/planwright/query/NumericKind;" (.ref a_OTHER) := Sta.start ev_OTHER (Or.inr ⟨(hw _ (List.mem_of_getElem? (i := 1) rfl)), (hw _ (List.mem_of_getElem? (i := 95) rfl))⟩)
  obtain ⟨a_APPROXIMATE, ev_APPROXIMATE⟩ := exa_v hn9b
  have E_APPROXIMATE : Exa s s.heap a_APPROXIMATE "com/example/planwright/planwright/query/NumericKind" := Exa.start ev_APPROXIMATE hn9b
  have S_APPROXIMATE : Sta s s.heap "com/example/planwright/planwright/query/NumericKind" "APPROXIMATE" "Lcom/example/planwright/planwright/query/NumericKind;" (.ref a_APPROXIMATE) := Sta.start ev_APPROXIMATE (Or.inr ⟨(hw _ (List.mem_of_getElem? (i := 1) rfl)), (hw _ (List.mem_of_getElem? (i := 101) rfl))⟩)
  have F_BIGINT_precision : Fld s s.heap a_BIGINT "com/example/planwright/planwright/query/NumericType" "precision" "I" (.int (19 : Int32)) := Fld.start ((fld_at ev_BIGINT).symm.trans (eqv_i (Term.int_eval _) hn3a))
  have F_BIGINT_kind : Fld s s.heap a_BIGINT "com/example/planwright/planwright/query/NumericType" "kind" "Lcom/example/planwright/planwright/query/NumericKind;" (.ref a_INTEGER) := Fld.start ((fld_at ev_BIGINT).symm.trans (own_eqvR ev_INTEGER hn4a))
  have F_BIGINT_scale : Fld s s.heap a_BIGINT "com/example/planwright/planwright/query/NumericType" "scale" "I" (.int (0 : Int32)) := Fld.start ((fld_at ev_BIGINT).symm.trans (eqv_i (Term.int_eval _) hn5a))
  have F_DECIMAL_ordinal : Fld s s.heap a_DECIMAL "java/lang/Enum" "ordinal" "I" (.int (1 : Int32)) := Fld.start ((fld_at ev_DECIMAL).symm.trans (eqv_i (Term.int_eval _) hn7a))
  have F_INTEGER_ordinal : Fld s s.heap a_INTEGER "java/lang/Enum" "ordinal" "I" (.int (0 : Int32)) := Fld.start ((fld_at ev_INTEGER).symm.trans (eqv_i (Term.int_eval _) hn8a))
  have hE2 := Cond.before_iff.mp (hsets _ (List.mem_of_getElem? (i := 2) rfl))
  have hE3 := Cond.before_iff.mp (hsets _ (List.mem_of_getElem? (i := 3) rfl))
  obtain ⟨a_EMPTY, ev_EMPTY⟩ := exa_v hE2
  have E_EMPTY : Exa s s.heap a_EMPTY "java/util/Optional" := Exa.start ev_EMPTY hE2
  have S_EMPTY : Sta s s.heap "java/util/Optional" "EMPTY" "Ljava/util/Optional;" (.ref a_EMPTY) := Sta.start ev_EMPTY (Or.inl (hsets _ (List.mem_of_getElem? (i := 1) rfl)))
  have F_EMPTY_value : Fld s s.heap a_EMPTY "java/util/Optional" "value" "Ljava/lang/Object;" .null := Fld.start ((fld_at ev_EMPTY).symm.trans (null_v hE3))
  obtain ⟨n, o, h1, h2, h3, _, L, rfl, ⟨rfl, N⟩, hq⟩ := rm0 l s _ hw tables_1 a_INTEGER a_BIGINT a_DECIMAL a_OTHER a_APPROXIMATE a_EMPTY i0 i1 i2 s.heap s.heap.size (Nat.le_refl _) (Old.start s) ⟨S_INTEGER, E_INTEGER, S_BIGINT, E_BIGINT, S_DECIMAL, E_DECIMAL, S_OTHER, E_OTHER, S_APPROXIMATE, E_APPROXIMATE, F_BIGINT_precision, F_BIGINT_scale, F_DECIMAL_ordinal, F_INTEGER_ordinal, F_BIGINT_kind, S_EMPTY, E_EMPTY, F_EMPTY_value⟩ p e ha hc hk s m _ below hf ((Spec.applies_iff_loose hf).mp happ).1 ⟨rfl, State.Warmed39.refl s, rfl⟩ trivial
  refine ⟨n, _, h1, h2, h3, hpost _ _ _ _ _ _ ⟨Cond.after_iff.mpr rfl, Cond.after_iff.mpr (eq_i res_at (Term.int_eval (1)) rfl), trivial⟩ ⟨hq.1, hq.2.1, (hq.2.2.sift fun y hy => Or.inr (N y hy)).mono (by decide) (by decide)⟩⟩
theorem main_1_1 : Claimed_1_1 := comes_1 fun _ _ _ _ _ _ h hF => ⟨h.1, hF⟩
theorem main_1_2 : Claimed_1_2 := comes_1 fun _ _ _ _ _ _ h hF => ⟨h.2.1, hF⟩
end Jvm.Pilot.@@N@@
namespace Jvm.Pilot.@@N@@
open Jvm Jvm.ClassFile Sem Op Lib Jvm.Free Jvm.Stand Jvm.Pilot.@@N@@.Jvm.D
/-! MADE BY PROGRAM (witnessworld.py) out of the Statement's table words and the real class files: 17 classes; the members and pool entries that the words name. The judged class is class 1, her method 1. -/
namespace start1
open Jvm.ClassFile
def u (s : String) : CpInfo := .utf8 (stringToUtf16 s)
/-- a pool by its gaps: so many unusable entries, then the entry; so many at the end -/
def gap : Nat → List CpInfo → List CpInfo
  | 0, r => r
  | n + 1, r => .unusable :: gap n r
def poolList (es : List (Nat × CpInfo)) (last : Nat) : List CpInfo := es.foldr (fun e r => gap e.1 (e.2 :: r)) (gap last [])
def pool (es : List (Nat × CpInfo)) (last : Nat) : Array CpInfo := ⟨poolList es last⟩
def fileOf (pool : Array CpInfo) (this : Nat) (attrs : Array Attribute := #[]) (ms : Array MethodInfo := #[]) (fl : Nat := 33) (sup : Nat := 0) (ifs : Array Nat := #[]) (fds : Array FieldInfo := #[]) : ClassFile where
  minorVersion := 0
  majorVersion := 65
  constantPool := pool
  accessFlags := fl
  thisClass := this
  superClass := sup
  interfaces := ifs
  fields := fds
  methods := ms
  attributes := attrs
def plain (name : String) (sup : Option ClassId) : Class where
  name := name
  kind := .ordinary
  loader := none
  accessFlags := 33
  super := sup
  interfaces := #[]
  cf := none
  fields := #[]
  methods := #[]
  instanceTypes := #[]
  staticTypes := #[]
  resolved := #[]
  callSites := []
  init := .initialized
  statics := none
  mirror := none

def pool0 : Array CpInfo := pool [(5, u "<init>"), (0, u "()V"), (1, .class_ 10), (1, u "java/lang/Object")] 113

def k0c0 : Code := { maxStack := 0, maxLocals := 1, code := object_method_1_code, exceptionTable := #[], attributes := #[] }
def k0m0 : Method := { name := "<init>", desc := "()V", sig := { parameters := [], returnType := none }, accessFlags := 1, code := some k0c0 }
/-- java/lang/Object -/
def k0 : Class := { plain "java/lang/Object" none with
  accessFlags := 33
  interfaces := #[]
  cf := some (fileOf pool0 8 #[] #[{ accessFlags := 1, nameIndex := 5, descriptorIndex := 6, attributes := #[] }] 33 0 #[] #[])
  fields := #[]
  methods := #[k0m0]
  instanceTypes := #[]
  staticTypes := #[]
  resolved := Array.replicate 124 none
  statics := none }

def pool1 : Array CpInfo := pool [(2, .class_ 4), (1, u "java/lang/Object"), (0, u "<init>"), (0, u "()V"), (0, .fieldref 8 9), (0, .class_ 10), (0, .nameAndType 11 12), (0, u "com/example/planwright/planwright/query/NumericKind"), (0, u "INTEGER"), (0, u "Lcom/example/planwright/planwright/query/NumericKind;"), (0, .fieldref 8 14), (0, .nameAndType 15 12), (0, u "DECIMAL"), (0, .fieldref 8 17), (0, .nameAndType 18 12), (0, u "APPROXIMATE"), (0, .fieldref 8 20), (0, .nameAndType 21 12), (0, u "OTHER"), (0, .integer 2147483647), (0, .integer 100001), (0, .class_ 25), (0, u "com/example/planwright/planwright/query/NumericType"), (0, .methodref 24 27), (0, .nameAndType 5 28), (0, u "(Lcom/example/planwright/planwright/query/NumericKind;II)V"), (0, .methodref 24 30), (0, .nameAndType 31 32), (0, u "sum"), (0, u "()Ljava/util/Optional;"), (0, .methodref 34 35), (0, .class_ 36), (0, .nameAndType 37 38), (0, u "java/util/Optional"), (0, u "isPresent"), (0, u "()Z"), (0, .methodref 34 40), (0, .nameAndType 41 42), (0, u "get"), (0, u "()Ljava/lang/Object;"), (0, .methodref 24 44), (0, .nameAndType 45 46), (0, u "kind"), (0, u "()Lcom/example/planwright/planwright/query/NumericKind;"), (0, .methodref 24 48), (0, .nameAndType 49 50), (0, u "precision"), (0, u "()I"), (0, .methodref 24 52), (0, .nameAndType 53 50), (0, u "scale"), (0, .integer 99990), (0, .integer 100000), (0, .class_ 57), (0, u "com/example/planwright/planwright/query/NumericTypeSumPinLaw"), (2, u "law"), (0, u "(III)Z")] 3

def k1m0 : Method := { name := "<init>", desc := "()V", sig := { parameters := [], returnType := none }, accessFlags := 1, code := none }
def k1c1 : Code := { maxStack := 5, maxLocals := 10, code := code, exceptionTable := #[], attributes := #[] }
def k1m1 : Method := { name := "law", desc := "(III)Z", sig := { parameters := [.int, .int, .int], returnType := some .boolean }, accessFlags := 9, code := some k1c1 }
/-- com/example/planwright/planwright/query/NumericTypeSumPinLaw -/
def k1 : Class := { plain "com/example/planwright/planwright/query/NumericTypeSumPinLaw" (some 0) with
  accessFlags := 49
  interfaces := #[]
  cf := some (fileOf pool1 56 #[] #[{ accessFlags := 1, nameIndex := 5, descriptorIndex := 6, attributes := #[] }, { accessFlags := 9, nameIndex := 60, descriptorIndex := 61, attributes := #[] }] 49 2 #[] #[])
  fields := #[]
  methods := #[k1m0, k1m1]
  instanceTypes := #[]
  staticTypes := #[]
  resolved := Array.replicate 65 none
  statics := none }

def pool2 : Array CpInfo := pool [(1, .class_ 2), (0, u "java/lang/constant/Constable"), (0, .class_ 4), (0, u "java/lang/Object")] 6

/-- java/lang/constant/Constable -/
def k2 : Class := { plain "java/lang/constant/Constable" (some 0) with
  accessFlags := 1537
  interfaces := #[]
  cf := some (fileOf pool2 1 #[] #[] 1537 3 #[] #[])
  fields := #[]
  methods := #[]
  instanceTypes := #[]
  staticTypes := #[]
  resolved := Array.replicate 11 none
  statics := none }

def pool3 : Array CpInfo := pool [(1, .class_ 2), (0, u "java/lang/Comparable"), (0, .class_ 4), (0, u "java/lang/Object")] 7

/-- java/lang/Comparable -/
def k3 : Class := { plain "java/lang/Comparable" (some 0) with
  accessFlags := 1537
  interfaces := #[]
  cf := some (fileOf pool3 1 #[] #[] 1537 3 #[] #[])
  fields := #[]
  methods := #[]
  instanceTypes := #[]
  staticTypes := #[]
  resolved := Array.replicate 12 none
  statics := none }

def pool4 : Array CpInfo := pool [(1, .class_ 2), (0, u "java/io/Serializable"), (0, .class_ 4), (0, u "java/lang/Object")] 2

/-- java/io/Serializable -/
def k4 : Class := { plain "java/io/Serializable" (some 0) with
  accessFlags := 1537
  interfaces := #[]
  cf := some (fileOf pool4 1 #[] #[] 1537 3 #[] #[])
  fields := #[]
  methods := #[]
  instanceTypes := #[]
  staticTypes := #[]
  resolved := Array.replicate 7 none
  statics := none }

def pool5 : Array CpInfo := pool [(2, .class_ 4), (1, u "java/lang/Enum"), (0, u "name"), (0, u "Ljava/lang/String;"), (2, u "ordinal"), (0, u "I"), (1, .class_ 14), (1, u "java/lang/Object"), (4, u "hash"), (86, .class_ 108), (1, u "java/lang/Enum$EnumDesc"), (2, .class_ 112), (0, u "java/lang/constant/Constable"), (0, .class_ 114), (0, u "java/lang/Comparable"), (0, .class_ 116), (0, u "java/io/Serializable")] 87

/-- java/lang/Enum -/
def k5 : Class := { plain "java/lang/Enum" (some 0) with
  accessFlags := 1057
  interfaces := #[2, 3, 4]
  cf := some (fileOf pool5 2 #[.nestMembers #[106]] #[] 1057 12 #[111, 113, 115] #[{ accessFlags := 18, nameIndex := 5, descriptorIndex := 6, attributes := #[] }, { accessFlags := 18, nameIndex := 9, descriptorIndex := 10, attributes := #[] }, { accessFlags := 2, nameIndex := 19, descriptorIndex := 10, attributes := #[] }])
  fields := #[{ name := "name", type := (.object "java/lang/String"), accessFlags := 18, slot := 0, constantValue := 0 }, { name := "ordinal", type := .int, accessFlags := 18, slot := 1, constantValue := 0 }, { name := "hash", type := .int, accessFlags := 2, slot := 2, constantValue := 0 }]
  methods := #[]
  instanceTypes := #[(.object "java/lang/String"), .int, .int]
  staticTypes := #[]
  resolved := Array.replicate 204 none
  statics := none }

def pool6 : Array CpInfo := pool [(1, .class_ 2), (0, u "com/example/planwright/planwright/query/NumericKind"), (2, u "INTEGER"), (0, u "Lcom/example/planwright/planwright/query/NumericKind;"), (2, u "DECIMAL"), (2, u "APPROXIMATE"), (2, u "OTHER"), (2, u "$VALUES"), (0, u "[Lcom/example/planwright/planwright/query/NumericKind;"), (6, .class_ 28), (1, u "java/lang/Enum")] 26

/-- com/example/planwright/planwright/query/NumericKind -/
def k6 : Class := { plain "com/example/planwright/planwright/query/NumericKind" (some 5) with
  accessFlags := 16433
  interfaces := #[]
  cf := some (fileOf pool6 1 #[] #[] 16433 26 #[] #[{ accessFlags := 16409, nameIndex := 5, descriptorIndex := 6, attributes := #[] }, { accessFlags := 16409, nameIndex := 9, descriptorIndex := 6, attributes := #[] }, { accessFlags := 16409, nameIndex := 12, descriptorIndex := 6, attributes := #[] }, { accessFlags := 16409, nameIndex := 15, descriptorIndex := 6, attributes := #[] }, { accessFlags := 4122, nameIndex := 18, descriptorIndex := 19, attributes := #[] }])
  fields := #[{ name := "INTEGER", type := (.object "com/example/planwright/planwright/query/NumericKind"), accessFlags := 16409, slot := 0, constantValue := 0 }, { name := "DECIMAL", type := (.object "com/example/planwright/planwright/query/NumericKind"), accessFlags := 16409, slot := 1, constantValue := 0 }, { name := "APPROXIMATE", type := (.object "com/example/planwright/planwright/query/NumericKind"), accessFlags := 16409, slot := 2, constantValue := 0 }, { name := "OTHER", type := (.object "com/example/planwright/planwright/query/NumericKind"), accessFlags := 16409, slot := 3, constantValue := 0 }, { name := "$VALUES", type := (.array (.object "com/example/planwright/planwright/query/NumericKind")), accessFlags := 4122, slot := 4, constantValue := 0 }]
  methods := #[]
  instanceTypes := #[(.object "java/lang/String"), .int, .int]
  staticTypes := #[(.object "com/example/planwright/planwright/query/NumericKind"), (.object "com/example/planwright/planwright/query/NumericKind"), (.object "com/example/planwright/planwright/query/NumericKind"), (.object "com/example/planwright/planwright/query/NumericKind"), (.array (.object "com/example/planwright/planwright/query/NumericKind"))]
  resolved := Array.replicate 55 none
  statics := some 0 }

def pool7 : Array CpInfo := pool [(1, .methodref 2 3), (0, .class_ 4), (0, .nameAndType 5 6), (0, u "java/lang/Object"), (0, u "<init>"), (0, u "()V"), (0, .class_ 8), (0, u "java/lang/Record")] 13

def k7c0 : Code := { maxStack := 1, maxLocals := 1, code := jdk_30_method_1_code, exceptionTable := #[], attributes := #[] }
def k7m0 : Method := { name := "<init>", desc := "()V", sig := { parameters := [], returnType := none }, accessFlags := 4, code := some k7c0 }
/-- java/lang/Record -/
def k7 : Class := { plain "java/lang/Record" (some 0) with
  accessFlags := 1057
  interfaces := #[]
  cf := some (fileOf pool7 7 #[] #[{ accessFlags := 4, nameIndex := 5, descriptorIndex := 6, attributes := #[] }] 1057 2 #[] #[])
  fields := #[]
  methods := #[k7m0]
  instanceTypes := #[]
  staticTypes := #[]
  resolved := Array.replicate 22 none
  statics := none }

def pool8 : Array CpInfo := pool [(1, .methodref 2 3), (0, .class_ 4), (0, .nameAndType 5 6), (0, u "java/lang/Record"), (0, u "<init>"), (0, u "()V"), (0, .fieldref 8 9), (0, .class_ 10), (0, .nameAndType 11 12), (0, u "com/example/planwright/planwright/query/NumericType"), (0, u "kind"), (0, u "Lcom/example/planwright/planwright/query/NumericKind;"), (0, .fieldref 8 14), (0, .nameAndType 15 16), (0, u "precision"), (0, u "I"), (0, .fieldref 8 18), (0, .nameAndType 19 16), (0, u "scale"), (35, u "()I"), (11, u "INTEGER"), (1, u "BIGINT"), (1, u "DECIMAL"), (14, .fieldref 87 88), (0, .class_ 89), (0, .nameAndType 67 12), (0, u "com/example/planwright/planwright/query/NumericKind"), (0, .methodref 8 91), (0, .nameAndType 5 92), (0, u "(Lcom/example/planwright/planwright/query/NumericKind;II)V"), (0, .fieldref 8 94), (0, .nameAndType 69 95), (0, u "Lcom/example/planwright/planwright/query/NumericType;"), (0, .integer 100000), (0, .methodref 8 98), (0, .nameAndType 99 100), (0, u "decimal"), (0, u "(II)Lcom/example/planwright/planwright/query/NumericType;"), (15, u "OTHER"), (11, u "()Ljava/util/Optional;"), (5, .class_ 136), (1, u "java/util/Optional"), (22, .class_ 161), (1, u "com/example/planwright/planwright/query/NumericType$1"), (25, u "of"), (5, .methodref 134 194), (0, .nameAndType 195 128), (0, u "empty"), (0, .methodref 134 197), (0, .nameAndType 187 198), (0, u "(Ljava/lang/Object;)Ljava/util/Optional;"), (0, .methodref 8 200), (0, .nameAndType 201 55), (0, u "widened"), (0, .fieldref 87 203), (0, .nameAndType 71 12), (15, .methodref 220 221), (0, .class_ 222), (0, .nameAndType 223 224), (0, u "java/lang/Math"), (0, u "min"), (0, u "(II)I"), (5, u "()Lcom/example/planwright/planwright/query/NumericKind;"), (64, u "UNKNOWN"), (2, u "MAX_PRECISION"), (0, u "ADDED_DIGITS"), (5, u "sum")] 54

def k8c0 : Code := { maxStack := 2, maxLocals := 4, code := prog_46_method_1_code, exceptionTable := #[], attributes := #[] }
def k8m0 : Method := { name := "<init>", desc := "(Lcom/example/planwright/planwright/query/NumericKind;II)V", sig := { parameters := [(.object "com/example/planwright/planwright/query/NumericKind"), .int, .int], returnType := none }, accessFlags := 1, code := some k8c0 }
def k8c1 : Code := { maxStack := 2, maxLocals := 1, code := prog_46_method_4_code, exceptionTable := #[], attributes := #[] }
def k8m1 : Method := { name := "sum", desc := "()Ljava/util/Optional;", sig := { parameters := [], returnType := some (.object "java/util/Optional") }, accessFlags := 1, code := some k8c1 }
def k8c2 : Code := { maxStack := 2, maxLocals := 1, code := prog_46_method_7_code, exceptionTable := #[], attributes := #[] }
def k8m2 : Method := { name := "widened", desc := "()I", sig := { parameters := [], returnType := some .int }, accessFlags := 2, code := some k8c2 }
def k8c3 : Code := { maxStack := 5, maxLocals := 2, code := prog_46_method_12_code, exceptionTable := #[], attributes := #[] }
def k8m3 : Method := { name := "decimal", desc := "(II)Lcom/example/planwright/planwright/query/NumericType;", sig := { parameters := [.int, .int], returnType := some (.object "com/example/planwright/planwright/query/NumericType") }, accessFlags := 10, code := some k8c3 }
def k8c4 : Code := { maxStack := 1, maxLocals := 1, code := prog_46_method_17_code, exceptionTable := #[], attributes := #[] }
def k8m4 : Method := { name := "kind", desc := "()Lcom/example/planwright/planwright/query/NumericKind;", sig := { parameters := [], returnType := some (.object "com/example/planwright/planwright/query/NumericKind") }, accessFlags := 1, code := some k8c4 }
def k8c5 : Code := { maxStack := 1, maxLocals := 1, code := prog_46_method_18_code, exceptionTable := #[], attributes := #[] }
def k8m5 : Method := { name := "precision", desc := "()I", sig := { parameters := [], returnType := some .int }, accessFlags := 1, code := some k8c5 }
def k8c6 : Code := { maxStack := 1, maxLocals := 1, code := prog_46_method_19_code, exceptionTable := #[], attributes := #[] }
def k8m6 : Method := { name := "scale", desc := "()I", sig := { parameters := [], returnType := some .int }, accessFlags := 1, code := some k8c6 }
/-- com/example/planwright/planwright/query/NumericType -/
def k8 : Class := { plain "com/example/planwright/planwright/query/NumericType" (some 7) with
  accessFlags := 49
  interfaces := #[]
  cf := some (fileOf pool8 8 #[.nestMembers #[159]] #[{ accessFlags := 1, nameIndex := 5, descriptorIndex := 92, attributes := #[] }, { accessFlags := 1, nameIndex := 305, descriptorIndex := 128, attributes := #[] }, { accessFlags := 2, nameIndex := 201, descriptorIndex := 55, attributes := #[] }, { accessFlags := 10, nameIndex := 99, descriptorIndex := 100, attributes := #[] }, { accessFlags := 1, nameIndex := 11, descriptorIndex := 230, attributes := #[] }, { accessFlags := 1, nameIndex := 15, descriptorIndex := 55, attributes := #[] }, { accessFlags := 1, nameIndex := 19, descriptorIndex := 55, attributes := #[] }] 49 2 #[] #[{ accessFlags := 18, nameIndex := 11, descriptorIndex := 12, attributes := #[] }, { accessFlags := 18, nameIndex := 15, descriptorIndex := 16, attributes := #[] }, { accessFlags := 18, nameIndex := 19, descriptorIndex := 16, attributes := #[] }, { accessFlags := 25, nameIndex := 295, descriptorIndex := 16, attributes := #[] }, { accessFlags := 26, nameIndex := 298, descriptorIndex := 16, attributes := #[] }, { accessFlags := 26, nameIndex := 299, descriptorIndex := 16, attributes := #[] }, { accessFlags := 26, nameIndex := 69, descriptorIndex := 95, attributes := #[] }, { accessFlags := 26, nameIndex := 116, descriptorIndex := 95, attributes := #[] }])
  fields := #[{ name := "kind", type := (.object "com/example/planwright/planwright/query/NumericKind"), accessFlags := 18, slot := 0, constantValue := 0 }, { name := "precision", type := .int, accessFlags := 18, slot := 1, constantValue := 0 }, { name := "scale", type := .int, accessFlags := 18, slot := 2, constantValue := 0 }, { name := "UNKNOWN", type := .int, accessFlags := 25, slot := 0, constantValue := 0 }, { name := "MAX_PRECISION", type := .int, accessFlags := 26, slot := 1, constantValue := 0 }, { name := "ADDED_DIGITS", type := .int, accessFlags := 26, slot := 2, constantValue := 0 }, { name := "BIGINT", type := (.object "com/example/planwright/planwright/query/NumericType"), accessFlags := 26, slot := 3, constantValue := 0 }, { name := "OTHER", type := (.object "com/example/planwright/planwright/query/NumericType"), accessFlags := 26, slot := 4, constantValue := 0 }]
  methods := #[k8m0, k8m1, k8m2, k8m3, k8m4, k8m5, k8m6]
  instanceTypes := #[(.object "com/example/planwright/planwright/query/NumericKind"), .int, .int]
  staticTypes := #[.int, .int, .int, (.object "com/example/planwright/planwright/query/NumericType"), (.object "com/example/planwright/planwright/query/NumericType")]
  resolved := Array.replicate 360 none
  statics := some 1 }

def pool9 : Array CpInfo := pool [(1, .fieldref 2 3), (0, .class_ 4), (0, .nameAndType 5 6), (0, u "java/util/Optional"), (0, u "EMPTY"), (0, u "Ljava/util/Optional;"), (0, .methodref 8 9), (0, .class_ 10), (0, .nameAndType 11 12), (0, u "java/lang/Object"), (0, u "<init>"), (0, u "()V"), (0, .fieldref 2 14), (0, .nameAndType 15 16), (0, u "value"), (0, u "Ljava/lang/Object;"), (0, .methodref 18 19), (0, .class_ 20), (0, .nameAndType 21 22), (0, u "java/util/Objects"), (0, u "requireNonNull"), (0, u "(Ljava/lang/Object;)Ljava/lang/Object;"), (0, .methodref 2 24), (0, .nameAndType 11 25), (0, u "(Ljava/lang/Object;)V"), (20, u "()Z"), (8, u "empty"), (0, u "()Ljava/util/Optional;"), (8, u "(Ljava/lang/Object;)Ljava/util/Optional;"), (2, u "isPresent"), (4, u "get"), (0, u "()Ljava/lang/Object;"), (7, u "of")] 104

def k9c0 : Code := { maxStack := 1, maxLocals := 1, code := jdk_32_method_1_code, exceptionTable := #[], attributes := #[] }
def k9m0 : Method := { name := "empty", desc := "()Ljava/util/Optional;", sig := { parameters := [], returnType := some (.object "java/util/Optional") }, accessFlags := 9, code := some k9c0 }
def k9c1 : Code := { maxStack := 2, maxLocals := 2, code := jdk_32_method_2_code, exceptionTable := #[], attributes := #[] }
def k9m1 : Method := { name := "<init>", desc := "(Ljava/lang/Object;)V", sig := { parameters := [(.object "java/lang/Object")], returnType := none }, accessFlags := 2, code := some k9c1 }
def k9c2 : Code := { maxStack := 3, maxLocals := 1, code := jdk_32_method_3_code, exceptionTable := #[], attributes := #[] }
def k9m2 : Method := { name := "of", desc := "(Ljava/lang/Object;)Ljava/util/Optional;", sig := { parameters := [(.object "java/lang/Object")], returnType := some (.object "java/util/Optional") }, accessFlags := 9, code := some k9c2 }
def k9c3 : Code := { maxStack := 3, maxLocals := 1, code := jdk_32_method_5_code, exceptionTable := #[], attributes := #[] }
def k9m3 : Method := { name := "get", desc := "()Ljava/lang/Object;", sig := { parameters := [], returnType := some (.object "java/lang/Object") }, accessFlags := 1, code := some k9c3 }
def k9c4 : Code := { maxStack := 1, maxLocals := 1, code := jdk_32_method_6_code, exceptionTable := #[], attributes := #[] }
def k9m4 : Method := { name := "isPresent", desc := "()Z", sig := { parameters := [], returnType := some .boolean }, accessFlags := 1, code := some k9c4 }
/-- java/util/Optional -/
def k9 : Class := { plain "java/util/Optional" (some 0) with
  accessFlags := 49
  interfaces := #[]
  cf := some (fileOf pool9 2 #[] #[{ accessFlags := 9, nameIndex := 55, descriptorIndex := 56, attributes := #[] }, { accessFlags := 2, nameIndex := 11, descriptorIndex := 25, attributes := #[] }, { accessFlags := 9, nameIndex := 82, descriptorIndex := 65, attributes := #[] }, { accessFlags := 1, nameIndex := 73, descriptorIndex := 74, attributes := #[] }, { accessFlags := 1, nameIndex := 68, descriptorIndex := 46, attributes := #[] }] 49 8 #[] #[{ accessFlags := 26, nameIndex := 5, descriptorIndex := 6, attributes := #[] }, { accessFlags := 18, nameIndex := 15, descriptorIndex := 16, attributes := #[] }])
  fields := #[{ name := "EMPTY", type := (.object "java/util/Optional"), accessFlags := 26, slot := 0, constantValue := 0 }, { name := "value", type := (.object "java/lang/Object"), accessFlags := 18, slot := 0, constantValue := 0 }]
  methods := #[k9m0, k9m1, k9m2, k9m3, k9m4]
  instanceTypes := #[(.object "java/lang/Object")]
  staticTypes := #[(.object "java/util/Optional")]
  resolved := Array.replicate 187 none
  statics := some 2 }

def pool10 : Array CpInfo := pool [(2, .class_ 4), (1, u "java/lang/Object"), (0, u "<init>"), (0, u "()V"), (35, .class_ 44), (1, u "java/util/Objects"), (0, u "requireNonNull"), (0, u "(Ljava/lang/Object;)Ljava/lang/Object;")] 137

def k10m0 : Method := { name := "<init>", desc := "()V", sig := { parameters := [], returnType := none }, accessFlags := 2, code := none }
def k10c1 : Code := { maxStack := 2, maxLocals := 1, code := jdk_31_method_10_code, exceptionTable := #[], attributes := #[] }
def k10m1 : Method := { name := "requireNonNull", desc := "(Ljava/lang/Object;)Ljava/lang/Object;", sig := { parameters := [(.object "java/lang/Object")], returnType := some (.object "java/lang/Object") }, accessFlags := 9, code := some k10c1 }
/-- java/util/Objects -/
def k10 : Class := { plain "java/util/Objects" (some 0) with
  accessFlags := 49
  interfaces := #[]
  cf := some (fileOf pool10 42 #[] #[{ accessFlags := 2, nameIndex := 5, descriptorIndex := 6, attributes := #[] }, { accessFlags := 9, nameIndex := 45, descriptorIndex := 46, attributes := #[] }] 49 2 #[] #[])
  fields := #[]
  methods := #[k10m0, k10m1]
  instanceTypes := #[]
  staticTypes := #[]
  resolved := Array.replicate 184 none
  statics := none }

def pool11 : Array CpInfo := pool [(1, .class_ 2), (0, u "java/lang/Math"), (1, .class_ 6), (1, u "java/lang/Object"), (0, u "<init>"), (0, u "()V"), (89, .class_ 100), (1, u "java/lang/Math$RandomNumberGeneratorHolder"), (71, u "negativeZeroFloatBits"), (0, u "J"), (2, u "negativeZeroDoubleBits"), (24, u "min"), (43, u "$assertionsDisabled"), (0, u "Z"), (88, u "(II)I"), (2, u "twoToTheDoubleScaleDown"), (0, u "D"), (4, u "twoToTheDoubleScaleUp"), (9, u "E"), (3, u "PI"), (2, u "TAU"), (2, u "DEGREES_TO_RADIANS"), (0, u "RADIANS_TO_DEGREES")] 94

def k11m0 : Method := { name := "<init>", desc := "()V", sig := { parameters := [], returnType := none }, accessFlags := 2, code := none }
def k11c1 : Code := { maxStack := 2, maxLocals := 2, code := jdk_29_method_69_code, exceptionTable := #[], attributes := #[] }
def k11m1 : Method := { name := "min", desc := "(II)I", sig := { parameters := [.int, .int], returnType := some .int }, accessFlags := 9, code := some k11c1 }
/-- java/lang/Math -/
def k11 : Class := { plain "java/lang/Math" (some 0) with
  accessFlags := 49
  interfaces := #[]
  cf := some (fileOf pool11 1 #[.nestMembers #[98]] #[{ accessFlags := 2, nameIndex := 7, descriptorIndex := 8, attributes := #[] }, { accessFlags := 9, nameIndex := 201, descriptorIndex := 335, attributes := #[] }] 49 4 #[] #[{ accessFlags := 25, nameIndex := 354, descriptorIndex := 339, attributes := #[] }, { accessFlags := 25, nameIndex := 358, descriptorIndex := 339, attributes := #[] }, { accessFlags := 25, nameIndex := 361, descriptorIndex := 339, attributes := #[] }, { accessFlags := 26, nameIndex := 364, descriptorIndex := 339, attributes := #[] }, { accessFlags := 26, nameIndex := 365, descriptorIndex := 339, attributes := #[] }, { accessFlags := 26, nameIndex := 172, descriptorIndex := 173, attributes := #[] }, { accessFlags := 26, nameIndex := 176, descriptorIndex := 173, attributes := #[] }, { accessFlags := 8, nameIndex := 344, descriptorIndex := 339, attributes := #[] }, { accessFlags := 8, nameIndex := 338, descriptorIndex := 339, attributes := #[] }, { accessFlags := 4120, nameIndex := 245, descriptorIndex := 246, attributes := #[] }])
  fields := #[{ name := "E", type := .double, accessFlags := 25, slot := 0, constantValue := 0 }, { name := "PI", type := .double, accessFlags := 25, slot := 1, constantValue := 0 }, { name := "TAU", type := .double, accessFlags := 25, slot := 2, constantValue := 0 }, { name := "DEGREES_TO_RADIANS", type := .double, accessFlags := 26, slot := 3, constantValue := 0 }, { name := "RADIANS_TO_DEGREES", type := .double, accessFlags := 26, slot := 4, constantValue := 0 }, { name := "negativeZeroFloatBits", type := .long, accessFlags := 26, slot := 5, constantValue := 0 }, { name := "negativeZeroDoubleBits", type := .long, accessFlags := 26, slot := 6, constantValue := 0 }, { name := "twoToTheDoubleScaleUp", type := .double, accessFlags := 8, slot := 7, constantValue := 0 }, { name := "twoToTheDoubleScaleDown", type := .double, accessFlags := 8, slot := 8, constantValue := 0 }, { name := "$assertionsDisabled", type := .boolean, accessFlags := 4120, slot := 9, constantValue := 0 }]
  methods := #[k11m0, k11m1]
  instanceTypes := #[]
  staticTypes := #[.double, .double, .double, .double, .double, .long, .long, .double, .double, .boolean]
  resolved := Array.replicate 460 none
  statics := none }

def pool12 : Array CpInfo := pool [(1, u "java/lang/Cloneable"), (0, .class_ 1), (0, u "java/lang/Object"), (0, .class_ 3)] 3

/-- java/lang/Cloneable -/
def k12 : Class := { plain "java/lang/Cloneable" (some 0) with
  accessFlags := 1537
  interfaces := #[]
  cf := some (fileOf pool12 2 #[] #[] 1537 4 #[] #[])
  fields := #[]
  methods := #[]
  instanceTypes := #[]
  staticTypes := #[]
  resolved := Array.replicate 8 none
  statics := none }

/-- the primitive byte -/
def k13 : Class := { plain "byte" none with kind := .primitive 'B', accessFlags := 0x411 }
/-- [B -/
def k14 : Class := { plain "[B" (some 0) with kind := .array 13 .byte, interfaces := #[12, 4], accessFlags := 1041 }

/-- the primitive int -/
def k15 : Class := { plain "int" none with kind := .primitive 'I', accessFlags := 0x411 }
/-- [I -/
def k16 : Class := { plain "[I" (some 0) with kind := .array 15 .int, interfaces := #[12, 4], accessFlags := 1041 }

def heap : Heap := #[{ cls := 6, slots := #[.ref 3, .ref 5, .ref 7, .ref 6, .null], vm := .statics 6 },
  { cls := 8, slots := #[.int 0, .int 0, .int 0, .ref 4, .null], vm := .statics 8 },
  { cls := 9, slots := #[.ref 8], vm := .statics 9 },
  { cls := 6, slots := #[.null, .int 0, .int 0], vm := .none },
  { cls := 8, slots := #[.ref 3, .int 19, .int 0], vm := .none },
  { cls := 6, slots := #[.null, .int 1, .int 0], vm := .none },
  { cls := 6, slots := #[.null, .int 0, .int 0], vm := .none },
  { cls := 6, slots := #[.null, .int 0, .int 0], vm := .none },
  { cls := 9, slots := #[.null], vm := .none }]
def classes : Array Class := #[k0, k1, k2, k3, k4, k5, k6, k7, k8, k9, k10, k11, k12, k13, k14, k15, k16]
def interned : List (Array UInt16 × Addr) := []
def slotsUsed : Nat := 27
def theMethod : MethodId := ⟨1, 1⟩
def args0 : Array Value := #[.int 5, .int 7, .int 3]
def aboutOver (below : List Frame) : State where
  vm := { classes := classes, interned := interned.toArray }
  heap := heap
  slotsUsed := slotsUsed
  threads := #[{ frames := .invoking theMethod args0 :: below }]
def below0 : List Frame := [.native { method := ⟨0, 0⟩, args := #[] }]
def about1 : State := aboutOver below0
def p0 : Program := .bare "" "" ""
def e0 : Env := launch0.env 0 0 0
theorem w_frames : about1.frames = Frame.invoking theMethod args0 :: below0 := rfl
set_option maxRecDepth 65536 in
theorem w_args : argsFit about1.vm theMethod args0 = true := by decide +kernel
set_option maxRecDepth 65536 in
theorem w_heap : heapFits about1 = true := by decide +kernel
set_option maxRecDepth 65536 in
theorem w_runnable : about1.curStatus? = some .runnable := by decide +kernel
set_option maxRecDepth 65536 in
theorem w_alone : about1.alone = true := by decide +kernel
set_option maxRecDepth 65536 in
theorem w_named : about1.methodNamed? x = some theMethod := by decide +kernel
set_option maxRecDepth 65536 in
theorem w_hears : about1.hears theMethod below0 = true := by decide +kernel
set_option maxRecDepth 65536 in
theorem w_ripe : about1.ripe theMethod args0 below0 = true := by decide +kernel
theorem w_running : about1.status = .running := rfl
set_option maxRecDepth 65536 in
theorem w_room : about1.hasRoom e0.platform room_1 = true :=
  launch0.hasRoom_least _ room_1 (by decide +kernel) (by decide +kernel) (by decide +kernel) (by decide +kernel) (by decide +kernel) (by decide +kernel)
theorem allAtoms_all (ts : List Jvm.Cond) (a : Array Jvm.Value) (st : Jvm.State) : (allAtoms ts).before a st = ts.all (fun c => c.before a st) := by
  induction ts with
  | nil => rfl
  | cons c t ih =>
    show (Jvm.Cond.and c (allAtoms t)).before a st = _
    rw [Jvm.Cond.before_and, ih, List.all_cons]
def words1 : List Jvm.Cond := Jvm.Cond.code x code maxLocals ret :: tables_1
/-- a 'code' word, met by the world's own term for the bytes: nothing is compared byte by byte -/
theorem code_word {y : MethodName} {bytes : ByteArray} {mx : Nat} {rt : Option FieldType} {a : Array Value} {s : State} {m : MethodId} {meth : Method} {c : Code} (h1 : s.methodNamed? y = some m) (h2 : s.vm.method? m = some meth) (h3 : meth.code = some c) (h4 : c.code = bytes)
    (h5 : (c.maxLocals == mx && c.exceptionTable.isEmpty && decide (c.maxStack ≤ mostOperands) && decide (meth.sig.returnType = rt) && !meth.locks && decide (parseMethodDescriptor y.desc = some meth.sig)) = true) : (Jvm.Cond.code y bytes mx rt).before a s = true := by
  simp only [Bool.and_eq_true, beq_iff_eq, Bool.not_eq_true', decide_eq_true_eq] at h5
  obtain ⟨⟨⟨⟨⟨g1, g2⟩, g3⟩, g4⟩, g5⟩, g6⟩ := h5
  simp [Cond.before, Cond.holds, Cond.value, h1, h2, h3, h4, g1, g2, g3, g4, g5, g6]
def isCode : Jvm.Cond → Bool
  | .code _ _ _ _ => true
  | _ => false
theorem all_split {L : List Jvm.Cond} {P : Jvm.Cond → Bool} (h1 : L.all (fun c => isCode c || P c) = true) (h2 : ∀ c ∈ L.filter isCode, P c = true) : L.all P = true := by
  refine List.all_eq_true.mpr fun c hc => ?_
  have h := List.all_eq_true.mp h1 c hc
  rcases Bool.eq_false_or_eq_true (isCode c) with hi | hi
  · exact h2 c (List.mem_filter.mpr ⟨hc, hi⟩)
  · simpa [hi] using h
set_option maxRecDepth 65536 in
theorem w_c0 : (Jvm.Cond.code x code maxLocals ret).before args0 about1 = true := code_word (m := ⟨1, 1⟩) (meth := k1m1) (c := k1c1) (by decide +kernel) rfl rfl rfl (by decide +kernel)
set_option maxRecDepth 65536 in
theorem w_c1 : (Jvm.Cond.code ({ cls := "com/example/planwright/planwright/query/NumericType", name := "<init>", desc := "(Lcom/example/planwright/planwright/query/NumericKind;II)V" } : Jvm.MethodName) prog_46_method_1_code (4 : Nat) (Option.none : Option Jvm.ClassFile.FieldType)).before args0 about1 = true := code_word (m := ⟨8, 0⟩) (meth := k8m0) (c := k8c0) (by decide +kernel) rfl rfl rfl (by decide +kernel)
set_option maxRecDepth 65536 in
theorem w_c2 : (Jvm.Cond.code ({ cls := "java/lang/Record", name := "<init>", desc := "()V" } : Jvm.MethodName) jdk_30_method_1_code (1 : Nat) (Option.none : Option Jvm.ClassFile.FieldType)).before args0 about1 = true := code_word (m := ⟨7, 0⟩) (meth := k7m0) (c := k7c0) (by decide +kernel) rfl rfl rfl (by decide +kernel)
set_option maxRecDepth 65536 in
theorem w_c3 : (Jvm.Cond.code ({ cls := "java/lang/Object", name := "<init>", desc := "()V" } : Jvm.MethodName) object_method_1_code (1 : Nat) (Option.none : Option Jvm.ClassFile.FieldType)).before args0 about1 = true := code_word (m := ⟨0, 0⟩) (meth := k0m0) (c := k0c0) (by decide +kernel) rfl rfl rfl (by decide +kernel)
set_option maxRecDepth 65536 in
theorem w_c4 : (Jvm.Cond.code ({ cls := "com/example/planwright/planwright/query/NumericType", name := "sum", desc := "()Ljava/util/Optional;" } : Jvm.MethodName) prog_46_method_4_code (1 : Nat) (Option.some (Jvm.ClassFile.FieldType.object "java/util/Optional"))).before args0 about1 = true := code_word (m := ⟨8, 1⟩) (meth := k8m1) (c := k8c1) (by decide +kernel) rfl rfl rfl (by decide +kernel)
set_option maxRecDepth 65536 in
theorem w_c5 : (Jvm.Cond.code ({ cls := "java/util/Optional", name := "of", desc := "(Ljava/lang/Object;)Ljava/util/Optional;" } : Jvm.MethodName) jdk_32_method_3_code (1 : Nat) (Option.some (Jvm.ClassFile.FieldType.object "java/util/Optional"))).before args0 about1 = true := code_word (m := ⟨9, 2⟩) (meth := k9m2) (c := k9c2) (by decide +kernel) rfl rfl rfl (by decide +kernel)
set_option maxRecDepth 65536 in
theorem w_c6 : (Jvm.Cond.code ({ cls := "java/util/Objects", name := "requireNonNull", desc := "(Ljava/lang/Object;)Ljava/lang/Object;" } : Jvm.MethodName) jdk_31_method_10_code (1 : Nat) (Option.some (Jvm.ClassFile.FieldType.object "java/lang/Object"))).before args0 about1 = true := code_word (m := ⟨10, 1⟩) (meth := k10m1) (c := k10c1) (by decide +kernel) rfl rfl rfl (by decide +kernel)
set_option maxRecDepth 65536 in
theorem w_c7 : (Jvm.Cond.code ({ cls := "java/util/Optional", name := "<init>", desc := "(Ljava/lang/Object;)V" } : Jvm.MethodName) jdk_32_method_2_code (2 : Nat) (Option.none : Option Jvm.ClassFile.FieldType)).before args0 about1 = true := code_word (m := ⟨9, 1⟩) (meth := k9m1) (c := k9c1) (by decide +kernel) rfl rfl rfl (by decide +kernel)
set_option maxRecDepth 65536 in
theorem w_c8 : (Jvm.Cond.code ({ cls := "java/util/Optional", name := "isPresent", desc := "()Z" } : Jvm.MethodName) jdk_32_method_6_code (1 : Nat) (Option.some Jvm.ClassFile.FieldType.boolean)).before args0 about1 = true := code_word (m := ⟨9, 4⟩) (meth := k9m4) (c := k9c4) (by decide +kernel) rfl rfl rfl (by decide +kernel)
set_option maxRecDepth 65536 in
theorem w_c9 : (Jvm.Cond.code ({ cls := "java/util/Optional", name := "get", desc := "()Ljava/lang/Object;" } : Jvm.MethodName) jdk_32_method_5_code (1 : Nat) (Option.some (Jvm.ClassFile.FieldType.object "java/lang/Object"))).before args0 about1 = true := code_word (m := ⟨9, 3⟩) (meth := k9m3) (c := k9c3) (by decide +kernel) rfl rfl rfl (by decide +kernel)
set_option maxRecDepth 65536 in
theorem w_c10 : (Jvm.Cond.code ({ cls := "com/example/planwright/planwright/query/NumericType", name := "kind", desc := "()Lcom/example/planwright/planwright/query/NumericKind;" } : Jvm.MethodName) prog_46_method_17_code (1 : Nat) (Option.some (Jvm.ClassFile.FieldType.object "com/example/planwright/planwright/query/NumericKind"))).before args0 about1 = true := code_word (m := ⟨8, 4⟩) (meth := k8m4) (c := k8c4) (by decide +kernel) rfl rfl rfl (by decide +kernel)
set_option maxRecDepth 65536 in
theorem w_c11 : (Jvm.Cond.code ({ cls := "com/example/planwright/planwright/query/NumericType", name := "precision", desc := "()I" } : Jvm.MethodName) prog_46_method_18_code (1 : Nat) (Option.some Jvm.ClassFile.FieldType.int)).before args0 about1 = true := code_word (m := ⟨8, 5⟩) (meth := k8m5) (c := k8c5) (by decide +kernel) rfl rfl rfl (by decide +kernel)
set_option maxRecDepth 65536 in
theorem w_c12 : (Jvm.Cond.code ({ cls := "com/example/planwright/planwright/query/NumericType", name := "scale", desc := "()I" } : Jvm.MethodName) prog_46_method_19_code (1 : Nat) (Option.some Jvm.ClassFile.FieldType.int)).before args0 about1 = true := code_word (m := ⟨8, 6⟩) (meth := k8m6) (c := k8c6) (by decide +kernel) rfl rfl rfl (by decide +kernel)
set_option maxRecDepth 65536 in
theorem w_c13 : (Jvm.Cond.code ({ cls := "com/example/planwright/planwright/query/NumericType", name := "widened", desc := "()I" } : Jvm.MethodName) prog_46_method_7_code (1 : Nat) (Option.some Jvm.ClassFile.FieldType.int)).before args0 about1 = true := code_word (m := ⟨8, 2⟩) (meth := k8m2) (c := k8c2) (by decide +kernel) rfl rfl rfl (by decide +kernel)
set_option maxRecDepth 65536 in
theorem w_c14 : (Jvm.Cond.code ({ cls := "java/lang/Math", name := "min", desc := "(II)I" } : Jvm.MethodName) jdk_29_method_69_code (2 : Nat) (Option.some Jvm.ClassFile.FieldType.int)).before args0 about1 = true := code_word (m := ⟨11, 1⟩) (meth := k11m1) (c := k11c1) (by decide +kernel) rfl rfl rfl (by decide +kernel)
set_option maxRecDepth 65536 in
theorem w_c15 : (Jvm.Cond.code ({ cls := "com/example/planwright/planwright/query/NumericType", name := "decimal", desc := "(II)Lcom/example/planwright/planwright/query/NumericType;" } : Jvm.MethodName) prog_46_method_12_code (2 : Nat) (Option.some (Jvm.ClassFile.FieldType.object "com/example/planwright/planwright/query/NumericType"))).before args0 about1 = true := code_word (m := ⟨8, 3⟩) (meth := k8m3) (c := k8c3) (by decide +kernel) rfl rfl rfl (by decide +kernel)
set_option maxRecDepth 65536 in
theorem w_c16 : (Jvm.Cond.code ({ cls := "java/util/Optional", name := "empty", desc := "()Ljava/util/Optional;" } : Jvm.MethodName) jdk_32_method_1_code (1 : Nat) (Option.some (Jvm.ClassFile.FieldType.object "java/util/Optional"))).before args0 about1 = true := code_word (m := ⟨9, 0⟩) (meth := k9m0) (c := k9c0) (by decide +kernel) rfl rfl rfl (by decide +kernel)
def codes1 : List Jvm.Cond := [Jvm.Cond.code x code maxLocals ret, Jvm.Cond.code ({ cls := "com/example/planwright/planwright/query/NumericType", name := "<init>", desc := "(Lcom/example/planwright/planwright/query/NumericKind;II)V" } : Jvm.MethodName) prog_46_method_1_code (4 : Nat) (Option.none : Option Jvm.ClassFile.FieldType), Jvm.Cond.code ({ cls := "java/lang/Record", name := "<init>", desc := "()V" } : Jvm.MethodName) jdk_30_method_1_code (1 : Nat) (Option.none : Option Jvm.ClassFile.FieldType), Jvm.Cond.code ({ cls := "java/lang/Object", name := "<init>", desc := "()V" } : Jvm.MethodName) object_method_1_code (1 : Nat) (Option.none : Option Jvm.ClassFile.FieldType), Jvm.Cond.code ({ cls := "com/example/planwright/planwright/query/NumericType", name := "sum", desc := "()Ljava/util/Optional;" } : Jvm.MethodName) prog_46_method_4_code (1 : Nat) (Option.some (Jvm.ClassFile.FieldType.object "java/util/Optional")), Jvm.Cond.code ({ cls := "java/util/Optional", name := "of", desc := "(Ljava/lang/Object;)Ljava/util/Optional;" } : Jvm.MethodName) jdk_32_method_3_code (1 : Nat) (Option.some (Jvm.ClassFile.FieldType.object "java/util/Optional")), Jvm.Cond.code ({ cls := "java/util/Objects", name := "requireNonNull", desc := "(Ljava/lang/Object;)Ljava/lang/Object;" } : Jvm.MethodName) jdk_31_method_10_code (1 : Nat) (Option.some (Jvm.ClassFile.FieldType.object "java/lang/Object")), Jvm.Cond.code ({ cls := "java/util/Optional", name := "<init>", desc := "(Ljava/lang/Object;)V" } : Jvm.MethodName) jdk_32_method_2_code (2 : Nat) (Option.none : Option Jvm.ClassFile.FieldType), Jvm.Cond.code ({ cls := "java/util/Optional", name := "isPresent", desc := "()Z" } : Jvm.MethodName) jdk_32_method_6_code (1 : Nat) (Option.some Jvm.ClassFile.FieldType.boolean), Jvm.Cond.code ({ cls := "java/util/Optional", name := "get", desc := "()Ljava/lang/Object;" } : Jvm.MethodName) jdk_32_method_5_code (1 : Nat) (Option.some (Jvm.ClassFile.FieldType.object "java/lang/Object")), Jvm.Cond.code ({ cls := "com/example/planwright/planwright/query/NumericType", name := "kind", desc := "()Lcom/example/planwright/planwright/query/NumericKind;" } : Jvm.MethodName) prog_46_method_17_code (1 : Nat) (Option.some (Jvm.ClassFile.FieldType.object "com/example/planwright/planwright/query/NumericKind")), Jvm.Cond.code ({ cls := "com/example/planwright/planwright/query/NumericType", name := "precision", desc := "()I" } : Jvm.MethodName) prog_46_method_18_code (1 : Nat) (Option.some Jvm.ClassFile.FieldType.int), Jvm.Cond.code ({ cls := "com/example/planwright/planwright/query/NumericType", name := "scale", desc := "()I" } : Jvm.MethodName) prog_46_method_19_code (1 : Nat) (Option.some Jvm.ClassFile.FieldType.int), Jvm.Cond.code ({ cls := "com/example/planwright/planwright/query/NumericType", name := "widened", desc := "()I" } : Jvm.MethodName) prog_46_method_7_code (1 : Nat) (Option.some Jvm.ClassFile.FieldType.int), Jvm.Cond.code ({ cls := "java/lang/Math", name := "min", desc := "(II)I" } : Jvm.MethodName) jdk_29_method_69_code (2 : Nat) (Option.some Jvm.ClassFile.FieldType.int), Jvm.Cond.code ({ cls := "com/example/planwright/planwright/query/NumericType", name := "decimal", desc := "(II)Lcom/example/planwright/planwright/query/NumericType;" } : Jvm.MethodName) prog_46_method_12_code (2 : Nat) (Option.some (Jvm.ClassFile.FieldType.object "com/example/planwright/planwright/query/NumericType")), Jvm.Cond.code ({ cls := "java/util/Optional", name := "empty", desc := "()Ljava/util/Optional;" } : Jvm.MethodName) jdk_32_method_1_code (1 : Nat) (Option.some (Jvm.ClassFile.FieldType.object "java/util/Optional"))]
set_option maxRecDepth 65536 in
theorem codes_eq : words1.filter isCode = codes1 := rfl
theorem w_codes : ∀ c ∈ words1.filter isCode, c.before args0 about1 = true := by
  rw [codes_eq]
  intro c hc
  simp only [codes1, List.mem_cons, List.not_mem_nil, or_false] at hc
  rcases hc with rfl | rfl | rfl | rfl | rfl | rfl | rfl | rfl | rfl | rfl | rfl | rfl | rfl | rfl | rfl | rfl | rfl
  · exact w_c0
  · exact w_c1
  · exact w_c2
  · exact w_c3
  · exact w_c4
  · exact w_c5
  · exact w_c6
  · exact w_c7
  · exact w_c8
  · exact w_c9
  · exact w_c10
  · exact w_c11
  · exact w_c12
  · exact w_c13
  · exact w_c14
  · exact w_c15
  · exact w_c16
set_option maxRecDepth 65536 in
theorem w_t1 : (words1.take 24).all (fun c => isCode c || c.before args0 about1) = true := by decide +kernel
set_option maxRecDepth 65536 in
theorem w_t2 : ((words1.drop 24).take 24).all (fun c => isCode c || c.before args0 about1) = true := by decide +kernel
set_option maxRecDepth 65536 in
theorem w_t3 : (((words1.drop 24).drop 24).take 24).all (fun c => isCode c || c.before args0 about1) = true := by decide +kernel
set_option maxRecDepth 65536 in
theorem w_t4 : ((((words1.drop 24).drop 24).drop 24).take 24).all (fun c => isCode c || c.before args0 about1) = true := by decide +kernel
set_option maxRecDepth 65536 in
theorem w_t5 : ((((words1.drop 24).drop 24).drop 24).drop 24).all (fun c => isCode c || c.before args0 about1) = true := by decide +kernel
theorem w_tables : (allAtoms (Jvm.Cond.code x code maxLocals ret :: tables_1)).before args0 about1 = true := by
  rw [allAtoms_all]
  show words1.all (fun c => c.before args0 about1) = true
  refine all_split ?_ w_codes
  rw [← List.take_append_drop 24 words1, List.all_append, w_t1, ← List.take_append_drop 24 (words1.drop 24), List.all_append, w_t2, ← List.take_append_drop 24 ((words1.drop 24).drop 24), List.all_append, w_t3, ← List.take_append_drop 24 (((words1.drop 24).drop 24).drop 24), List.all_append, w_t4, w_t5]
  rfl
set_option maxRecDepth 65536 in
theorem w_rest : rest_1_c.before args0 about1 = true := by decide +kernel
set_option maxRecDepth 65536 in
theorem w_case : (Jvm.Cond.and given_1 narrow_1).before args0 about1 = true := by decide +kernel
theorem w_applies : (headSpec (Jvm.Cond.code x code maxLocals ret :: tables_1) room_1).applies x e0.platform about1 = true :=
  (Spec.applies_iff w_frames).mpr ⟨w_running, w_runnable, w_alone, w_named, w_hears, w_ripe, w_room, w_tables⟩
theorem atStart : AtStart classFile x code maxLocals ret World_1 tables_1 room_1 Calls_1 rest_1 Pre_1 launch0 p0 e0 about1 theMethod args0 below0 :=
  ⟨lists_1, trivial, launch0.admits_env _ _ _, launch0.least_env, fairChoices_fair.cas, fairChoices_fair.clock, w_frames, w_args, w_heap, w_applies, trivial, w_rest, w_case⟩
end start1
theorem witness_1 : WitnessClaimed_1 := ⟨start1.p0, start1.e0, start1.about1, start1.theMethod, start1.args0, start1.below0, start1.atStart⟩
end Jvm.Pilot.@@N@@
