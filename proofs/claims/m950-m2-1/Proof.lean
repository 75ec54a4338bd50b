import JvmDerived
import JvmDerived.Pilot.@@N@@Statement
import JvmDerived.Pilot.@@N@@Code
set_option linter.unusedVariables false
set_option linter.unusedSimpArgs false

namespace Jvm.Pilot.@@N@@
open Jvm Jvm.ClassFile Sem Op Lib Jvm.Free Jvm.Stand Jvm.LawKit Jvm.RoadKit Bundle Jvm.Pilot.@@N@@.Jvm.D
/-! continuation style: from A the run comes to a state of which K holds -/
def own_Go (tb : Tables) (e : Env) (below : List Frame) (K : State → Prop) (A : State) : Prop := ∃ U, Steps tb e below A U ∧ K U
theorem own_by {tb : Tables} {e : Env} {below : List Frame} {K : State → Prop} {A B : State} (h : ∀ t, Steps tb e below B t → Steps tb e below A t) (k : own_Go tb e below K B) : own_Go tb e below K A := by
  obtain ⟨U, s, q⟩ := k; exact ⟨U, h U s, q⟩
def own_K (s : State) (below : List Frame) (Q : Option Value → Heap → List Loc → Prop) (kc ks : Nat) (U : State) : Prop :=
  ∃ v L, U.status = .running ∧ Ended U below (.returned v) ∧ Q v U.heap L ∧ FrameEnd s (.returned v) U L kc ks
theorem own_done {tb : Tables} {e : Env} {below : List Frame} {s A B : State} {Q : Option Value → Heap → List Loc → Prop} {kc ks : Nat} (h : ∀ t, Steps tb e below B t → Steps tb e below A t) (k : own_Go tb e below (own_K s below Q kc ks) B) :
    ∃ s₂ o, Steps tb e below A s₂ ∧ s₂.status = .running ∧ Ended s₂ below o ∧ ∃ v L, o = .returned v ∧ Q v s₂.heap L ∧ FrameEnd s o s₂ L kc ks := by
  obtain ⟨U, st, v, L, h1, h2, h3, h4⟩ := k
  exact ⟨U, _, h U st, h1, h2, v, L, rfl, h3, h4⟩
section OwnRet
variable {p : Program} {l : Launch} {e : Env} {R : Room} {s : State} {m : MethodId} {args : Array Value} {below : List Frame} {meth : Method} {c : Code} {T : State} {locs : List Loc} {cells slots : Nat} {Q : Option Value → Heap → List Loc → Prop} {kc ks : Nat}
theorem own_retW (X : Stand p l e R s m args below meth c T locs cells slots) (hx : p.tables.exec = Jvm.exec) {pc : Nat} {Ls : Array Slot} {w : Value} {t : FieldType} {i : Instr} {rest : List Value} (hrt : meth.sig.returnType = some t) (hlk : meth.locks = false) (hn : narrow t w = w)
    (hi : (i = .ireturn ∧ (t = .int ∨ t = .boolean ∨ t = .byte ∨ t = .char ∨ t = .short) ∧ ∃ z, w = .int z) ∨ (i = .lreturn ∧ t = .long ∧ ∃ z, w = .long z) ∨ (i = .dreturn ∧ t = .double ∧ ∃ z, w = .double z) ∨ (i = .freturn ∧ t = .float ∧ ∃ z, w = .float z) ∨ (i = .areturn ∧ t.isReference = true ∧ w.isRef = true))
    (hd : decode c.code pc = .ok (i, 1)) (hc : cells ≤ kc) (hs : slots ≤ ks) (hq : Q (some w) T.heap locs) :
    own_Go p.tables e below (own_K s below Q kc ks) (T.setTop (mkF m pc Ls (w :: rest))) := by
  obtain ⟨fs, hr, hrun, hended, hW, hsame⟩ := X.leave (v := some w) (fun h => by rw [hrt] at h; cases h) hlk
  exact ⟨_, retOut X hx hrt hn hi hd hr, some w, locs, hrun, hended, hq, ⟨_, rfl⟩, hW, hsame.mono hc hs⟩
theorem own_retI (X : Stand p l e R s m args below meth c T locs cells slots) (hx : p.tables.exec = Jvm.exec) {pc : Nat} {Ls : Array Slot} {z : Int32} {rest : List Value} (hrt : meth.sig.returnType = some .int) (hlk : meth.locks = false)
    (hd : decode c.code pc = .ok (.ireturn, 1)) (hc : cells ≤ kc) (hs : slots ≤ ks) (hq : Q (some (.int z)) T.heap locs) :
    own_Go p.tables e below (own_K s below Q kc ks) (T.setTop (mkF m pc Ls (.int z :: rest))) :=
  own_retW X hx hrt hlk rfl (Or.inl ⟨rfl, Or.inl rfl, _, rfl⟩) hd hc hs hq
theorem own_retZ (X : Stand p l e R s m args below meth c T locs cells slots) (hx : p.tables.exec = Jvm.exec) {pc : Nat} {Ls : Array Slot} {z : Int32} {rest : List Value} (hrt : meth.sig.returnType = some .boolean) (hlk : meth.locks = false) (hn : narrow .boolean (.int z) = .int z)
    (hd : decode c.code pc = .ok (.ireturn, 1)) (hc : cells ≤ kc) (hs : slots ≤ ks) (hq : Q (some (.int z)) T.heap locs) :
    own_Go p.tables e below (own_K s below Q kc ks) (T.setTop (mkF m pc Ls (.int z :: rest))) :=
  own_retW X hx hrt hlk hn (Or.inl ⟨rfl, Or.inr (Or.inl rfl), _, rfl⟩) hd hc hs hq
theorem own_retJ (X : Stand p l e R s m args below meth c T locs cells slots) (hx : p.tables.exec = Jvm.exec) {pc : Nat} {Ls : Array Slot} {z : Int64} {rest : List Value} (hrt : meth.sig.returnType = some .long) (hlk : meth.locks = false)
    (hd : decode c.code pc = .ok (.lreturn, 1)) (hc : cells ≤ kc) (hs : slots ≤ ks) (hq : Q (some (.long z)) T.heap locs) :
    own_Go p.tables e below (own_K s below Q kc ks) (T.setTop (mkF m pc Ls (.long z :: rest))) :=
  own_retW X hx hrt hlk rfl (Or.inr (Or.inl ⟨rfl, rfl, _, rfl⟩)) hd hc hs hq
theorem own_retA (X : Stand p l e R s m args below meth c T locs cells slots) (hx : p.tables.exec = Jvm.exec) {pc : Nat} {Ls : Array Slot} {w : Value} {t : FieldType} {rest : List Value} (hrt : meth.sig.returnType = some t) (ht : t.isReference = true) (hw : w.isRef = true) (hlk : meth.locks = false)
    (hd : decode c.code pc = .ok (.areturn, 1)) (hc : cells ≤ kc) (hs : slots ≤ ks) (hq : Q (some w) T.heap locs) :
    own_Go p.tables e below (own_K s below Q kc ks) (T.setTop (mkF m pc Ls (w :: rest))) :=
  own_retW X hx hrt hlk (by rcases ref_cases hw with rfl | ⟨a, rfl⟩ <;> cases t <;> first | rfl | (cases ht)) (Or.inr (Or.inr (Or.inr (Or.inr ⟨rfl, ht, hw⟩)))) hd hc hs hq
theorem own_retV (X : Stand p l e R s m args below meth c T locs cells slots) (hx : p.tables.exec = Jvm.exec) {pc : Nat} {Ls : Array Slot} (hrt : meth.sig.returnType = none) (hlk : meth.locks = false)
    (hd : decode c.code pc = .ok (.return_, 1)) (hc : cells ≤ kc) (hs : slots ≤ ks) (hq : Q none T.heap locs) :
    own_Go p.tables e below (own_K s below Q kc ks) (T.setTop (mkF m pc Ls [])) := by
  obtain ⟨fs, hr, hrun, hended, hW, hsame⟩ := X.leave (v := none) (fun _ => rfl) hlk
  exact ⟨_, X.returnOut hx hrt hd hr, none, locs, hrun, hended, hq, ⟨_, rfl⟩, hW, hsame.mono hc hs⟩
theorem own_retB (X : Stand p l e R s m args below meth c T locs cells slots) (hx : p.tables.exec = Jvm.exec) {pc : Nat} {Ls : Array Slot} {z : Int32} {rest : List Value} (hrt : meth.sig.returnType = some .boolean) (hlk : meth.locks = false)
    (hd : decode c.code pc = .ok (.ireturn, 1)) (hc : cells ≤ kc) (hs : slots ≤ ks) (hq : Q (some (.int (z &&& (1 : Int32)))) T.heap locs) :
    own_Go p.tables e below (own_K s below Q kc ks) (T.setTop (mkF m pc Ls (.int z :: rest))) := by
  obtain ⟨fs, hr, hrun, hended, hW, hsame⟩ := X.leave (v := some (.int (nar .boolean z))) (fun h => by rw [hrt] at h; cases h) hlk
  exact ⟨_, retN X hx (t := .boolean) hrt (Or.inl rfl) hd hr, some (.int (nar .boolean z)), locs, hrun, hended, hq, ⟨_, rfl⟩, hW, hsame.mono hc hs⟩
end OwnRet
def own_P (r : Value) (h0 : Heap) (n0 : Nat) (v : Option Value) (h : Heap) (L : List Loc) : Prop := v = some r ∧ Fr n0 L ∧ h = h0
def own_W (Z : State) (h : Heap) (a_INPUT_BIT a_OUTPUT_BIT a_OUTPUT_WORD a_INPUT_WORD a_MEMORY_WORD : Addr) : Prop := Sta Z h "com/example/hotrung/hotrung/image/Address$Area" "INPUT_BIT" "Lcom/example/hotrung/hotrung/image/Address$Area;" (.ref a_INPUT_BIT) ∧ Exa Z h a_INPUT_BIT "com/example/hotrung/hotrung/image/Address$Area" ∧ Sta Z h "com/example/hotrung/hotrung/image/Address$Area" "OUTPUT_BIT" "Lcom/example/hotrung/hotrung/image/Address$Area;" (.ref a_OUTPUT_BIT) ∧ Exa Z h a_OUTPUT_BIT "com/example/hotrung/hotrung/image/Address$Area" ∧ Sta Z h "com/example/hotrung/hotrung/image/Address$Area" "OUTPUT_WORD" "Lcom/example/hotrung/hotrung/image/Address$Area;" (.ref a_OUTPUT_WORD) ∧ Exa Z h a_OUTPUT_WORD "com/example/hotrung/hotrung/image/Address$Area" ∧ Sta Z h "com/example/hotrung/hotrung/image/Address$Area" "INPUT_WORD" "Lcom/example/hotrung/hotrung/image/Address$Area;" (.ref a_INPUT_WORD) ∧ Exa Z h a_INPUT_WORD "com/example/hotrung/hotrung/image/Address$Area" ∧ Sta Z h "com/example/hotrung/hotrung/image/Address$Area" "MEMORY_WORD" "Lcom/example/hotrung/hotrung/image/Address$Area;" (.ref a_MEMORY_WORD) ∧ Exa Z h a_MEMORY_WORD "com/example/hotrung/hotrung/image/Address$Area" ∧ Fld Z h a_INPUT_BIT "java/lang/Enum" "ordinal" "I" (.int (0 : Int32)) ∧ Fld Z h a_OUTPUT_BIT "java/lang/Enum" "ordinal" "I" (.int (1 : Int32)) ∧ Fld Z h a_OUTPUT_WORD "java/lang/Enum" "ordinal" "I" (.int (3 : Int32)) ∧ Fld Z h a_INPUT_WORD "java/lang/Enum" "ordinal" "I" (.int (2 : Int32)) ∧ Fld Z h a_MEMORY_WORD "java/lang/Enum" "ordinal" "I" (.int (4 : Int32))

def own_f1 (ua : Addr) (a_INPUT_BIT : Addr) (a_INPUT_WORD : Addr) : Int32 := if ua = a_INPUT_BIT then (1 : Int32) else if ua = a_INPUT_WORD then (1 : Int32) else (0 : Int32)

theorem d1_0 : decode prog_31_method_6_code 0 = .ok (.aload_n 0, 1) := by decide +kernel
theorem d1_1 : decode prog_31_method_6_code 1 = .ok (.getstatic 3, 3) := by decide +kernel
theorem d1_4 : decode prog_31_method_6_code 4 = .ok (.if_acmp .eq 10, 3) := by decide +kernel
theorem d1_7 : decode prog_31_method_6_code 7 = .ok (.aload_n 0, 1) := by decide +kernel
theorem d1_8 : decode prog_31_method_6_code 8 = .ok (.getstatic 10, 3) := by decide +kernel
theorem d1_11 : decode prog_31_method_6_code 11 = .ok (.if_acmp .ne 7, 3) := by decide +kernel
theorem d1_14 : decode prog_31_method_6_code 14 = .ok (.iconst 1, 1) := by decide +kernel
theorem d1_15 : decode prog_31_method_6_code 15 = .ok (.goto 4, 3) := by decide +kernel
theorem d1_18 : decode prog_31_method_6_code 18 = .ok (.iconst 0, 1) := by decide +kernel
theorem d1_19 : decode prog_31_method_6_code 19 = .ok (.ireturn, 1) := by decide +kernel
theorem pn_rm1 : plainFor (⟨"com/example/hotrung/hotrung/image/Address$Area", "isInput", "()Z"⟩ : MethodName) = true := by first | exact plainFor_of_name (by first | (simp [plainName, overriddenIn]; done) | decide +kernel) | exact Jvm.Free.JP.mathPlain rfl (by decide +kernel) | decide +kernel
theorem ef_rm1 (m : MethodId) (x0 : Addr) : entryFrame m #[(.ref x0)] 1 = mkF m 0 #[.val (.ref x0)] [] := by first | (simp [entryFrame, mkF, argsToLocals, Value.category]; done) | rfl
set_option maxRecDepth 65536 in
set_option maxHeartbeats 40000000 in
theorem rm1 (l : Launch) (Z : State) (a0 : Array Value) (hw : ∀ d ∈ tables_1, d.before a0 Z = true) (ws : List Jvm.Cond) (a_INPUT_BIT a_OUTPUT_BIT a_OUTPUT_WORD a_INPUT_WORD a_MEMORY_WORD : Addr) (ua : Addr) (h0 : Heap) (n0 : Nat) (Z0 : n0 ≤ h0.size) (HW : own_W Z h0 a_INPUT_BIT a_OUTPUT_BIT a_OUTPUT_WORD a_INPUT_WORD a_MEMORY_WORD) :
    MetFree l (⟨"com/example/hotrung/hotrung/image/Address$Area", "isInput", "()Z"⟩ : MethodName) (head1 (Jvm.Cond.code (⟨"com/example/hotrung/hotrung/image/Address$Area", "isInput", "()Z"⟩ : MethodName) prog_31_method_6_code 1 (some .boolean) :: ws) ({ frames := 0, cells := 0, slots := 0, locals := 0 } : Room)) (fun a U => a = #[(.ref ua)] ∧ Z.Warmed39 U.vm ∧ U.heap = h0) (fun _ _ _ _ _ => True) (fun _ U o U' => ∃ v L, o = .returned v ∧ (own_P (.int (own_f1 ua a_INPUT_BIT a_INPUT_WORD)) h0 n0) v U'.heap L ∧ FrameEnd U o U' L 0 0) := by
  refine MetFree.of_bodySF pn_rm1 hisR ?_
  intro p e s m args below meth c s₁ Bd hml0 hP hK
  obtain ⟨rfl, hZ, hh⟩ := hP
  have hx := Bd.exec
  have hby := Bd.bytes
  have hml : c.maxLocals = 1 := hml0
  have hown : s.vm.findClass "com/example/hotrung/hotrung/image/Address$Area" = some m.cls := findClass_of_methodNamed Bd.named
  have hnm := (name_of_methodNamed Bd.named Bd.method).1
  have hrt := Bd.returns
  have hlk := Bd.notSynchronized
  have X0 : Stand p l e ({ frames := 0, cells := 0, slots := 0, locals := 0 } : Room) s m #[(.ref ua)] below meth c s₁ [] 0 0 := Stand.of_body Bd
  have e0 : s₁.heap = h0 := by rw [← hh, Bd.state]; rfl
  have N0 := Fr.nil n0
  obtain ⟨S_INPUT_BIT, E_INPUT_BIT, S_OUTPUT_BIT, E_OUTPUT_BIT, S_OUTPUT_WORD, E_OUTPUT_WORD, S_INPUT_WORD, E_INPUT_WORD, S_MEMORY_WORD, E_MEMORY_WORD, F_INPUT_BIT_ordinal, F_OUTPUT_BIT_ordinal, F_OUTPUT_WORD_ordinal, F_INPUT_WORD_ordinal, F_MEMORY_WORD_ordinal⟩ := HW
  refine own_done (B := s₁.setTop (mkF m 0 #[.val (.ref ua)] [])) (fun t k => castTop (ef_rm1 m ua) k) ?_
  refine own_by (B := s₁.setTop (mkF m 1 #[.val (.ref ua)] [(.ref ua)])) (fun _ k => XS.aloadN X0.here hx rfl (hb hby d1_0) rfl rfl  k) ?_
  obtain ⟨T1, X1, e1, st1⟩ := getS2 X0 hx hZ hown (host := "") (Or.inl (hw _ (List.mem_of_getElem? (i := 9) rfl))) Via.refl e0 S_INPUT_BIT (g := (mkF m 1 #[.val (.ref ua)] [(.ref ua)])) rfl (hb hby d1_1)
  refine own_by (B := T1.setTop (mkF m 4 #[.val (.ref ua)] [(.ref a_INPUT_BIT), (.ref ua)])) st1 ?_
  by_cases hc2 : ua = a_INPUT_BIT
  · refine own_by (B := T1.setTop (mkF m 14 #[.val (.ref ua)] [])) (fun _ k => XT.acmpYes X1.here hx rfl (pc0 := 4) (pc' := 14) rfl (hb hby d1_4) rfl rfl rfl (XT.aa_eq_t (congrArg Value.ref hc2)) (by decide) (by decide) k) ?_
    refine own_by (B := T1.setTop (mkF m 15 #[.val (.ref ua)] [(.int (1 : Int32))])) (fun _ k => XS.iconst X1.here hx rfl (hb hby d1_14) k) ?_
    refine own_by (B := T1.setTop (mkF m 19 #[.val (.ref ua)] [(.int (1 : Int32))])) (fun _ k => XS.goto X1.here hx rfl (pc0 := 15) (pc' := 19) rfl (hb hby d1_15) (by decide) (by decide) k) ?_
    exact own_retZ X1 hx hrt hlk rfl (hb hby d1_19) (by decide) (by decide) ⟨(by unfold own_f1; rw [if_pos hc2]), N0, e1⟩
  · refine own_by (B := T1.setTop (mkF m 7 #[.val (.ref ua)] [])) (fun _ k => XT.acmpNo X1.here hx rfl (hb hby d1_4) rfl rfl rfl (XT.aa_eq_f (fun q => hc2 (Value.ref.inj q))) k) ?_
    refine own_by (B := T1.setTop (mkF m 8 #[.val (.ref ua)] [(.ref ua)])) (fun _ k => XS.aloadN X1.here hx rfl (hb hby d1_7) rfl rfl  k) ?_
    obtain ⟨T3, X3, e3, st3⟩ := getS2 X1 hx hZ hown (host := "") (Or.inl (hw _ (List.mem_of_getElem? (i := 20) rfl))) Via.refl e1 S_INPUT_WORD (g := (mkF m 8 #[.val (.ref ua)] [(.ref ua)])) rfl (hb hby d1_8)
    refine own_by (B := T3.setTop (mkF m 11 #[.val (.ref ua)] [(.ref a_INPUT_WORD), (.ref ua)])) st3 ?_
    by_cases hc4 : ua = a_INPUT_WORD
    · refine own_by (B := T3.setTop (mkF m 14 #[.val (.ref ua)] [])) (fun _ k => XT.acmpNo X3.here hx rfl (hb hby d1_11) rfl rfl rfl (XT.aa_ne_f (congrArg Value.ref hc4)) k) ?_
      refine own_by (B := T3.setTop (mkF m 15 #[.val (.ref ua)] [(.int (1 : Int32))])) (fun _ k => XS.iconst X3.here hx rfl (hb hby d1_14) k) ?_
      refine own_by (B := T3.setTop (mkF m 19 #[.val (.ref ua)] [(.int (1 : Int32))])) (fun _ k => XS.goto X3.here hx rfl (pc0 := 15) (pc' := 19) rfl (hb hby d1_15) (by decide) (by decide) k) ?_
      exact own_retZ X3 hx hrt hlk rfl (hb hby d1_19) (by decide) (by decide) ⟨(by unfold own_f1; rw [if_neg hc2, if_pos hc4]), N0, e3⟩
    · refine own_by (B := T3.setTop (mkF m 18 #[.val (.ref ua)] [])) (fun _ k => XT.acmpYes X3.here hx rfl (pc0 := 11) (pc' := 18) rfl (hb hby d1_11) rfl rfl rfl (XT.aa_ne_t (fun q => hc4 (Value.ref.inj q))) (by decide) (by decide) k) ?_
      refine own_by (B := T3.setTop (mkF m 19 #[.val (.ref ua)] [(.int (0 : Int32))])) (fun _ k => XS.iconst X3.here hx rfl (hb hby d1_18) k) ?_
      exact own_retZ X3 hx hrt hlk rfl (hb hby d1_19) (by decide) (by decide) ⟨(by unfold own_f1; rw [if_neg hc2, if_neg hc4]), N0, e3⟩

def own_f2 (ua : Addr) (a_OUTPUT_BIT : Addr) (a_OUTPUT_WORD : Addr) : Int32 := if ua = a_OUTPUT_BIT then (1 : Int32) else if ua = a_OUTPUT_WORD then (1 : Int32) else (0 : Int32)

theorem d2_0 : decode prog_31_method_7_code 0 = .ok (.aload_n 0, 1) := by decide +kernel
theorem d2_1 : decode prog_31_method_7_code 1 = .ok (.getstatic 7, 3) := by decide +kernel
theorem d2_4 : decode prog_31_method_7_code 4 = .ok (.if_acmp .eq 10, 3) := by decide +kernel
theorem d2_7 : decode prog_31_method_7_code 7 = .ok (.aload_n 0, 1) := by decide +kernel
theorem d2_8 : decode prog_31_method_7_code 8 = .ok (.getstatic 13, 3) := by decide +kernel
theorem d2_11 : decode prog_31_method_7_code 11 = .ok (.if_acmp .ne 7, 3) := by decide +kernel
theorem d2_14 : decode prog_31_method_7_code 14 = .ok (.iconst 1, 1) := by decide +kernel
theorem d2_15 : decode prog_31_method_7_code 15 = .ok (.goto 4, 3) := by decide +kernel
theorem d2_18 : decode prog_31_method_7_code 18 = .ok (.iconst 0, 1) := by decide +kernel
theorem d2_19 : decode prog_31_method_7_code 19 = .ok (.ireturn, 1) := by decide +kernel
theorem pn_rm2 : plainFor (⟨"com/example/hotrung/hotrung/image/Address$Area", "isOutput", "()Z"⟩ : MethodName) = true := by first | exact plainFor_of_name (by first | (simp [plainName, overriddenIn]; done) | decide +kernel) | exact Jvm.Free.JP.mathPlain rfl (by decide +kernel) | decide +kernel
theorem ef_rm2 (m : MethodId) (x0 : Addr) : entryFrame m #[(.ref x0)] 1 = mkF m 0 #[.val (.ref x0)] [] := by first | (simp [entryFrame, mkF, argsToLocals, Value.category]; done) | rfl
set_option maxRecDepth 65536 in
set_option maxHeartbeats 40000000 in
theorem rm2 (l : Launch) (Z : State) (a0 : Array Value) (hw : ∀ d ∈ tables_1, d.before a0 Z = true) (ws : List Jvm.Cond) (a_INPUT_BIT a_OUTPUT_BIT a_OUTPUT_WORD a_INPUT_WORD a_MEMORY_WORD : Addr) (ua : Addr) (h0 : Heap) (n0 : Nat) (Z0 : n0 ≤ h0.size) (HW : own_W Z h0 a_INPUT_BIT a_OUTPUT_BIT a_OUTPUT_WORD a_INPUT_WORD a_MEMORY_WORD) :
    MetFree l (⟨"com/example/hotrung/hotrung/image/Address$Area", "isOutput", "()Z"⟩ : MethodName) (head1 (Jvm.Cond.code (⟨"com/example/hotrung/hotrung/image/Address$Area", "isOutput", "()Z"⟩ : MethodName) prog_31_method_7_code 1 (some .boolean) :: ws) ({ frames := 0, cells := 0, slots := 0, locals := 0 } : Room)) (fun a U => a = #[(.ref ua)] ∧ Z.Warmed39 U.vm ∧ U.heap = h0) (fun _ _ _ _ _ => True) (fun _ U o U' => ∃ v L, o = .returned v ∧ (own_P (.int (own_f2 ua a_OUTPUT_BIT a_OUTPUT_WORD)) h0 n0) v U'.heap L ∧ FrameEnd U o U' L 0 0) := by
  refine MetFree.of_bodySF pn_rm2 hisR ?_
  intro p e s m args below meth c s₁ Bd hml0 hP hK
  obtain ⟨rfl, hZ, hh⟩ := hP
  have hx := Bd.exec
  have hby := Bd.bytes
  have hml : c.maxLocals = 1 := hml0
  have hown : s.vm.findClass "com/example/hotrung/hotrung/image/Address$Area" = some m.cls := findClass_of_methodNamed Bd.named
  have hnm := (name_of_methodNamed Bd.named Bd.method).1
  have hrt := Bd.returns
  have hlk := Bd.notSynchronized
  have X0 : Stand p l e ({ frames := 0, cells := 0, slots := 0, locals := 0 } : Room) s m #[(.ref ua)] below meth c s₁ [] 0 0 := Stand.of_body Bd
  have e0 : s₁.heap = h0 := by rw [← hh, Bd.state]; rfl
  have N0 := Fr.nil n0
  obtain ⟨S_INPUT_BIT, E_INPUT_BIT, S_OUTPUT_BIT, E_OUTPUT_BIT, S_OUTPUT_WORD, E_OUTPUT_WORD, S_INPUT_WORD, E_INPUT_WORD, S_MEMORY_WORD, E_MEMORY_WORD, F_INPUT_BIT_ordinal, F_OUTPUT_BIT_ordinal, F_OUTPUT_WORD_ordinal, F_INPUT_WORD_ordinal, F_MEMORY_WORD_ordinal⟩ := HW
  refine own_done (B := s₁.setTop (mkF m 0 #[.val (.ref ua)] [])) (fun t k => castTop (ef_rm2 m ua) k) ?_
  refine own_by (B := s₁.setTop (mkF m 1 #[.val (.ref ua)] [(.ref ua)])) (fun _ k => XS.aloadN X0.here hx rfl (hb hby d2_0) rfl rfl  k) ?_
  obtain ⟨T1, X1, e1, st1⟩ := getS2 X0 hx hZ hown (host := "") (Or.inl (hw _ (List.mem_of_getElem? (i := 15) rfl))) Via.refl e0 S_OUTPUT_BIT (g := (mkF m 1 #[.val (.ref ua)] [(.ref ua)])) rfl (hb hby d2_1)
  refine own_by (B := T1.setTop (mkF m 4 #[.val (.ref ua)] [(.ref a_OUTPUT_BIT), (.ref ua)])) st1 ?_
  by_cases hc2 : ua = a_OUTPUT_BIT
  · refine own_by (B := T1.setTop (mkF m 14 #[.val (.ref ua)] [])) (fun _ k => XT.acmpYes X1.here hx rfl (pc0 := 4) (pc' := 14) rfl (hb hby d2_4) rfl rfl rfl (XT.aa_eq_t (congrArg Value.ref hc2)) (by decide) (by decide) k) ?_
    refine own_by (B := T1.setTop (mkF m 15 #[.val (.ref ua)] [(.int (1 : Int32))])) (fun _ k => XS.iconst X1.here hx rfl (hb hby d2_14) k) ?_
    refine own_by (B := T1.setTop (mkF m 19 #[.val (.ref ua)] [(.int (1 : Int32))])) (fun _ k => XS.goto X1.here hx rfl (pc0 := 15) (pc' := 19) rfl (hb hby d2_15) (by decide) (by decide) k) ?_
    exact own_retZ X1 hx hrt hlk rfl (hb hby d2_19) (by decide) (by decide) ⟨(by unfold own_f2; rw [if_pos hc2]), N0, e1⟩
  · refine own_by (B := T1.setTop (mkF m 7 #[.val (.ref ua)] [])) (fun _ k => XT.acmpNo X1.here hx rfl (hb hby d2_4) rfl rfl rfl (XT.aa_eq_f (fun q => hc2 (Value.ref.inj q))) k) ?_
    refine own_by (B := T1.setTop (mkF m 8 #[.val (.ref ua)] [(.ref ua)])) (fun _ k => XS.aloadN X1.here hx rfl (hb hby d2_7) rfl rfl  k) ?_
    obtain ⟨T3, X3, e3, st3⟩ := getS2 X1 hx hZ hown (host := "") (Or.inl (hw _ (List.mem_of_getElem? (i := 17) rfl))) Via.refl e1 S_OUTPUT_WORD (g := (mkF m 8 #[.val (.ref ua)] [(.ref ua)])) rfl (hb hby d2_8)
    refine own_by (B := T3.setTop (mkF m 11 #[.val (.ref ua)] [(.ref a_OUTPUT_WORD), (.ref ua)])) st3 ?_
    by_cases hc4 : ua = a_OUTPUT_WORD
    · refine own_by (B := T3.setTop (mkF m 14 #[.val (.ref ua)] [])) (fun _ k => XT.acmpNo X3.here hx rfl (hb hby d2_11) rfl rfl rfl (XT.aa_ne_f (congrArg Value.ref hc4)) k) ?_
      refine own_by (B := T3.setTop (mkF m 15 #[.val (.ref ua)] [(.int (1 : Int32))])) (fun _ k => XS.iconst X3.here hx rfl (hb hby d2_14) k) ?_
      refine own_by (B := T3.setTop (mkF m 19 #[.val (.ref ua)] [(.int (1 : Int32))])) (fun _ k => XS.goto X3.here hx rfl (pc0 := 15) (pc' := 19) rfl (hb hby d2_15) (by decide) (by decide) k) ?_
      exact own_retZ X3 hx hrt hlk rfl (hb hby d2_19) (by decide) (by decide) ⟨(by unfold own_f2; rw [if_neg hc2, if_pos hc4]), N0, e3⟩
    · refine own_by (B := T3.setTop (mkF m 18 #[.val (.ref ua)] [])) (fun _ k => XT.acmpYes X3.here hx rfl (pc0 := 11) (pc' := 18) rfl (hb hby d2_11) rfl rfl rfl (XT.aa_ne_t (fun q => hc4 (Value.ref.inj q))) (by decide) (by decide) k) ?_
      refine own_by (B := T3.setTop (mkF m 19 #[.val (.ref ua)] [(.int (0 : Int32))])) (fun _ k => XS.iconst X3.here hx rfl (hb hby d2_18) k) ?_
      exact own_retZ X3 hx hrt hlk rfl (hb hby d2_19) (by decide) (by decide) ⟨(by unfold own_f2; rw [if_neg hc2, if_neg hc4]), N0, e3⟩

def own_Q0 (n0 : Nat) (v : Option Value) (h : Heap) (L : List Loc) : Prop := v = some (.int 1) ∧ Fr n0 L

theorem pd_0___Z : parseMethodDescriptor "()Z" = some ⟨[], some .boolean⟩ := by decide +kernel
theorem pn_rm0 : plainFor (⟨"com/example/hotrung/hotrung/image/AreaIsInputPinLaw", "law", "(I)Z"⟩ : MethodName) = true := by first | exact plainFor_of_name (by first | (simp [plainName, overriddenIn]; done) | decide +kernel) | exact Jvm.Free.JP.mathPlain rfl (by decide +kernel) | decide +kernel
theorem ef_rm0 (m : MethodId) (x0 : Int32) : entryFrame m #[(.int x0)] maxLocals = mkF m 0 #[.val (.int x0), .unset, .unset, .unset, .unset] [] := by first | (simp [entryFrame, mkF, argsToLocals, Value.category, maxLocals]; done) | rfl
set_option maxRecDepth 65536 in
set_option maxHeartbeats 40000000 in
theorem rm0 (l : Launch) (Z : State) (a0 : Array Value) (hw : ∀ d ∈ tables_1, d.before a0 Z = true) (ws : List Jvm.Cond) (a_INPUT_BIT a_OUTPUT_BIT a_OUTPUT_WORD a_INPUT_WORD a_MEMORY_WORD : Addr) (ua : Int32) (h0 : Heap) (n0 : Nat) (Z0 : n0 ≤ h0.size) (HW : own_W Z h0 a_INPUT_BIT a_OUTPUT_BIT a_OUTPUT_WORD a_INPUT_WORD a_MEMORY_WORD) :
    MetFree l x (head1 (Jvm.Cond.code x code maxLocals ret :: ws) room_1) (fun a U => a = #[(.int ua)] ∧ Z.Warmed39 U.vm ∧ U.heap = h0) (fun _ _ _ _ _ => True) (fun _ U o U' => ∃ v L, o = .returned v ∧ (own_Q0 n0) v U'.heap L ∧ FrameEnd U o U' L 0 0) := by
  refine MetFree.of_bodySF pn_rm0 hisR ?_
  intro p e s m args below meth c s₁ Bd hml0 hP hK
  obtain ⟨rfl, hZ, hh⟩ := hP
  have hx := Bd.exec
  have hby := Bd.bytes
  have hml : c.maxLocals = 5 := hml0
  have hown : s.vm.findClass "com/example/hotrung/hotrung/image/AreaIsInputPinLaw" = some m.cls := findClass_of_methodNamed Bd.named
  have hnm := (name_of_methodNamed Bd.named Bd.method).1
  have hrt := Bd.returns
  have hlk := Bd.notSynchronized
  have X0 : Stand p l e room_1 s m #[(.int ua)] below meth c s₁ [] 0 0 := Stand.of_body Bd
  have e0 : s₁.heap = h0 := by rw [← hh, Bd.state]; rfl
  have N0 := Fr.nil n0
  have HW' := HW
  obtain ⟨S_INPUT_BIT, E_INPUT_BIT, S_OUTPUT_BIT, E_OUTPUT_BIT, S_OUTPUT_WORD, E_OUTPUT_WORD, S_INPUT_WORD, E_INPUT_WORD, S_MEMORY_WORD, E_MEMORY_WORD, F_INPUT_BIT_ordinal, F_OUTPUT_BIT_ordinal, F_OUTPUT_WORD_ordinal, F_INPUT_WORD_ordinal, F_MEMORY_WORD_ordinal⟩ := HW'
  refine own_done (B := s₁.setTop (mkF m 0 #[.val (.int ua), .unset, .unset, .unset, .unset] [])) (fun t k => castTop (ef_rm0 m ua) k) ?_
  refine own_by (B := s₁.setTop (mkF m 1 #[.val (.int ua), .unset, .unset, .unset, .unset] [(.int ua)])) (fun _ k => XS.iloadN X0.here hx rfl (hb hby at_0) rfl  k) ?_
  refine own_by (B := s₁.setTop (mkF m 3 #[.val (.int ua), .unset, .unset, .unset, .unset] [(.int (2147483647 : Int32)), (.int ua)])) (fun _ k => X0.ldcI (g := (mkF m 1 #[.val (.int ua), .unset, .unset, .unset, .unset] [(.int ua)])) hx hown (mvT hZ (hw _ (List.mem_of_getElem? (i := 0) rfl))) rfl (hb hby at_1) k) ?_
  refine own_by (B := s₁.setTop (mkF m 4 #[.val (.int ua), .unset, .unset, .unset, .unset] [(.int (ua &&& (2147483647 : Int32)))])) (fun _ k => XS.iand X0.here hx rfl (hb hby at_3) rfl k) ?_
  refine own_by (B := s₁.setTop (mkF m 5 #[.val (.int ua), .unset, .unset, .unset, .unset] [(.int (5 : Int32)), (.int (ua &&& (2147483647 : Int32)))])) (fun _ k => XS.iconst X0.here hx rfl (hb hby at_4) k) ?_
  refine own_by (B := s₁.setTop (mkF m 6 #[.val (.int ua), .unset, .unset, .unset, .unset] [(.int ((ua &&& (2147483647 : Int32)) % (5 : Int32)))])) (fun _ k => iremM (g := (mkF m 5 #[.val (.int ua), .unset, .unset, .unset, .unset] [(.int (5 : Int32)), (.int (ua &&& (2147483647 : Int32)))])) X0 hx rfl (hb hby at_5) rfl (by decide) k) ?_
  refine own_by (B := s₁.setTop (mkF m 7 #[.val (.int ua), .val (.int ((ua &&& (2147483647 : Int32)) % (5 : Int32))), .unset, .unset, .unset] [])) (fun _ k => XS.istoreN X0.here hx rfl (hb hby at_6) rfl (l' := #[.val (.int ua), .val (.int ((ua &&& (2147483647 : Int32)) % (5 : Int32))), .unset, .unset, .unset]) rfl k) ?_
  refine own_by (B := s₁.setTop (mkF m 8 #[.val (.int ua), .val (.int ((ua &&& (2147483647 : Int32)) % (5 : Int32))), .unset, .unset, .unset] [(.int ((ua &&& (2147483647 : Int32)) % (5 : Int32)))])) (fun _ k => XS.iloadN X0.here hx rfl (hb hby at_7) rfl  k) ?_
  by_cases hc1 : ((ua &&& (2147483647 : Int32)) % (5 : Int32)) = (0 : Int32)
  · refine own_by (B := s₁.setTop (mkF m 11 #[.val (.int ua), .val (.int ((ua &&& (2147483647 : Int32)) % (5 : Int32))), .unset, .unset, .unset] [])) (fun _ k => XS.ifNo X0.here hx rfl (hb hby at_8) rfl (XT.i0_ne_f hc1) k) ?_
    obtain ⟨T2, X2, e2, st2⟩ := getS2 X0 hx hZ hown (host := "") (Or.inl (hw _ (List.mem_of_getElem? (i := 1) rfl))) Via.refl e0 S_INPUT_BIT (g := (mkF m 11 #[.val (.int ua), .val (.int ((ua &&& (2147483647 : Int32)) % (5 : Int32))), .unset, .unset, .unset] [])) rfl (hb hby at_11)
    refine own_by (B := T2.setTop (mkF m 14 #[.val (.int ua), .val (.int ((ua &&& (2147483647 : Int32)) % (5 : Int32))), .unset, .unset, .unset] [(.ref a_INPUT_BIT)])) st2 ?_
    refine own_by (B := T2.setTop (mkF m 15 #[.val (.int ua), .val (.int ((ua &&& (2147483647 : Int32)) % (5 : Int32))), .val (.ref a_INPUT_BIT), .unset, .unset] [])) (fun _ k => XS.astoreN X2.here hx rfl (hb hby at_14) rfl rfl (l' := #[.val (.int ua), .val (.int ((ua &&& (2147483647 : Int32)) % (5 : Int32))), .val (.ref a_INPUT_BIT), .unset, .unset]) rfl k) ?_
    refine own_by (B := T2.setTop (mkF m 16 #[.val (.int ua), .val (.int ((ua &&& (2147483647 : Int32)) % (5 : Int32))), .val (.ref a_INPUT_BIT), .unset, .unset] [(.int (1 : Int32))])) (fun _ k => XS.iconst X2.here hx rfl (hb hby at_15) k) ?_
    refine own_by (B := T2.setTop (mkF m 17 #[.val (.int ua), .val (.int ((ua &&& (2147483647 : Int32)) % (5 : Int32))), .val (.ref a_INPUT_BIT), .val (.int (1 : Int32)), .unset] [])) (fun _ k => XS.istoreN X2.here hx rfl (hb hby at_16) rfl (l' := #[.val (.int ua), .val (.int ((ua &&& (2147483647 : Int32)) % (5 : Int32))), .val (.ref a_INPUT_BIT), .val (.int (1 : Int32)), .unset]) rfl k) ?_
    refine own_by (B := T2.setTop (mkF m 68 #[.val (.int ua), .val (.int ((ua &&& (2147483647 : Int32)) % (5 : Int32))), .val (.ref a_INPUT_BIT), .val (.int (1 : Int32)), .unset] [])) (fun _ k => XS.goto X2.here hx rfl (pc0 := 17) (pc' := 68) rfl (hb hby at_17) (by decide) (by decide) k) ?_
    refine own_by (B := T2.setTop (mkF m 69 #[.val (.int ua), .val (.int ((ua &&& (2147483647 : Int32)) % (5 : Int32))), .val (.ref a_INPUT_BIT), .val (.int (1 : Int32)), .unset] [(.ref a_INPUT_BIT)])) (fun _ k => XS.aloadN X2.here hx rfl (hb hby at_68) rfl rfl  k) ?_
    obtain ⟨cq3, kq3, qa3, qb3, qc3⟩ := isOf hZ e2 E_INPUT_BIT
    obtain ⟨_, _, ⟨T3, L3, k3, n3⟩, -, X3, ⟨Lc3, hQ3, l3, y3, z3⟩, st3⟩ := X2.virtualBack hx (y := (⟨"com/example/hotrung/hotrung/image/Address$Area", "isInput", "()Z"⟩ : MethodName)) (z := (⟨"com/example/hotrung/hotrung/image/Address$Area", "isInput", "()Z"⟩ : MethodName)) hown (mvT hZ (hw _ (List.mem_of_getElem? (i := 4) rfl))) (mvT hZ (hw _ (List.mem_of_getElem? (i := 5) rfl))) (notFace_of_selects (args := #[]) (mvT hZ (hw _ (List.mem_of_getElem? (i := 7) rfl)))) (mvT hZ (hw _ (List.mem_of_getElem? (i := 7) rfl))) (mvT hZ (hw _ (List.mem_of_getElem? (i := 6) rfl))) (by decide) (backOf (W := 0) (rm1 l Z a0 hw [] a_INPUT_BIT a_OUTPUT_BIT a_OUTPUT_WORD a_INPUT_WORD a_MEMORY_WORD a_INPUT_BIT h0 n0 Z0 HW) hZ (hw _ (List.mem_of_getElem? (i := 8) rfl)) (hw _ (List.mem_of_getElem? (i := 2) rfl)) (by decide) (by decide)) qa3 qc3 (g := (mkF m 69 #[.val (.int ua), .val (.int ((ua &&& (2147483647 : Int32)) % (5 : Int32))), .val (.ref a_INPUT_BIT), .val (.int (1 : Int32)), .unset] [(.ref a_INPUT_BIT)])) rfl (by rw [hml]; rfl) (Steps.refl _) (argsL := []) (rest := []) (lenOf pd_0___Z rfl) rfl (by show 2 * 0 + _ ≤ _; exact Nat.le_of_eq rfl) (hb hby at_69) (fun _ _ => ⟨rfl, e2, (by decide : 0 + 0 ≤ _), (by decide : 0 + 0 ≤ _)⟩)
    dsimp only [Pt.U, Pt.locs, Pt.cells, Pt.slots] at X3 l3 y3 z3 st3 hQ3
    subst l3 y3 z3
    obtain ⟨rfl, N3, e3⟩ := hQ3
    refine own_by (B := T3.setTop (mkF m 72 #[.val (.int ua), .val (.int ((ua &&& (2147483647 : Int32)) % (5 : Int32))), .val (.ref a_INPUT_BIT), .val (.int (1 : Int32)), .unset] [(.int (own_f1 a_INPUT_BIT a_INPUT_BIT a_INPUT_WORD))])) (fun _ k => st3.trans k) ?_
    have M3 := Fr.app N0 N3
    rw [show (own_f1 a_INPUT_BIT a_INPUT_BIT a_INPUT_WORD) = (1 : Int32) from by unfold own_f1; rw [if_pos rfl]]
    refine own_by (B := T3.setTop (mkF m 74 #[.val (.int ua), .val (.int ((ua &&& (2147483647 : Int32)) % (5 : Int32))), .val (.ref a_INPUT_BIT), .val (.int (1 : Int32)), .val (.int (1 : Int32))] [])) (fun _ k => XS.istore X3.here hx rfl (hb hby at_72) rfl (l' := #[.val (.int ua), .val (.int ((ua &&& (2147483647 : Int32)) % (5 : Int32))), .val (.ref a_INPUT_BIT), .val (.int (1 : Int32)), .val (.int (1 : Int32))]) rfl k) ?_
    refine own_by (B := T3.setTop (mkF m 76 #[.val (.int ua), .val (.int ((ua &&& (2147483647 : Int32)) % (5 : Int32))), .val (.ref a_INPUT_BIT), .val (.int (1 : Int32)), .val (.int (1 : Int32))] [(.int (1 : Int32))])) (fun _ k => XS.iload X3.here hx rfl (hb hby at_74) rfl  k) ?_
    refine own_by (B := T3.setTop (mkF m 77 #[.val (.int ua), .val (.int ((ua &&& (2147483647 : Int32)) % (5 : Int32))), .val (.ref a_INPUT_BIT), .val (.int (1 : Int32)), .val (.int (1 : Int32))] [(.int (1 : Int32)), (.int (1 : Int32))])) (fun _ k => XS.iloadN X3.here hx rfl (hb hby at_76) rfl  k) ?_
    refine own_by (B := T3.setTop (mkF m 82 #[.val (.int ua), .val (.int ((ua &&& (2147483647 : Int32)) % (5 : Int32))), .val (.ref a_INPUT_BIT), .val (.int (1 : Int32)), .val (.int (1 : Int32))] [])) (fun _ k => XS.icmpYes X3.here hx rfl (pc0 := 77) (pc' := 82) rfl (hb hby at_77) rfl (XT.ii_eq_t (by decide)) (by decide) (by decide) k) ?_
    refine own_by (B := T3.setTop (mkF m 84 #[.val (.int ua), .val (.int ((ua &&& (2147483647 : Int32)) % (5 : Int32))), .val (.ref a_INPUT_BIT), .val (.int (1 : Int32)), .val (.int (1 : Int32))] [(.int (1 : Int32))])) (fun _ k => XS.iload X3.here hx rfl (hb hby at_82) rfl  k) ?_
    refine own_by (B := T3.setTop (mkF m 87 #[.val (.int ua), .val (.int ((ua &&& (2147483647 : Int32)) % (5 : Int32))), .val (.ref a_INPUT_BIT), .val (.int (1 : Int32)), .val (.int (1 : Int32))] [])) (fun _ k => XS.ifNo X3.here hx rfl (hb hby at_84) rfl (XT.i0_eq_f (by decide)) k) ?_
    refine own_by (B := T3.setTop (mkF m 88 #[.val (.int ua), .val (.int ((ua &&& (2147483647 : Int32)) % (5 : Int32))), .val (.ref a_INPUT_BIT), .val (.int (1 : Int32)), .val (.int (1 : Int32))] [(.ref a_INPUT_BIT)])) (fun _ k => XS.aloadN X3.here hx rfl (hb hby at_87) rfl rfl  k) ?_
    obtain ⟨cq4, kq4, qa4, qb4, qc4⟩ := isOf hZ e3 E_INPUT_BIT
    obtain ⟨_, _, ⟨T4, L4, k4, n4⟩, -, X4, ⟨Lc4, hQ4, l4, y4, z4⟩, st4⟩ := X3.virtualBack hx (y := (⟨"com/example/hotrung/hotrung/image/Address$Area", "isOutput", "()Z"⟩ : MethodName)) (z := (⟨"com/example/hotrung/hotrung/image/Address$Area", "isOutput", "()Z"⟩ : MethodName)) hown (mvT hZ (hw _ (List.mem_of_getElem? (i := 10) rfl))) (mvT hZ (hw _ (List.mem_of_getElem? (i := 11) rfl))) (notFace_of_selects (args := #[]) (mvT hZ (hw _ (List.mem_of_getElem? (i := 13) rfl)))) (mvT hZ (hw _ (List.mem_of_getElem? (i := 13) rfl))) (mvT hZ (hw _ (List.mem_of_getElem? (i := 12) rfl))) (by decide) (backOf (W := 0) (rm2 l Z a0 hw [] a_INPUT_BIT a_OUTPUT_BIT a_OUTPUT_WORD a_INPUT_WORD a_MEMORY_WORD a_INPUT_BIT h0 n0 Z0 HW) hZ (hw _ (List.mem_of_getElem? (i := 14) rfl)) (hw _ (List.mem_of_getElem? (i := 2) rfl)) (by decide) (by decide)) qa4 qc4 (g := (mkF m 88 #[.val (.int ua), .val (.int ((ua &&& (2147483647 : Int32)) % (5 : Int32))), .val (.ref a_INPUT_BIT), .val (.int (1 : Int32)), .val (.int (1 : Int32))] [(.ref a_INPUT_BIT)])) rfl (by rw [hml]; rfl) (Steps.refl _) (argsL := []) (rest := []) (lenOf pd_0___Z rfl) rfl (by show 2 * 0 + _ ≤ _; exact Nat.le_of_eq rfl) (hb hby at_88) (fun _ _ => ⟨rfl, e3, (by decide : 0 + 0 ≤ _), (by decide : 0 + 0 ≤ _)⟩)
    dsimp only [Pt.U, Pt.locs, Pt.cells, Pt.slots] at X4 l4 y4 z4 st4 hQ4
    subst l4 y4 z4
    obtain ⟨rfl, N4, e4⟩ := hQ4
    refine own_by (B := T4.setTop (mkF m 91 #[.val (.int ua), .val (.int ((ua &&& (2147483647 : Int32)) % (5 : Int32))), .val (.ref a_INPUT_BIT), .val (.int (1 : Int32)), .val (.int (1 : Int32))] [(.int (own_f2 a_INPUT_BIT a_OUTPUT_BIT a_OUTPUT_WORD))])) (fun _ k => st4.trans k) ?_
    have M4 := Fr.app M3 N4
    rw [show (own_f2 a_INPUT_BIT a_OUTPUT_BIT a_OUTPUT_WORD) = (0 : Int32) from by unfold own_f2; rw [if_neg (Fld.ne F_INPUT_BIT_ordinal F_OUTPUT_BIT_ordinal (by decide)), if_neg (Fld.ne F_INPUT_BIT_ordinal F_OUTPUT_WORD_ordinal (by decide))]]
    refine own_by (B := T4.setTop (mkF m 94 #[.val (.int ua), .val (.int ((ua &&& (2147483647 : Int32)) % (5 : Int32))), .val (.ref a_INPUT_BIT), .val (.int (1 : Int32)), .val (.int (1 : Int32))] [])) (fun _ k => XS.ifNo X4.here hx rfl (hb hby at_91) rfl (XT.i0_ne_f (by decide)) k) ?_
    refine own_by (B := T4.setTop (mkF m 95 #[.val (.int ua), .val (.int ((ua &&& (2147483647 : Int32)) % (5 : Int32))), .val (.ref a_INPUT_BIT), .val (.int (1 : Int32)), .val (.int (1 : Int32))] [(.int (1 : Int32))])) (fun _ k => XS.iconst X4.here hx rfl (hb hby at_94) k) ?_
    refine own_by (B := T4.setTop (mkF m 99 #[.val (.int ua), .val (.int ((ua &&& (2147483647 : Int32)) % (5 : Int32))), .val (.ref a_INPUT_BIT), .val (.int (1 : Int32)), .val (.int (1 : Int32))] [(.int (1 : Int32))])) (fun _ k => XS.goto X4.here hx rfl (pc0 := 95) (pc' := 99) rfl (hb hby at_95) (by decide) (by decide) k) ?_
    exact own_retZ X4 hx hrt hlk rfl (hb hby at_99) (by decide) (by decide) ⟨rfl, M4⟩
  · refine own_by (B := s₁.setTop (mkF m 20 #[.val (.int ua), .val (.int ((ua &&& (2147483647 : Int32)) % (5 : Int32))), .unset, .unset, .unset] [])) (fun _ k => XS.ifYes X0.here hx rfl (pc0 := 8) (pc' := 20) rfl (hb hby at_8) rfl (XT.i0_ne_t hc1) (by decide) (by decide) k) ?_
    refine own_by (B := s₁.setTop (mkF m 21 #[.val (.int ua), .val (.int ((ua &&& (2147483647 : Int32)) % (5 : Int32))), .unset, .unset, .unset] [(.int ((ua &&& (2147483647 : Int32)) % (5 : Int32)))])) (fun _ k => XS.iloadN X0.here hx rfl (hb hby at_20) rfl  k) ?_
    refine own_by (B := s₁.setTop (mkF m 22 #[.val (.int ua), .val (.int ((ua &&& (2147483647 : Int32)) % (5 : Int32))), .unset, .unset, .unset] [(.int (1 : Int32)), (.int ((ua &&& (2147483647 : Int32)) % (5 : Int32)))])) (fun _ k => XS.iconst X0.here hx rfl (hb hby at_21) k) ?_
    by_cases hc5 : ((ua &&& (2147483647 : Int32)) % (5 : Int32)) = (1 : Int32)
    · refine own_by (B := s₁.setTop (mkF m 25 #[.val (.int ua), .val (.int ((ua &&& (2147483647 : Int32)) % (5 : Int32))), .unset, .unset, .unset] [])) (fun _ k => XS.icmpNo X0.here hx rfl (hb hby at_22) rfl (XT.ii_ne_f hc5) k) ?_
      obtain ⟨T6, X6, e6, st6⟩ := getS2 X0 hx hZ hown (host := "") (Or.inl (hw _ (List.mem_of_getElem? (i := 22) rfl))) Via.refl e0 S_OUTPUT_BIT (g := (mkF m 25 #[.val (.int ua), .val (.int ((ua &&& (2147483647 : Int32)) % (5 : Int32))), .unset, .unset, .unset] [])) rfl (hb hby at_25)
      refine own_by (B := T6.setTop (mkF m 28 #[.val (.int ua), .val (.int ((ua &&& (2147483647 : Int32)) % (5 : Int32))), .unset, .unset, .unset] [(.ref a_OUTPUT_BIT)])) st6 ?_
      refine own_by (B := T6.setTop (mkF m 29 #[.val (.int ua), .val (.int ((ua &&& (2147483647 : Int32)) % (5 : Int32))), .val (.ref a_OUTPUT_BIT), .unset, .unset] [])) (fun _ k => XS.astoreN X6.here hx rfl (hb hby at_28) rfl rfl (l' := #[.val (.int ua), .val (.int ((ua &&& (2147483647 : Int32)) % (5 : Int32))), .val (.ref a_OUTPUT_BIT), .unset, .unset]) rfl k) ?_
      refine own_by (B := T6.setTop (mkF m 30 #[.val (.int ua), .val (.int ((ua &&& (2147483647 : Int32)) % (5 : Int32))), .val (.ref a_OUTPUT_BIT), .unset, .unset] [(.int (0 : Int32))])) (fun _ k => XS.iconst X6.here hx rfl (hb hby at_29) k) ?_
      refine own_by (B := T6.setTop (mkF m 31 #[.val (.int ua), .val (.int ((ua &&& (2147483647 : Int32)) % (5 : Int32))), .val (.ref a_OUTPUT_BIT), .val (.int (0 : Int32)), .unset] [])) (fun _ k => XS.istoreN X6.here hx rfl (hb hby at_30) rfl (l' := #[.val (.int ua), .val (.int ((ua &&& (2147483647 : Int32)) % (5 : Int32))), .val (.ref a_OUTPUT_BIT), .val (.int (0 : Int32)), .unset]) rfl k) ?_
      refine own_by (B := T6.setTop (mkF m 68 #[.val (.int ua), .val (.int ((ua &&& (2147483647 : Int32)) % (5 : Int32))), .val (.ref a_OUTPUT_BIT), .val (.int (0 : Int32)), .unset] [])) (fun _ k => XS.goto X6.here hx rfl (pc0 := 31) (pc' := 68) rfl (hb hby at_31) (by decide) (by decide) k) ?_
      refine own_by (B := T6.setTop (mkF m 69 #[.val (.int ua), .val (.int ((ua &&& (2147483647 : Int32)) % (5 : Int32))), .val (.ref a_OUTPUT_BIT), .val (.int (0 : Int32)), .unset] [(.ref a_OUTPUT_BIT)])) (fun _ k => XS.aloadN X6.here hx rfl (hb hby at_68) rfl rfl  k) ?_
      obtain ⟨cq7, kq7, qa7, qb7, qc7⟩ := isOf hZ e6 E_OUTPUT_BIT
      obtain ⟨_, _, ⟨T7, L7, k7, n7⟩, -, X7, ⟨Lc7, hQ7, l7, y7, z7⟩, st7⟩ := X6.virtualBack hx (y := (⟨"com/example/hotrung/hotrung/image/Address$Area", "isInput", "()Z"⟩ : MethodName)) (z := (⟨"com/example/hotrung/hotrung/image/Address$Area", "isInput", "()Z"⟩ : MethodName)) hown (mvT hZ (hw _ (List.mem_of_getElem? (i := 4) rfl))) (mvT hZ (hw _ (List.mem_of_getElem? (i := 5) rfl))) (notFace_of_selects (args := #[]) (mvT hZ (hw _ (List.mem_of_getElem? (i := 7) rfl)))) (mvT hZ (hw _ (List.mem_of_getElem? (i := 7) rfl))) (mvT hZ (hw _ (List.mem_of_getElem? (i := 6) rfl))) (by decide) (backOf (W := 0) (rm1 l Z a0 hw [] a_INPUT_BIT a_OUTPUT_BIT a_OUTPUT_WORD a_INPUT_WORD a_MEMORY_WORD a_OUTPUT_BIT h0 n0 Z0 HW) hZ (hw _ (List.mem_of_getElem? (i := 8) rfl)) (hw _ (List.mem_of_getElem? (i := 2) rfl)) (by decide) (by decide)) qa7 qc7 (g := (mkF m 69 #[.val (.int ua), .val (.int ((ua &&& (2147483647 : Int32)) % (5 : Int32))), .val (.ref a_OUTPUT_BIT), .val (.int (0 : Int32)), .unset] [(.ref a_OUTPUT_BIT)])) rfl (by rw [hml]; rfl) (Steps.refl _) (argsL := []) (rest := []) (lenOf pd_0___Z rfl) rfl (by show 2 * 0 + _ ≤ _; exact Nat.le_of_eq rfl) (hb hby at_69) (fun _ _ => ⟨rfl, e6, (by decide : 0 + 0 ≤ _), (by decide : 0 + 0 ≤ _)⟩)
      dsimp only [Pt.U, Pt.locs, Pt.cells, Pt.slots] at X7 l7 y7 z7 st7 hQ7
      subst l7 y7 z7
      obtain ⟨rfl, N7, e7⟩ := hQ7
      refine own_by (B := T7.setTop (mkF m 72 #[.val (.int ua), .val (.int ((ua &&& (2147483647 : Int32)) % (5 : Int32))), .val (.ref a_OUTPUT_BIT), .val (.int (0 : Int32)), .unset] [(.int (own_f1 a_OUTPUT_BIT a_INPUT_BIT a_INPUT_WORD))])) (fun _ k => st7.trans k) ?_
      have M7 := Fr.app N0 N7
      rw [show (own_f1 a_OUTPUT_BIT a_INPUT_BIT a_INPUT_WORD) = (0 : Int32) from by unfold own_f1; rw [if_neg (Fld.ne F_OUTPUT_BIT_ordinal F_INPUT_BIT_ordinal (by decide)), if_neg (Fld.ne F_OUTPUT_BIT_ordinal F_INPUT_WORD_ordinal (by decide))]]
      refine own_by (B := T7.setTop (mkF m 74 #[.val (.int ua), .val (.int ((ua &&& (2147483647 : Int32)) % (5 : Int32))), .val (.ref a_OUTPUT_BIT), .val (.int (0 : Int32)), .val (.int (0 : Int32))] [])) (fun _ k => XS.istore X7.here hx rfl (hb hby at_72) rfl (l' := #[.val (.int ua), .val (.int ((ua &&& (2147483647 : Int32)) % (5 : Int32))), .val (.ref a_OUTPUT_BIT), .val (.int (0 : Int32)), .val (.int (0 : Int32))]) rfl k) ?_
      refine own_by (B := T7.setTop (mkF m 76 #[.val (.int ua), .val (.int ((ua &&& (2147483647 : Int32)) % (5 : Int32))), .val (.ref a_OUTPUT_BIT), .val (.int (0 : Int32)), .val (.int (0 : Int32))] [(.int (0 : Int32))])) (fun _ k => XS.iload X7.here hx rfl (hb hby at_74) rfl  k) ?_
      refine own_by (B := T7.setTop (mkF m 77 #[.val (.int ua), .val (.int ((ua &&& (2147483647 : Int32)) % (5 : Int32))), .val (.ref a_OUTPUT_BIT), .val (.int (0 : Int32)), .val (.int (0 : Int32))] [(.int (0 : Int32)), (.int (0 : Int32))])) (fun _ k => XS.iloadN X7.here hx rfl (hb hby at_76) rfl  k) ?_
      refine own_by (B := T7.setTop (mkF m 82 #[.val (.int ua), .val (.int ((ua &&& (2147483647 : Int32)) % (5 : Int32))), .val (.ref a_OUTPUT_BIT), .val (.int (0 : Int32)), .val (.int (0 : Int32))] [])) (fun _ k => XS.icmpYes X7.here hx rfl (pc0 := 77) (pc' := 82) rfl (hb hby at_77) rfl (XT.ii_eq_t (by decide)) (by decide) (by decide) k) ?_
      refine own_by (B := T7.setTop (mkF m 84 #[.val (.int ua), .val (.int ((ua &&& (2147483647 : Int32)) % (5 : Int32))), .val (.ref a_OUTPUT_BIT), .val (.int (0 : Int32)), .val (.int (0 : Int32))] [(.int (0 : Int32))])) (fun _ k => XS.iload X7.here hx rfl (hb hby at_82) rfl  k) ?_
      refine own_by (B := T7.setTop (mkF m 94 #[.val (.int ua), .val (.int ((ua &&& (2147483647 : Int32)) % (5 : Int32))), .val (.ref a_OUTPUT_BIT), .val (.int (0 : Int32)), .val (.int (0 : Int32))] [])) (fun _ k => XS.ifYes X7.here hx rfl (pc0 := 84) (pc' := 94) rfl (hb hby at_84) rfl (XT.i0_eq_t (by decide)) (by decide) (by decide) k) ?_
      refine own_by (B := T7.setTop (mkF m 95 #[.val (.int ua), .val (.int ((ua &&& (2147483647 : Int32)) % (5 : Int32))), .val (.ref a_OUTPUT_BIT), .val (.int (0 : Int32)), .val (.int (0 : Int32))] [(.int (1 : Int32))])) (fun _ k => XS.iconst X7.here hx rfl (hb hby at_94) k) ?_
      refine own_by (B := T7.setTop (mkF m 99 #[.val (.int ua), .val (.int ((ua &&& (2147483647 : Int32)) % (5 : Int32))), .val (.ref a_OUTPUT_BIT), .val (.int (0 : Int32)), .val (.int (0 : Int32))] [(.int (1 : Int32))])) (fun _ k => XS.goto X7.here hx rfl (pc0 := 95) (pc' := 99) rfl (hb hby at_95) (by decide) (by decide) k) ?_
      exact own_retZ X7 hx hrt hlk rfl (hb hby at_99) (by decide) (by decide) ⟨rfl, M7⟩
    · refine own_by (B := s₁.setTop (mkF m 34 #[.val (.int ua), .val (.int ((ua &&& (2147483647 : Int32)) % (5 : Int32))), .unset, .unset, .unset] [])) (fun _ k => XS.icmpYes X0.here hx rfl (pc0 := 22) (pc' := 34) rfl (hb hby at_22) rfl (XT.ii_ne_t hc5) (by decide) (by decide) k) ?_
      refine own_by (B := s₁.setTop (mkF m 35 #[.val (.int ua), .val (.int ((ua &&& (2147483647 : Int32)) % (5 : Int32))), .unset, .unset, .unset] [(.int ((ua &&& (2147483647 : Int32)) % (5 : Int32)))])) (fun _ k => XS.iloadN X0.here hx rfl (hb hby at_34) rfl  k) ?_
      refine own_by (B := s₁.setTop (mkF m 36 #[.val (.int ua), .val (.int ((ua &&& (2147483647 : Int32)) % (5 : Int32))), .unset, .unset, .unset] [(.int (2 : Int32)), (.int ((ua &&& (2147483647 : Int32)) % (5 : Int32)))])) (fun _ k => XS.iconst X0.here hx rfl (hb hby at_35) k) ?_
      by_cases hc8 : ((ua &&& (2147483647 : Int32)) % (5 : Int32)) = (2 : Int32)
      · refine own_by (B := s₁.setTop (mkF m 39 #[.val (.int ua), .val (.int ((ua &&& (2147483647 : Int32)) % (5 : Int32))), .unset, .unset, .unset] [])) (fun _ k => XS.icmpNo X0.here hx rfl (hb hby at_36) rfl (XT.ii_ne_f hc8) k) ?_
        obtain ⟨T9, X9, e9, st9⟩ := getS2 X0 hx hZ hown (host := "") (Or.inl (hw _ (List.mem_of_getElem? (i := 25) rfl))) Via.refl e0 S_INPUT_WORD (g := (mkF m 39 #[.val (.int ua), .val (.int ((ua &&& (2147483647 : Int32)) % (5 : Int32))), .unset, .unset, .unset] [])) rfl (hb hby at_39)
        refine own_by (B := T9.setTop (mkF m 42 #[.val (.int ua), .val (.int ((ua &&& (2147483647 : Int32)) % (5 : Int32))), .unset, .unset, .unset] [(.ref a_INPUT_WORD)])) st9 ?_
        refine own_by (B := T9.setTop (mkF m 43 #[.val (.int ua), .val (.int ((ua &&& (2147483647 : Int32)) % (5 : Int32))), .val (.ref a_INPUT_WORD), .unset, .unset] [])) (fun _ k => XS.astoreN X9.here hx rfl (hb hby at_42) rfl rfl (l' := #[.val (.int ua), .val (.int ((ua &&& (2147483647 : Int32)) % (5 : Int32))), .val (.ref a_INPUT_WORD), .unset, .unset]) rfl k) ?_
        refine own_by (B := T9.setTop (mkF m 44 #[.val (.int ua), .val (.int ((ua &&& (2147483647 : Int32)) % (5 : Int32))), .val (.ref a_INPUT_WORD), .unset, .unset] [(.int (1 : Int32))])) (fun _ k => XS.iconst X9.here hx rfl (hb hby at_43) k) ?_
        refine own_by (B := T9.setTop (mkF m 45 #[.val (.int ua), .val (.int ((ua &&& (2147483647 : Int32)) % (5 : Int32))), .val (.ref a_INPUT_WORD), .val (.int (1 : Int32)), .unset] [])) (fun _ k => XS.istoreN X9.here hx rfl (hb hby at_44) rfl (l' := #[.val (.int ua), .val (.int ((ua &&& (2147483647 : Int32)) % (5 : Int32))), .val (.ref a_INPUT_WORD), .val (.int (1 : Int32)), .unset]) rfl k) ?_
        refine own_by (B := T9.setTop (mkF m 68 #[.val (.int ua), .val (.int ((ua &&& (2147483647 : Int32)) % (5 : Int32))), .val (.ref a_INPUT_WORD), .val (.int (1 : Int32)), .unset] [])) (fun _ k => XS.goto X9.here hx rfl (pc0 := 45) (pc' := 68) rfl (hb hby at_45) (by decide) (by decide) k) ?_
        refine own_by (B := T9.setTop (mkF m 69 #[.val (.int ua), .val (.int ((ua &&& (2147483647 : Int32)) % (5 : Int32))), .val (.ref a_INPUT_WORD), .val (.int (1 : Int32)), .unset] [(.ref a_INPUT_WORD)])) (fun _ k => XS.aloadN X9.here hx rfl (hb hby at_68) rfl rfl  k) ?_
        obtain ⟨cq10, kq10, qa10, qb10, qc10⟩ := isOf hZ e9 E_INPUT_WORD
        obtain ⟨_, _, ⟨T10, L10, k10, n10⟩, -, X10, ⟨Lc10, hQ10, l10, y10, z10⟩, st10⟩ := X9.virtualBack hx (y := (⟨"com/example/hotrung/hotrung/image/Address$Area", "isInput", "()Z"⟩ : MethodName)) (z := (⟨"com/example/hotrung/hotrung/image/Address$Area", "isInput", "()Z"⟩ : MethodName)) hown (mvT hZ (hw _ (List.mem_of_getElem? (i := 4) rfl))) (mvT hZ (hw _ (List.mem_of_getElem? (i := 5) rfl))) (notFace_of_selects (args := #[]) (mvT hZ (hw _ (List.mem_of_getElem? (i := 7) rfl)))) (mvT hZ (hw _ (List.mem_of_getElem? (i := 7) rfl))) (mvT hZ (hw _ (List.mem_of_getElem? (i := 6) rfl))) (by decide) (backOf (W := 0) (rm1 l Z a0 hw [] a_INPUT_BIT a_OUTPUT_BIT a_OUTPUT_WORD a_INPUT_WORD a_MEMORY_WORD a_INPUT_WORD h0 n0 Z0 HW) hZ (hw _ (List.mem_of_getElem? (i := 8) rfl)) (hw _ (List.mem_of_getElem? (i := 2) rfl)) (by decide) (by decide)) qa10 qc10 (g := (mkF m 69 #[.val (.int ua), .val (.int ((ua &&& (2147483647 : Int32)) % (5 : Int32))), .val (.ref a_INPUT_WORD), .val (.int (1 : Int32)), .unset] [(.ref a_INPUT_WORD)])) rfl (by rw [hml]; rfl) (Steps.refl _) (argsL := []) (rest := []) (lenOf pd_0___Z rfl) rfl (by show 2 * 0 + _ ≤ _; exact Nat.le_of_eq rfl) (hb hby at_69) (fun _ _ => ⟨rfl, e9, (by decide : 0 + 0 ≤ _), (by decide : 0 + 0 ≤ _)⟩)
        dsimp only [Pt.U, Pt.locs, Pt.cells, Pt.slots] at X10 l10 y10 z10 st10 hQ10
        subst l10 y10 z10
        obtain ⟨rfl, N10, e10⟩ := hQ10
        refine own_by (B := T10.setTop (mkF m 72 #[.val (.int ua), .val (.int ((ua &&& (2147483647 : Int32)) % (5 : Int32))), .val (.ref a_INPUT_WORD), .val (.int (1 : Int32)), .unset] [(.int (own_f1 a_INPUT_WORD a_INPUT_BIT a_INPUT_WORD))])) (fun _ k => st10.trans k) ?_
        have M10 := Fr.app N0 N10
        rw [show (own_f1 a_INPUT_WORD a_INPUT_BIT a_INPUT_WORD) = (1 : Int32) from by unfold own_f1; rw [if_neg (Fld.ne F_INPUT_WORD_ordinal F_INPUT_BIT_ordinal (by decide)), if_pos rfl]]
        refine own_by (B := T10.setTop (mkF m 74 #[.val (.int ua), .val (.int ((ua &&& (2147483647 : Int32)) % (5 : Int32))), .val (.ref a_INPUT_WORD), .val (.int (1 : Int32)), .val (.int (1 : Int32))] [])) (fun _ k => XS.istore X10.here hx rfl (hb hby at_72) rfl (l' := #[.val (.int ua), .val (.int ((ua &&& (2147483647 : Int32)) % (5 : Int32))), .val (.ref a_INPUT_WORD), .val (.int (1 : Int32)), .val (.int (1 : Int32))]) rfl k) ?_
        refine own_by (B := T10.setTop (mkF m 76 #[.val (.int ua), .val (.int ((ua &&& (2147483647 : Int32)) % (5 : Int32))), .val (.ref a_INPUT_WORD), .val (.int (1 : Int32)), .val (.int (1 : Int32))] [(.int (1 : Int32))])) (fun _ k => XS.iload X10.here hx rfl (hb hby at_74) rfl  k) ?_
        refine own_by (B := T10.setTop (mkF m 77 #[.val (.int ua), .val (.int ((ua &&& (2147483647 : Int32)) % (5 : Int32))), .val (.ref a_INPUT_WORD), .val (.int (1 : Int32)), .val (.int (1 : Int32))] [(.int (1 : Int32)), (.int (1 : Int32))])) (fun _ k => XS.iloadN X10.here hx rfl (hb hby at_76) rfl  k) ?_
        refine own_by (B := T10.setTop (mkF m 82 #[.val (.int ua), .val (.int ((ua &&& (2147483647 : Int32)) % (5 : Int32))), .val (.ref a_INPUT_WORD), .val (.int (1 : Int32)), .val (.int (1 : Int32))] [])) (fun _ k => XS.icmpYes X10.here hx rfl (pc0 := 77) (pc' := 82) rfl (hb hby at_77) rfl (XT.ii_eq_t (by decide)) (by decide) (by decide) k) ?_
        refine own_by (B := T10.setTop (mkF m 84 #[.val (.int ua), .val (.int ((ua &&& (2147483647 : Int32)) % (5 : Int32))), .val (.ref a_INPUT_WORD), .val (.int (1 : Int32)), .val (.int (1 : Int32))] [(.int (1 : Int32))])) (fun _ k => XS.iload X10.here hx rfl (hb hby at_82) rfl  k) ?_
        refine own_by (B := T10.setTop (mkF m 87 #[.val (.int ua), .val (.int ((ua &&& (2147483647 : Int32)) % (5 : Int32))), .val (.ref a_INPUT_WORD), .val (.int (1 : Int32)), .val (.int (1 : Int32))] [])) (fun _ k => XS.ifNo X10.here hx rfl (hb hby at_84) rfl (XT.i0_eq_f (by decide)) k) ?_
        refine own_by (B := T10.setTop (mkF m 88 #[.val (.int ua), .val (.int ((ua &&& (2147483647 : Int32)) % (5 : Int32))), .val (.ref a_INPUT_WORD), .val (.int (1 : Int32)), .val (.int (1 : Int32))] [(.ref a_INPUT_WORD)])) (fun _ k => XS.aloadN X10.here hx rfl (hb hby at_87) rfl rfl  k) ?_
        obtain ⟨cq11, kq11, qa11, qb11, qc11⟩ := isOf hZ e10 E_INPUT_WORD
        obtain ⟨_, _, ⟨T11, L11, k11, n11⟩, -, X11, ⟨Lc11, hQ11, l11, y11, z11⟩, st11⟩ := X10.virtualBack hx (y := (⟨"com/example/hotrung/hotrung/image/Address$Area", "isOutput", "()Z"⟩ : MethodName)) (z := (⟨"com/example/hotrung/hotrung/image/Address$Area", "isOutput", "()Z"⟩ : MethodName)) hown (mvT hZ (hw _ (List.mem_of_getElem? (i := 10) rfl))) (mvT hZ (hw _ (List.mem_of_getElem? (i := 11) rfl))) (notFace_of_selects (args := #[]) (mvT hZ (hw _ (List.mem_of_getElem? (i := 13) rfl)))) (mvT hZ (hw _ (List.mem_of_getElem? (i := 13) rfl))) (mvT hZ (hw _ (List.mem_of_getElem? (i := 12) rfl))) (by decide) (backOf (W := 0) (rm2 l Z a0 hw [] a_INPUT_BIT a_OUTPUT_BIT a_OUTPUT_WORD a_INPUT_WORD a_MEMORY_WORD a_INPUT_WORD h0 n0 Z0 HW) hZ (hw _ (List.mem_of_getElem? (i := 14) rfl)) (hw _ (List.mem_of_getElem? (i := 2) rfl)) (by decide) (by decide)) qa11 qc11 (g := (mkF m 88 #[.val (.int ua), .val (.int ((ua &&& (2147483647 : Int32)) % (5 : Int32))), .val (.ref a_INPUT_WORD), .val (.int (1 : Int32)), .val (.int (1 : Int32))] [(.ref a_INPUT_WORD)])) rfl (by rw [hml]; rfl) (Steps.refl _) (argsL := []) (rest := []) (lenOf pd_0___Z rfl) rfl (by show 2 * 0 + _ ≤ _; exact Nat.le_of_eq rfl) (hb hby at_88) (fun _ _ => ⟨rfl, e10, (by decide : 0 + 0 ≤ _), (by decide : 0 + 0 ≤ _)⟩)
        dsimp only [Pt.U, Pt.locs, Pt.cells, Pt.slots] at X11 l11 y11 z11 st11 hQ11
        subst l11 y11 z11
        obtain ⟨rfl, N11, e11⟩ := hQ11
        refine own_by (B := T11.setTop (mkF m 91 #[.val (.int ua), .val (.int ((ua &&& (2147483647 : Int32)) % (5 : Int32))), .val (.ref a_INPUT_WORD), .val (.int (1 : Int32)), .val (.int (1 : Int32))] [(.int (own_f2 a_INPUT_WORD a_OUTPUT_BIT a_OUTPUT_WORD))])) (fun _ k => st11.trans k) ?_
        have M11 := Fr.app M10 N11
        rw [show (own_f2 a_INPUT_WORD a_OUTPUT_BIT a_OUTPUT_WORD) = (0 : Int32) from by unfold own_f2; rw [if_neg (Fld.ne F_INPUT_WORD_ordinal F_OUTPUT_BIT_ordinal (by decide)), if_neg (Fld.ne F_INPUT_WORD_ordinal F_OUTPUT_WORD_ordinal (by decide))]]
        refine own_by (B := T11.setTop (mkF m 94 #[.val (.int ua), .val (.int ((ua &&& (2147483647 : Int32)) % (5 : Int32))), .val (.ref a_INPUT_WORD), .val (.int (1 : Int32)), .val (.int (1 : Int32))] [])) (fun _ k => XS.ifNo X11.here hx rfl (hb hby at_91) rfl (XT.i0_ne_f (by decide)) k) ?_
        refine own_by (B := T11.setTop (mkF m 95 #[.val (.int ua), .val (.int ((ua &&& (2147483647 : Int32)) % (5 : Int32))), .val (.ref a_INPUT_WORD), .val (.int (1 : Int32)), .val (.int (1 : Int32))] [(.int (1 : Int32))])) (fun _ k => XS.iconst X11.here hx rfl (hb hby at_94) k) ?_
        refine own_by (B := T11.setTop (mkF m 99 #[.val (.int ua), .val (.int ((ua &&& (2147483647 : Int32)) % (5 : Int32))), .val (.ref a_INPUT_WORD), .val (.int (1 : Int32)), .val (.int (1 : Int32))] [(.int (1 : Int32))])) (fun _ k => XS.goto X11.here hx rfl (pc0 := 95) (pc' := 99) rfl (hb hby at_95) (by decide) (by decide) k) ?_
        exact own_retZ X11 hx hrt hlk rfl (hb hby at_99) (by decide) (by decide) ⟨rfl, M11⟩
      · refine own_by (B := s₁.setTop (mkF m 48 #[.val (.int ua), .val (.int ((ua &&& (2147483647 : Int32)) % (5 : Int32))), .unset, .unset, .unset] [])) (fun _ k => XS.icmpYes X0.here hx rfl (pc0 := 36) (pc' := 48) rfl (hb hby at_36) rfl (XT.ii_ne_t hc8) (by decide) (by decide) k) ?_
        refine own_by (B := s₁.setTop (mkF m 49 #[.val (.int ua), .val (.int ((ua &&& (2147483647 : Int32)) % (5 : Int32))), .unset, .unset, .unset] [(.int ((ua &&& (2147483647 : Int32)) % (5 : Int32)))])) (fun _ k => XS.iloadN X0.here hx rfl (hb hby at_48) rfl  k) ?_
        refine own_by (B := s₁.setTop (mkF m 50 #[.val (.int ua), .val (.int ((ua &&& (2147483647 : Int32)) % (5 : Int32))), .unset, .unset, .unset] [(.int (3 : Int32)), (.int ((ua &&& (2147483647 : Int32)) % (5 : Int32)))])) (fun _ k => XS.iconst X0.here hx rfl (hb hby at_49) k) ?_
        by_cases hc12 : ((ua &&& (2147483647 : Int32)) % (5 : Int32)) = (3 : Int32)
        · refine own_by (B := s₁.setTop (mkF m 53 #[.val (.int ua), .val (.int ((ua &&& (2147483647 : Int32)) % (5 : Int32))), .unset, .unset, .unset] [])) (fun _ k => XS.icmpNo X0.here hx rfl (hb hby at_50) rfl (XT.ii_ne_f hc12) k) ?_
          obtain ⟨T13, X13, e13, st13⟩ := getS2 X0 hx hZ hown (host := "") (Or.inl (hw _ (List.mem_of_getElem? (i := 19) rfl))) Via.refl e0 S_OUTPUT_WORD (g := (mkF m 53 #[.val (.int ua), .val (.int ((ua &&& (2147483647 : Int32)) % (5 : Int32))), .unset, .unset, .unset] [])) rfl (hb hby at_53)
          refine own_by (B := T13.setTop (mkF m 56 #[.val (.int ua), .val (.int ((ua &&& (2147483647 : Int32)) % (5 : Int32))), .unset, .unset, .unset] [(.ref a_OUTPUT_WORD)])) st13 ?_
          refine own_by (B := T13.setTop (mkF m 57 #[.val (.int ua), .val (.int ((ua &&& (2147483647 : Int32)) % (5 : Int32))), .val (.ref a_OUTPUT_WORD), .unset, .unset] [])) (fun _ k => XS.astoreN X13.here hx rfl (hb hby at_56) rfl rfl (l' := #[.val (.int ua), .val (.int ((ua &&& (2147483647 : Int32)) % (5 : Int32))), .val (.ref a_OUTPUT_WORD), .unset, .unset]) rfl k) ?_
          refine own_by (B := T13.setTop (mkF m 58 #[.val (.int ua), .val (.int ((ua &&& (2147483647 : Int32)) % (5 : Int32))), .val (.ref a_OUTPUT_WORD), .unset, .unset] [(.int (0 : Int32))])) (fun _ k => XS.iconst X13.here hx rfl (hb hby at_57) k) ?_
          refine own_by (B := T13.setTop (mkF m 59 #[.val (.int ua), .val (.int ((ua &&& (2147483647 : Int32)) % (5 : Int32))), .val (.ref a_OUTPUT_WORD), .val (.int (0 : Int32)), .unset] [])) (fun _ k => XS.istoreN X13.here hx rfl (hb hby at_58) rfl (l' := #[.val (.int ua), .val (.int ((ua &&& (2147483647 : Int32)) % (5 : Int32))), .val (.ref a_OUTPUT_WORD), .val (.int (0 : Int32)), .unset]) rfl k) ?_
          refine own_by (B := T13.setTop (mkF m 68 #[.val (.int ua), .val (.int ((ua &&& (2147483647 : Int32)) % (5 : Int32))), .val (.ref a_OUTPUT_WORD), .val (.int (0 : Int32)), .unset] [])) (fun _ k => XS.goto X13.here hx rfl (pc0 := 59) (pc' := 68) rfl (hb hby at_59) (by decide) (by decide) k) ?_
          refine own_by (B := T13.setTop (mkF m 69 #[.val (.int ua), .val (.int ((ua &&& (2147483647 : Int32)) % (5 : Int32))), .val (.ref a_OUTPUT_WORD), .val (.int (0 : Int32)), .unset] [(.ref a_OUTPUT_WORD)])) (fun _ k => XS.aloadN X13.here hx rfl (hb hby at_68) rfl rfl  k) ?_
          obtain ⟨cq14, kq14, qa14, qb14, qc14⟩ := isOf hZ e13 E_OUTPUT_WORD
          obtain ⟨_, _, ⟨T14, L14, k14, n14⟩, -, X14, ⟨Lc14, hQ14, l14, y14, z14⟩, st14⟩ := X13.virtualBack hx (y := (⟨"com/example/hotrung/hotrung/image/Address$Area", "isInput", "()Z"⟩ : MethodName)) (z := (⟨"com/example/hotrung/hotrung/image/Address$Area", "isInput", "()Z"⟩ : MethodName)) hown (mvT hZ (hw _ (List.mem_of_getElem? (i := 4) rfl))) (mvT hZ (hw _ (List.mem_of_getElem? (i := 5) rfl))) (notFace_of_selects (args := #[]) (mvT hZ (hw _ (List.mem_of_getElem? (i := 7) rfl)))) (mvT hZ (hw _ (List.mem_of_getElem? (i := 7) rfl))) (mvT hZ (hw _ (List.mem_of_getElem? (i := 6) rfl))) (by decide) (backOf (W := 0) (rm1 l Z a0 hw [] a_INPUT_BIT a_OUTPUT_BIT a_OUTPUT_WORD a_INPUT_WORD a_MEMORY_WORD a_OUTPUT_WORD h0 n0 Z0 HW) hZ (hw _ (List.mem_of_getElem? (i := 8) rfl)) (hw _ (List.mem_of_getElem? (i := 2) rfl)) (by decide) (by decide)) qa14 qc14 (g := (mkF m 69 #[.val (.int ua), .val (.int ((ua &&& (2147483647 : Int32)) % (5 : Int32))), .val (.ref a_OUTPUT_WORD), .val (.int (0 : Int32)), .unset] [(.ref a_OUTPUT_WORD)])) rfl (by rw [hml]; rfl) (Steps.refl _) (argsL := []) (rest := []) (lenOf pd_0___Z rfl) rfl (by show 2 * 0 + _ ≤ _; exact Nat.le_of_eq rfl) (hb hby at_69) (fun _ _ => ⟨rfl, e13, (by decide : 0 + 0 ≤ _), (by decide : 0 + 0 ≤ _)⟩)
          dsimp only [Pt.U, Pt.locs, Pt.cells, Pt.slots] at X14 l14 y14 z14 st14 hQ14
          subst l14 y14 z14
          obtain ⟨rfl, N14, e14⟩ := hQ14
          refine own_by (B := T14.setTop (mkF m 72 #[.val (.int ua), .val (.int ((ua &&& (2147483647 : Int32)) % (5 : Int32))), .val (.ref a_OUTPUT_WORD), .val (.int (0 : Int32)), .unset] [(.int (own_f1 a_OUTPUT_WORD a_INPUT_BIT a_INPUT_WORD))])) (fun _ k => st14.trans k) ?_
          have M14 := Fr.app N0 N14
          rw [show (own_f1 a_OUTPUT_WORD a_INPUT_BIT a_INPUT_WORD) = (0 : Int32) from by unfold own_f1; rw [if_neg (Fld.ne F_OUTPUT_WORD_ordinal F_INPUT_BIT_ordinal (by decide)), if_neg (Fld.ne F_OUTPUT_WORD_ordinal F_INPUT_WORD_ordinal (by decide))]]
          refine own_by (B := T14.setTop (mkF m 74 #[.val (.int ua), .val (.int ((ua &&& (2147483647 : Int32)) % (5 : Int32))), .val (.ref a_OUTPUT_WORD), .val (.int (0 : Int32)), .val (.int (0 : Int32))] [])) (fun _ k => XS.istore X14.here hx rfl (hb hby at_72) rfl (l' := #[.val (.int ua), .val (.int ((ua &&& (2147483647 : Int32)) % (5 : Int32))), .val (.ref a_OUTPUT_WORD), .val (.int (0 : Int32)), .val (.int (0 : Int32))]) rfl k) ?_
          refine own_by (B := T14.setTop (mkF m 76 #[.val (.int ua), .val (.int ((ua &&& (2147483647 : Int32)) % (5 : Int32))), .val (.ref a_OUTPUT_WORD), .val (.int (0 : Int32)), .val (.int (0 : Int32))] [(.int (0 : Int32))])) (fun _ k => XS.iload X14.here hx rfl (hb hby at_74) rfl  k) ?_
          refine own_by (B := T14.setTop (mkF m 77 #[.val (.int ua), .val (.int ((ua &&& (2147483647 : Int32)) % (5 : Int32))), .val (.ref a_OUTPUT_WORD), .val (.int (0 : Int32)), .val (.int (0 : Int32))] [(.int (0 : Int32)), (.int (0 : Int32))])) (fun _ k => XS.iloadN X14.here hx rfl (hb hby at_76) rfl  k) ?_
          refine own_by (B := T14.setTop (mkF m 82 #[.val (.int ua), .val (.int ((ua &&& (2147483647 : Int32)) % (5 : Int32))), .val (.ref a_OUTPUT_WORD), .val (.int (0 : Int32)), .val (.int (0 : Int32))] [])) (fun _ k => XS.icmpYes X14.here hx rfl (pc0 := 77) (pc' := 82) rfl (hb hby at_77) rfl (XT.ii_eq_t (by decide)) (by decide) (by decide) k) ?_
          refine own_by (B := T14.setTop (mkF m 84 #[.val (.int ua), .val (.int ((ua &&& (2147483647 : Int32)) % (5 : Int32))), .val (.ref a_OUTPUT_WORD), .val (.int (0 : Int32)), .val (.int (0 : Int32))] [(.int (0 : Int32))])) (fun _ k => XS.iload X14.here hx rfl (hb hby at_82) rfl  k) ?_
          refine own_by (B := T14.setTop (mkF m 94 #[.val (.int ua), .val (.int ((ua &&& (2147483647 : Int32)) % (5 : Int32))), .val (.ref a_OUTPUT_WORD), .val (.int (0 : Int32)), .val (.int (0 : Int32))] [])) (fun _ k => XS.ifYes X14.here hx rfl (pc0 := 84) (pc' := 94) rfl (hb hby at_84) rfl (XT.i0_eq_t (by decide)) (by decide) (by decide) k) ?_
          refine own_by (B := T14.setTop (mkF m 95 #[.val (.int ua), .val (.int ((ua &&& (2147483647 : Int32)) % (5 : Int32))), .val (.ref a_OUTPUT_WORD), .val (.int (0 : Int32)), .val (.int (0 : Int32))] [(.int (1 : Int32))])) (fun _ k => XS.iconst X14.here hx rfl (hb hby at_94) k) ?_
          refine own_by (B := T14.setTop (mkF m 99 #[.val (.int ua), .val (.int ((ua &&& (2147483647 : Int32)) % (5 : Int32))), .val (.ref a_OUTPUT_WORD), .val (.int (0 : Int32)), .val (.int (0 : Int32))] [(.int (1 : Int32))])) (fun _ k => XS.goto X14.here hx rfl (pc0 := 95) (pc' := 99) rfl (hb hby at_95) (by decide) (by decide) k) ?_
          exact own_retZ X14 hx hrt hlk rfl (hb hby at_99) (by decide) (by decide) ⟨rfl, M14⟩
        · refine own_by (B := s₁.setTop (mkF m 62 #[.val (.int ua), .val (.int ((ua &&& (2147483647 : Int32)) % (5 : Int32))), .unset, .unset, .unset] [])) (fun _ k => XS.icmpYes X0.here hx rfl (pc0 := 50) (pc' := 62) rfl (hb hby at_50) rfl (XT.ii_ne_t hc12) (by decide) (by decide) k) ?_
          obtain ⟨T15, X15, e15, st15⟩ := getS2 X0 hx hZ hown (host := "") (Or.inl (hw _ (List.mem_of_getElem? (i := 23) rfl))) Via.refl e0 S_MEMORY_WORD (g := (mkF m 62 #[.val (.int ua), .val (.int ((ua &&& (2147483647 : Int32)) % (5 : Int32))), .unset, .unset, .unset] [])) rfl (hb hby at_62)
          refine own_by (B := T15.setTop (mkF m 65 #[.val (.int ua), .val (.int ((ua &&& (2147483647 : Int32)) % (5 : Int32))), .unset, .unset, .unset] [(.ref a_MEMORY_WORD)])) st15 ?_
          refine own_by (B := T15.setTop (mkF m 66 #[.val (.int ua), .val (.int ((ua &&& (2147483647 : Int32)) % (5 : Int32))), .val (.ref a_MEMORY_WORD), .unset, .unset] [])) (fun _ k => XS.astoreN X15.here hx rfl (hb hby at_65) rfl rfl (l' := #[.val (.int ua), .val (.int ((ua &&& (2147483647 : Int32)) % (5 : Int32))), .val (.ref a_MEMORY_WORD), .unset, .unset]) rfl k) ?_
          refine own_by (B := T15.setTop (mkF m 67 #[.val (.int ua), .val (.int ((ua &&& (2147483647 : Int32)) % (5 : Int32))), .val (.ref a_MEMORY_WORD), .unset, .unset] [(.int (0 : Int32))])) (fun _ k => XS.iconst X15.here hx rfl (hb hby at_66) k) ?_
          refine own_by (B := T15.setTop (mkF m 68 #[.val (.int ua), .val (.int ((ua &&& (2147483647 : Int32)) % (5 : Int32))), .val (.ref a_MEMORY_WORD), .val (.int (0 : Int32)), .unset] [])) (fun _ k => XS.istoreN X15.here hx rfl (hb hby at_67) rfl (l' := #[.val (.int ua), .val (.int ((ua &&& (2147483647 : Int32)) % (5 : Int32))), .val (.ref a_MEMORY_WORD), .val (.int (0 : Int32)), .unset]) rfl k) ?_
          refine own_by (B := T15.setTop (mkF m 69 #[.val (.int ua), .val (.int ((ua &&& (2147483647 : Int32)) % (5 : Int32))), .val (.ref a_MEMORY_WORD), .val (.int (0 : Int32)), .unset] [(.ref a_MEMORY_WORD)])) (fun _ k => XS.aloadN X15.here hx rfl (hb hby at_68) rfl rfl  k) ?_
          obtain ⟨cq16, kq16, qa16, qb16, qc16⟩ := isOf hZ e15 E_MEMORY_WORD
          obtain ⟨_, _, ⟨T16, L16, k16, n16⟩, -, X16, ⟨Lc16, hQ16, l16, y16, z16⟩, st16⟩ := X15.virtualBack hx (y := (⟨"com/example/hotrung/hotrung/image/Address$Area", "isInput", "()Z"⟩ : MethodName)) (z := (⟨"com/example/hotrung/hotrung/image/Address$Area", "isInput", "()Z"⟩ : MethodName)) hown (mvT hZ (hw _ (List.mem_of_getElem? (i := 4) rfl))) (mvT hZ (hw _ (List.mem_of_getElem? (i := 5) rfl))) (notFace_of_selects (args := #[]) (mvT hZ (hw _ (List.mem_of_getElem? (i := 7) rfl)))) (mvT hZ (hw _ (List.mem_of_getElem? (i := 7) rfl))) (mvT hZ (hw _ (List.mem_of_getElem? (i := 6) rfl))) (by decide) (backOf (W := 0) (rm1 l Z a0 hw [] a_INPUT_BIT a_OUTPUT_BIT a_OUTPUT_WORD a_INPUT_WORD a_MEMORY_WORD a_MEMORY_WORD h0 n0 Z0 HW) hZ (hw _ (List.mem_of_getElem? (i := 8) rfl)) (hw _ (List.mem_of_getElem? (i := 2) rfl)) (by decide) (by decide)) qa16 qc16 (g := (mkF m 69 #[.val (.int ua), .val (.int ((ua &&& (2147483647 : Int32)) % (5 : Int32))), .val (.ref a_MEMORY_WORD), .val (.int (0 : Int32)), .unset] [(.ref a_MEMORY_WORD)])) rfl (by rw [hml]; rfl) (Steps.refl _) (argsL := []) (rest := []) (lenOf pd_0___Z rfl) rfl (by show 2 * 0 + _ ≤ _; exact Nat.le_of_eq rfl) (hb hby at_69) (fun _ _ => ⟨rfl, e15, (by decide : 0 + 0 ≤ _), (by decide : 0 + 0 ≤ _)⟩)
          dsimp only [Pt.U, Pt.locs, Pt.cells, Pt.slots] at X16 l16 y16 z16 st16 hQ16
          subst l16 y16 z16
          obtain ⟨rfl, N16, e16⟩ := hQ16
          refine own_by (B := T16.setTop (mkF m 72 #[.val (.int ua), .val (.int ((ua &&& (2147483647 : Int32)) % (5 : Int32))), .val (.ref a_MEMORY_WORD), .val (.int (0 : Int32)), .unset] [(.int (own_f1 a_MEMORY_WORD a_INPUT_BIT a_INPUT_WORD))])) (fun _ k => st16.trans k) ?_
          have M16 := Fr.app N0 N16
          rw [show (own_f1 a_MEMORY_WORD a_INPUT_BIT a_INPUT_WORD) = (0 : Int32) from by unfold own_f1; rw [if_neg (Fld.ne F_MEMORY_WORD_ordinal F_INPUT_BIT_ordinal (by decide)), if_neg (Fld.ne F_MEMORY_WORD_ordinal F_INPUT_WORD_ordinal (by decide))]]
          refine own_by (B := T16.setTop (mkF m 74 #[.val (.int ua), .val (.int ((ua &&& (2147483647 : Int32)) % (5 : Int32))), .val (.ref a_MEMORY_WORD), .val (.int (0 : Int32)), .val (.int (0 : Int32))] [])) (fun _ k => XS.istore X16.here hx rfl (hb hby at_72) rfl (l' := #[.val (.int ua), .val (.int ((ua &&& (2147483647 : Int32)) % (5 : Int32))), .val (.ref a_MEMORY_WORD), .val (.int (0 : Int32)), .val (.int (0 : Int32))]) rfl k) ?_
          refine own_by (B := T16.setTop (mkF m 76 #[.val (.int ua), .val (.int ((ua &&& (2147483647 : Int32)) % (5 : Int32))), .val (.ref a_MEMORY_WORD), .val (.int (0 : Int32)), .val (.int (0 : Int32))] [(.int (0 : Int32))])) (fun _ k => XS.iload X16.here hx rfl (hb hby at_74) rfl  k) ?_
          refine own_by (B := T16.setTop (mkF m 77 #[.val (.int ua), .val (.int ((ua &&& (2147483647 : Int32)) % (5 : Int32))), .val (.ref a_MEMORY_WORD), .val (.int (0 : Int32)), .val (.int (0 : Int32))] [(.int (0 : Int32)), (.int (0 : Int32))])) (fun _ k => XS.iloadN X16.here hx rfl (hb hby at_76) rfl  k) ?_
          refine own_by (B := T16.setTop (mkF m 82 #[.val (.int ua), .val (.int ((ua &&& (2147483647 : Int32)) % (5 : Int32))), .val (.ref a_MEMORY_WORD), .val (.int (0 : Int32)), .val (.int (0 : Int32))] [])) (fun _ k => XS.icmpYes X16.here hx rfl (pc0 := 77) (pc' := 82) rfl (hb hby at_77) rfl (XT.ii_eq_t (by decide)) (by decide) (by decide) k) ?_
          refine own_by (B := T16.setTop (mkF m 84 #[.val (.int ua), .val (.int ((ua &&& (2147483647 : Int32)) % (5 : Int32))), .val (.ref a_MEMORY_WORD), .val (.int (0 : Int32)), .val (.int (0 : Int32))] [(.int (0 : Int32))])) (fun _ k => XS.iload X16.here hx rfl (hb hby at_82) rfl  k) ?_
          refine own_by (B := T16.setTop (mkF m 94 #[.val (.int ua), .val (.int ((ua &&& (2147483647 : Int32)) % (5 : Int32))), .val (.ref a_MEMORY_WORD), .val (.int (0 : Int32)), .val (.int (0 : Int32))] [])) (fun _ k => XS.ifYes X16.here hx rfl (pc0 := 84) (pc' := 94) rfl (hb hby at_84) rfl (XT.i0_eq_t (by decide)) (by decide) (by decide) k) ?_
          refine own_by (B := T16.setTop (mkF m 95 #[.val (.int ua), .val (.int ((ua &&& (2147483647 : Int32)) % (5 : Int32))), .val (.ref a_MEMORY_WORD), .val (.int (0 : Int32)), .val (.int (0 : Int32))] [(.int (1 : Int32))])) (fun _ k => XS.iconst X16.here hx rfl (hb hby at_94) k) ?_
          refine own_by (B := T16.setTop (mkF m 99 #[.val (.int ua), .val (.int ((ua &&& (2147483647 : Int32)) % (5 : Int32))), .val (.ref a_MEMORY_WORD), .val (.int (0 : Int32)), .val (.int (0 : Int32))] [(.int (1 : Int32))])) (fun _ k => XS.goto X16.here hx rfl (pc0 := 95) (pc' := 99) rfl (hb hby at_95) (by decide) (by decide) k) ?_
          exact own_retZ X16 hx hrt hlk rfl (hb hby at_99) (by decide) (by decide) ⟨rfl, M16⟩

set_option maxRecDepth 65536 in
set_option maxHeartbeats 40000000 in
theorem comes_1 {Post : Tables → Env → Array Value → State → Outcome → State → Prop} (hpost : ∀ tb e args s v u, (limb_1_1.after args s (.returned v) u = true ∧ limb_1_2.after args s (.returned v) u = true ∧ True) → FrameEnd s (.returned v) u (Jvm.fieldLocs frame_1_writes args s ++ Jvm.arrayLocs frame_1_arrays args s ++ Jvm.staticLocs frame_1_statics s) 0 0 → Post tb e args s (.returned v) u) :
    ArmFor flags0 classFile x code maxLocals ret World_1 tables_1 room_1 Calls_1 rest_1 Pre_1 Post := by
  intro l hfl _ _ p e ha hc hk s m args below hf hA hF happ hP
  obtain ⟨hcalls, hrest, hpre⟩ := hP
  obtain ⟨-, -, -, hnamed, -, -, -, hat⟩ := (Spec.applies_iff hf).mp happ
  obtain ⟨hg, hn⟩ := and_e (Cond.before_iff.mp (show (Jvm.Cond.and given_1 narrow_1).before args s = true from hpre))
  obtain ⟨hg1a, hg1b⟩ := and_e hg
  obtain ⟨w0, rfl⟩ : ∃ w0 : Value, args = #[w0] := by
    have hs : args.size = 1 := by simpa [Cond.value, given_1] using hg1a
    obtain ⟨L⟩ := args
    match L, hs with
    | [w0], _ => exact ⟨w0, rfl⟩
  have hw := fun d (hd : d ∈ tables_1) => atoms_spec (ws := Jvm.Cond.code x code maxLocals ret :: tables_1) hat d (List.mem_cons_of_mem _ hd)
  have hfit : Fit s := fun {y c} hc i hi => by
    obtain ⟨ha, rfl⟩ := Array.getElem?_eq_some_iff.mp hc
    have q := List.all_eq_true.mp ((Array.all_eq_true_iff_forall_mem.mp hF) _ (Array.getElem_mem ha)) i (List.mem_range.mpr hi)
    simpa [Array.getElem?_eq_getElem hi] using q
  obtain ⟨i0, ei0⟩ := is_v hg1b
  obtain rfl : w0 = (.int i0) := Option.some.inj ei0
  obtain ⟨hn1a, hn1b⟩ := and_e hn
  obtain ⟨hn2a, hn2b⟩ := and_e hn1b
  obtain ⟨hn3a, hn3b⟩ := and_e hn2b
  obtain ⟨hn4a, hn4b⟩ := and_e hn3b
  obtain ⟨hn5a, hn5b⟩ := and_e hn4b
  obtain ⟨hn6a, hn6b⟩ := and_e hn5b
  obtain ⟨hn7a, hn7b⟩ := and_e hn6b
  obtain ⟨hn8a, hn8b⟩ := and_e hn7b
  obtain ⟨hn9a, hn9b⟩ := and_e hn8b
  obtain ⟨a_INPUT_BIT, ev_INPUT_BIT⟩ := exa_v hn1a
  have E_INPUT_BIT : Exa s s.heap a_INPUT_BIT "com/example/hotrung/hotrung/image/Address$Area" := Exa.start ev_INPUT_BIT hn1a
  have S_INPUT_BIT : Sta s s.heap "com/example/hotrung/hotrung/image/Address$Area" "INPUT_BIT" "Lcom/example/hotrung/hotrung/image/Address$Area;" (.ref a_INPUT_BIT) := Sta.start ev_INPUT_BIT (Or.inr ⟨(hw _ (List.mem_of_getElem? (i := 2) rfl)), (hw _ (List.mem_of_getElem? (i := 3) rfl))⟩)
  obtain ⟨a_OUTPUT_BIT, ev_OUTPUT_BIT⟩ := exa_v hn2a
  have E_OUTPUT_BIT : Exa s s.heap a_OUTPUT_BIT "com/example/hotrung/hotrung/image/Address$Area" := Exa.start ev_OUTPUT_BIT hn2a
  have S_OUTPUT_BIT : Sta s s.heap "com/example/hotrung/hotrung/image/Address$Area" "OUTPUT_BIT" "Lcom/example/hotrung/hotrung/image/Address$Area;" (.ref a_OUTPUT_BIT) := Sta.start ev_OUTPUT_BIT (Or.inr ⟨(hw _ (List.mem_of_getElem? (i := 2) rfl)), (hw _ (List.mem_of_getElem? (i := 16) rfl))⟩)
  obtain ⟨a_OUTPUT_WORD, ev_OUTPUT_WORD⟩ := exa_v hn5a
  have E_OUTPUT_WORD : Exa s s.heap a_OUTPUT_WORD "com/example/hotrung/hotrung/image/Address$Area" := Exa.start ev_OUTPUT_WORD hn5a
  have S_OUTPUT_WORD : Sta s s.heap "com/example/hotrung/hotrung/image/Address$Area" "OUTPUT_WORD" "Lcom/example/hotrung/hotrung/image/Address$Area;" (.ref a_OUTPUT_WORD) := Sta.start ev_OUTPUT_WORD (Or.inr ⟨(hw _ (List.mem_of_getElem? (i := 2) rfl)), (hw _ (List.mem_of_getElem? (i := 18) rfl))⟩)
  obtain ⟨a_INPUT_WORD, ev_INPUT_WORD⟩ := exa_v hn7a
  have E_INPUT_WORD : Exa s s.heap a_INPUT_WORD "com/example/hotrung/hotrung/image/Address$Area" := Exa.start ev_INPUT_WORD hn7a
  have S_INPUT_WORD : Sta s s.heap "com/example/hotrung/hotrung/image/Address$Area" "INPUT_WORD" "Lcom/example/hotrung/hotrung/image/Address$Area;" (.ref a_INPUT_WORD) := Sta.start ev_INPUT_WORD (Or.inr ⟨(hw _ (List.mem_of_getElem? (i := 2) rfl)), (hw _ (List.mem_of_getElem? (i := 21) rfl))⟩)
  obtain ⟨a_MEMORY_WORD, ev_MEMORY_WORD⟩ := exa_v hn9a
  have E_MEMORY_WORD : Exa s s.heap a_MEMORY_WORD "com/example/hotrung/hotrung/image/Address$Area" := Exa.start ev_MEMORY_WORD hn9a
  have S_MEMORY_WORD : Sta s s.heap "com/example/hotrung/hotrung/image/Address$Area" "MEMORY_WORD" "Lcom/example/hotrung/hotrung/image/Address$Area;" (.ref a_MEMORY_WORD) := Sta.start ev_MEMORY_WORD (Or.inr ⟨(hw _ (List.mem_of_getElem? (i := 2) rfl)), (hw _ (List.mem_of_getElem? (i := 24) rfl))⟩)
  have F_INPUT_BIT_ordinal : Fld s s.heap a_INPUT_BIT "java/lang/Enum" "ordinal" "I" (.int (0 : Int32)) := Fld.start ((fld_at ev_INPUT_BIT).symm.trans (eqv_i (Term.int_eval _) hn3a))
  have F_OUTPUT_BIT_ordinal : Fld s s.heap a_OUTPUT_BIT "java/lang/Enum" "ordinal" "I" (.int (1 : Int32)) := Fld.start ((fld_at ev_OUTPUT_BIT).symm.trans (eqv_i (Term.int_eval _) hn4a))
  have F_OUTPUT_WORD_ordinal : Fld s s.heap a_OUTPUT_WORD "java/lang/Enum" "ordinal" "I" (.int (3 : Int32)) := Fld.start ((fld_at ev_OUTPUT_WORD).symm.trans (eqv_i (Term.int_eval _) hn6a))
  have F_INPUT_WORD_ordinal : Fld s s.heap a_INPUT_WORD "java/lang/Enum" "ordinal" "I" (.int (2 : Int32)) := Fld.start ((fld_at ev_INPUT_WORD).symm.trans (eqv_i (Term.int_eval _) hn8a))
  have F_MEMORY_WORD_ordinal : Fld s s.heap a_MEMORY_WORD "java/lang/Enum" "ordinal" "I" (.int (4 : Int32)) := Fld.start ((fld_at ev_MEMORY_WORD).symm.trans (eqv_i (Term.int_eval _) hn9b))
  obtain ⟨n, o, h1, h2, h3, _, L, rfl, ⟨rfl, N⟩, hq⟩ := rm0 l s _ hw tables_1 a_INPUT_BIT a_OUTPUT_BIT a_OUTPUT_WORD a_INPUT_WORD a_MEMORY_WORD i0 s.heap s.heap.size (Nat.le_refl _) ⟨S_INPUT_BIT, E_INPUT_BIT, S_OUTPUT_BIT, E_OUTPUT_BIT, S_OUTPUT_WORD, E_OUTPUT_WORD, S_INPUT_WORD, E_INPUT_WORD, S_MEMORY_WORD, E_MEMORY_WORD, F_INPUT_BIT_ordinal, F_OUTPUT_BIT_ordinal, F_OUTPUT_WORD_ordinal, F_INPUT_WORD_ordinal, F_MEMORY_WORD_ordinal⟩ p e ha hc hk s m _ below hf ((Spec.applies_iff_loose hf).mp happ).1 ⟨rfl, State.Warmed39.refl s, rfl⟩ trivial
  refine ⟨n, _, h1, h2, h3, hpost _ _ _ _ _ _ ⟨Cond.after_iff.mpr rfl, Cond.after_iff.mpr (eq_i res_at (Term.int_eval (1)) rfl), trivial⟩ ⟨hq.1, hq.2.1, (hq.2.2.sift fun y hy => Or.inr (N y hy)).mono (by decide) (by decide)⟩⟩
theorem main_1_1 : Claimed_1_1 := comes_1 fun _ _ _ _ _ _ h hF => ⟨h.1, hF⟩
theorem main_1_2 : Claimed_1_2 := comes_1 fun _ _ _ _ _ _ h hF => ⟨h.2.1, hF⟩
end Jvm.Pilot.@@N@@
namespace Jvm.Pilot.@@N@@
open Jvm Jvm.ClassFile Sem Op Lib Jvm.Free Jvm.Stand Jvm.Pilot.@@N@@.Jvm.D
/-! MADE BY PROGRAM (witnessworld.py) out of the Statement's table words and the real class files: 12 classes; the members and pool entries that the words name. The judged class is class 1, her method 1. -/
namespace start1
open Jvm.ClassFile
def u (s : String) : CpInfo := .utf8 (stringToUtf16 s)
/-- a pool by its gaps: so many unusable entries, then the entry; so many at the end -/
def gap : Nat → List CpInfo → List CpInfo
  | 0, r => r
  | n + 1, r => .unusable :: gap n r
def poolList (es : List (Nat × CpInfo)) (last : Nat) : List CpInfo := es.foldr (fun e r => gap e.1 (e.2 :: r)) (gap last [])
def pool (es : List (Nat × CpInfo)) (last : Nat) : Array CpInfo := ⟨poolList es last⟩
def fileOf (pool : Array CpInfo) (this : Nat) (attrs : Array Attribute := #[]) (ms : Array MethodInfo := #[]) (fl : Nat := 33) (sup : Nat := 0) (ifs : Array Nat := #[]) (fds : Array FieldInfo := #[]) : ClassFile where
  minorVersion := 0
  majorVersion := 65
  constantPool := pool
  accessFlags := fl
  thisClass := this
  superClass := sup
  interfaces := ifs
  fields := fds
  methods := ms
  attributes := attrs
def plain (name : String) (sup : Option ClassId) : Class where
  name := name
  kind := .ordinary
  loader := none
  accessFlags := 33
  super := sup
  interfaces := #[]
  cf := none
  fields := #[]
  methods := #[]
  instanceTypes := #[]
  staticTypes := #[]
  resolved := #[]
  callSites := []
  init := .initialized
  statics := none
  mirror := none

def pool0 : Array CpInfo := pool [(5, u "<init>"), (0, u "()V"), (1, .class_ 10), (1, u "java/lang/Object")] 113

def k0m0 : Method := { name := "<init>", desc := "()V", sig := { parameters := [], returnType := none }, accessFlags := 1, code := none }
/-- java/lang/Object -/
def k0 : Class := { plain "java/lang/Object" none with
  accessFlags := 33
  interfaces := #[]
  cf := some (fileOf pool0 8 #[] #[{ accessFlags := 1, nameIndex := 5, descriptorIndex := 6, attributes := #[] }] 33 0 #[] #[])
  fields := #[]
  methods := #[k0m0]
  instanceTypes := #[]
  staticTypes := #[]
  resolved := Array.replicate 124 none
  statics := none }

def pool1 : Array CpInfo := pool [(2, .class_ 4), (1, u "java/lang/Object"), (0, u "<init>"), (0, u "()V"), (0, .integer 2147483647), (0, .fieldref 9 10), (0, .class_ 11), (0, .nameAndType 12 13), (0, u "com/example/hotrung/hotrung/image/Address$Area"), (0, u "INPUT_BIT"), (0, u "Lcom/example/hotrung/hotrung/image/Address$Area;"), (0, .fieldref 9 15), (0, .nameAndType 16 13), (0, u "OUTPUT_BIT"), (0, .fieldref 9 18), (0, .nameAndType 19 13), (0, u "INPUT_WORD"), (0, .fieldref 9 21), (0, .nameAndType 22 13), (0, u "OUTPUT_WORD"), (0, .fieldref 9 24), (0, .nameAndType 25 13), (0, u "MEMORY_WORD"), (0, .methodref 9 27), (0, .nameAndType 28 29), (0, u "isInput"), (0, u "()Z"), (0, .methodref 9 31), (0, .nameAndType 32 29), (0, u "isOutput"), (0, .class_ 34), (0, u "com/example/hotrung/hotrung/image/AreaIsInputPinLaw"), (2, u "law"), (0, u "(I)Z")] 7

def k1m0 : Method := { name := "<init>", desc := "()V", sig := { parameters := [], returnType := none }, accessFlags := 1, code := none }
def k1c1 : Code := { maxStack := 2, maxLocals := 5, code := code, exceptionTable := #[], attributes := #[] }
def k1m1 : Method := { name := "law", desc := "(I)Z", sig := { parameters := [.int], returnType := some .boolean }, accessFlags := 9, code := some k1c1 }
/-- com/example/hotrung/hotrung/image/AreaIsInputPinLaw -/
def k1 : Class := { plain "com/example/hotrung/hotrung/image/AreaIsInputPinLaw" (some 0) with
  accessFlags := 49
  interfaces := #[]
  cf := some (fileOf pool1 33 #[] #[{ accessFlags := 1, nameIndex := 5, descriptorIndex := 6, attributes := #[] }, { accessFlags := 9, nameIndex := 37, descriptorIndex := 38, attributes := #[] }] 49 2 #[] #[])
  fields := #[]
  methods := #[k1m0, k1m1]
  instanceTypes := #[]
  staticTypes := #[]
  resolved := Array.replicate 46 none
  statics := none }

def pool2 : Array CpInfo := pool [(1, .class_ 2), (0, u "java/lang/constant/Constable"), (0, .class_ 4), (0, u "java/lang/Object")] 6

/-- java/lang/constant/Constable -/
def k2 : Class := { plain "java/lang/constant/Constable" (some 0) with
  accessFlags := 1537
  interfaces := #[]
  cf := some (fileOf pool2 1 #[] #[] 1537 3 #[] #[])
  fields := #[]
  methods := #[]
  instanceTypes := #[]
  staticTypes := #[]
  resolved := Array.replicate 11 none
  statics := none }

def pool3 : Array CpInfo := pool [(1, .class_ 2), (0, u "java/lang/Comparable"), (0, .class_ 4), (0, u "java/lang/Object")] 7

/-- java/lang/Comparable -/
def k3 : Class := { plain "java/lang/Comparable" (some 0) with
  accessFlags := 1537
  interfaces := #[]
  cf := some (fileOf pool3 1 #[] #[] 1537 3 #[] #[])
  fields := #[]
  methods := #[]
  instanceTypes := #[]
  staticTypes := #[]
  resolved := Array.replicate 12 none
  statics := none }

def pool4 : Array CpInfo := pool [(1, .class_ 2), (0, u "java/io/Serializable"), (0, .class_ 4), (0, u "java/lang/Object")] 2

/-- java/io/Serializable -/
def k4 : Class := { plain "java/io/Serializable" (some 0) with
  accessFlags := 1537
  interfaces := #[]
  cf := some (fileOf pool4 1 #[] #[] 1537 3 #[] #[])
  fields := #[]
  methods := #[]
  instanceTypes := #[]
  staticTypes := #[]
  resolved := Array.replicate 7 none
  statics := none }

def pool5 : Array CpInfo := pool [(2, .class_ 4), (1, u "java/lang/Enum"), (0, u "name"), (0, u "Ljava/lang/String;"), (2, u "ordinal"), (0, u "I"), (1, .class_ 14), (1, u "java/lang/Object"), (4, u "hash"), (86, .class_ 108), (1, u "java/lang/Enum$EnumDesc"), (2, .class_ 112), (0, u "java/lang/constant/Constable"), (0, .class_ 114), (0, u "java/lang/Comparable"), (0, .class_ 116), (0, u "java/io/Serializable")] 87

/-- java/lang/Enum -/
def k5 : Class := { plain "java/lang/Enum" (some 0) with
  accessFlags := 1057
  interfaces := #[2, 3, 4]
  cf := some (fileOf pool5 2 #[.nestMembers #[106]] #[] 1057 12 #[111, 113, 115] #[{ accessFlags := 18, nameIndex := 5, descriptorIndex := 6, attributes := #[] }, { accessFlags := 18, nameIndex := 9, descriptorIndex := 10, attributes := #[] }, { accessFlags := 2, nameIndex := 19, descriptorIndex := 10, attributes := #[] }])
  fields := #[{ name := "name", type := (.object "java/lang/String"), accessFlags := 18, slot := 0, constantValue := 0 }, { name := "ordinal", type := .int, accessFlags := 18, slot := 1, constantValue := 0 }, { name := "hash", type := .int, accessFlags := 2, slot := 2, constantValue := 0 }]
  methods := #[]
  instanceTypes := #[(.object "java/lang/String"), .int, .int]
  staticTypes := #[]
  resolved := Array.replicate 204 none
  statics := none }

def pool6 : Array CpInfo := pool [(1, .class_ 2), (0, u "com/example/hotrung/hotrung/image/Address$Area"), (0, .fieldref 1 4), (0, .nameAndType 5 6), (0, u "INPUT_BIT"), (0, u "Lcom/example/hotrung/hotrung/image/Address$Area;"), (0, .fieldref 1 8), (0, .nameAndType 9 6), (0, u "OUTPUT_BIT"), (0, .fieldref 1 11), (0, .nameAndType 12 6), (0, u "INPUT_WORD"), (0, .fieldref 1 14), (0, .nameAndType 15 6), (0, u "OUTPUT_WORD"), (2, u "MEMORY_WORD"), (2, u "$VALUES"), (0, u "[Lcom/example/hotrung/hotrung/image/Address$Area;"), (6, .class_ 31), (1, u "java/lang/Enum"), (8, u "prefix"), (0, u "Ljava/lang/String;"), (2, u "size"), (0, u "I"), (13, .class_ 60), (0, u "com/example/hotrung/hotrung/image/Address"), (44, u "()Z"), (1, u "isInput"), (0, u "isOutput")] 29

def k6c0 : Code := { maxStack := 2, maxLocals := 1, code := prog_31_method_6_code, exceptionTable := #[], attributes := #[] }
def k6m0 : Method := { name := "isInput", desc := "()Z", sig := { parameters := [], returnType := some .boolean }, accessFlags := 1, code := some k6c0 }
def k6c1 : Code := { maxStack := 2, maxLocals := 1, code := prog_31_method_7_code, exceptionTable := #[], attributes := #[] }
def k6m1 : Method := { name := "isOutput", desc := "()Z", sig := { parameters := [], returnType := some .boolean }, accessFlags := 1, code := some k6c1 }
/-- com/example/hotrung/hotrung/image/Address$Area -/
def k6 : Class := { plain "com/example/hotrung/hotrung/image/Address$Area" (some 5) with
  accessFlags := 16433
  interfaces := #[]
  cf := some (fileOf pool6 1 #[.nestHost 59] #[{ accessFlags := 1, nameIndex := 107, descriptorIndex := 105, attributes := #[] }, { accessFlags := 1, nameIndex := 108, descriptorIndex := 105, attributes := #[] }] 16433 29 #[] #[{ accessFlags := 16409, nameIndex := 5, descriptorIndex := 6, attributes := #[] }, { accessFlags := 16409, nameIndex := 9, descriptorIndex := 6, attributes := #[] }, { accessFlags := 16409, nameIndex := 12, descriptorIndex := 6, attributes := #[] }, { accessFlags := 16409, nameIndex := 15, descriptorIndex := 6, attributes := #[] }, { accessFlags := 16409, nameIndex := 18, descriptorIndex := 6, attributes := #[] }, { accessFlags := 18, nameIndex := 40, descriptorIndex := 41, attributes := #[] }, { accessFlags := 18, nameIndex := 44, descriptorIndex := 45, attributes := #[] }, { accessFlags := 4122, nameIndex := 21, descriptorIndex := 22, attributes := #[] }])
  fields := #[{ name := "INPUT_BIT", type := (.object "com/example/hotrung/hotrung/image/Address$Area"), accessFlags := 16409, slot := 0, constantValue := 0 }, { name := "OUTPUT_BIT", type := (.object "com/example/hotrung/hotrung/image/Address$Area"), accessFlags := 16409, slot := 1, constantValue := 0 }, { name := "INPUT_WORD", type := (.object "com/example/hotrung/hotrung/image/Address$Area"), accessFlags := 16409, slot := 2, constantValue := 0 }, { name := "OUTPUT_WORD", type := (.object "com/example/hotrung/hotrung/image/Address$Area"), accessFlags := 16409, slot := 3, constantValue := 0 }, { name := "MEMORY_WORD", type := (.object "com/example/hotrung/hotrung/image/Address$Area"), accessFlags := 16409, slot := 4, constantValue := 0 }, { name := "prefix", type := (.object "java/lang/String"), accessFlags := 18, slot := 3, constantValue := 0 }, { name := "size", type := .int, accessFlags := 18, slot := 4, constantValue := 0 }, { name := "$VALUES", type := (.array (.object "com/example/hotrung/hotrung/image/Address$Area")), accessFlags := 4122, slot := 5, constantValue := 0 }]
  methods := #[k6m0, k6m1]
  instanceTypes := #[(.object "java/lang/String"), .int, .int, (.object "java/lang/String"), .int]
  staticTypes := #[(.object "com/example/hotrung/hotrung/image/Address$Area"), (.object "com/example/hotrung/hotrung/image/Address$Area"), (.object "com/example/hotrung/hotrung/image/Address$Area"), (.object "com/example/hotrung/hotrung/image/Address$Area"), (.object "com/example/hotrung/hotrung/image/Address$Area"), (.array (.object "com/example/hotrung/hotrung/image/Address$Area"))]
  resolved := Array.replicate 138 none
  statics := some 0 }

def pool7 : Array CpInfo := pool [(1, u "java/lang/Cloneable"), (0, .class_ 1), (0, u "java/lang/Object"), (0, .class_ 3)] 3

/-- java/lang/Cloneable -/
def k7 : Class := { plain "java/lang/Cloneable" (some 0) with
  accessFlags := 1537
  interfaces := #[]
  cf := some (fileOf pool7 2 #[] #[] 1537 4 #[] #[])
  fields := #[]
  methods := #[]
  instanceTypes := #[]
  staticTypes := #[]
  resolved := Array.replicate 8 none
  statics := none }

/-- the primitive byte -/
def k8 : Class := { plain "byte" none with kind := .primitive 'B', accessFlags := 0x411 }
/-- [B -/
def k9 : Class := { plain "[B" (some 0) with kind := .array 8 .byte, interfaces := #[7, 4], accessFlags := 1041 }

/-- the primitive int -/
def k10 : Class := { plain "int" none with kind := .primitive 'I', accessFlags := 0x411 }
/-- [I -/
def k11 : Class := { plain "[I" (some 0) with kind := .array 10 .int, interfaces := #[7, 4], accessFlags := 1041 }

def heap : Heap := #[{ cls := 6, slots := #[.ref 1, .ref 2, .ref 4, .ref 3, .ref 5, .null], vm := .statics 6 },
  { cls := 6, slots := #[.null, .int 0, .int 0, .null, .int 0], vm := .none },
  { cls := 6, slots := #[.null, .int 1, .int 0, .null, .int 0], vm := .none },
  { cls := 6, slots := #[.null, .int 3, .int 0, .null, .int 0], vm := .none },
  { cls := 6, slots := #[.null, .int 2, .int 0, .null, .int 0], vm := .none },
  { cls := 6, slots := #[.null, .int 4, .int 0, .null, .int 0], vm := .none }]
def classes : Array Class := #[k0, k1, k2, k3, k4, k5, k6, k7, k8, k9, k10, k11]
def interned : List (Array UInt16 × Addr) := []
def slotsUsed : Nat := 31
def theMethod : MethodId := ⟨1, 1⟩
def args0 : Array Value := #[.int 5]
def aboutOver (below : List Frame) : State where
  vm := { classes := classes, interned := interned.toArray }
  heap := heap
  slotsUsed := slotsUsed
  threads := #[{ frames := .invoking theMethod args0 :: below }]
def below0 : List Frame := [.native { method := ⟨0, 0⟩, args := #[] }]
def about1 : State := aboutOver below0
def p0 : Program := .bare "" "" ""
def e0 : Env := launch0.env 0 0 0
theorem w_frames : about1.frames = Frame.invoking theMethod args0 :: below0 := rfl
set_option maxRecDepth 65536 in
theorem w_args : argsFit about1.vm theMethod args0 = true := by decide +kernel
set_option maxRecDepth 65536 in
theorem w_heap : heapFits about1 = true := by decide +kernel
set_option maxRecDepth 65536 in
theorem w_runnable : about1.curStatus? = some .runnable := by decide +kernel
set_option maxRecDepth 65536 in
theorem w_alone : about1.alone = true := by decide +kernel
set_option maxRecDepth 65536 in
theorem w_named : about1.methodNamed? x = some theMethod := by decide +kernel
set_option maxRecDepth 65536 in
theorem w_hears : about1.hears theMethod below0 = true := by decide +kernel
set_option maxRecDepth 65536 in
theorem w_ripe : about1.ripe theMethod args0 below0 = true := by decide +kernel
theorem w_running : about1.status = .running := rfl
set_option maxRecDepth 65536 in
theorem w_room : about1.hasRoom e0.platform room_1 = true :=
  launch0.hasRoom_least _ room_1 (by decide +kernel) (by decide +kernel) (by decide +kernel) (by decide +kernel) (by decide +kernel) (by decide +kernel)
theorem allAtoms_all (ts : List Jvm.Cond) (a : Array Jvm.Value) (st : Jvm.State) : (allAtoms ts).before a st = ts.all (fun c => c.before a st) := by
  induction ts with
  | nil => rfl
  | cons c t ih =>
    show (Jvm.Cond.and c (allAtoms t)).before a st = _
    rw [Jvm.Cond.before_and, ih, List.all_cons]
def words1 : List Jvm.Cond := Jvm.Cond.code x code maxLocals ret :: tables_1
/-- a 'code' word, met by the world's own term for the bytes: nothing is compared byte by byte -/
theorem code_word {y : MethodName} {bytes : ByteArray} {mx : Nat} {rt : Option FieldType} {a : Array Value} {s : State} {m : MethodId} {meth : Method} {c : Code} (h1 : s.methodNamed? y = some m) (h2 : s.vm.method? m = some meth) (h3 : meth.code = some c) (h4 : c.code = bytes)
    (h5 : (c.maxLocals == mx && c.exceptionTable.isEmpty && decide (c.maxStack ≤ mostOperands) && decide (meth.sig.returnType = rt) && !meth.locks && decide (parseMethodDescriptor y.desc = some meth.sig)) = true) : (Jvm.Cond.code y bytes mx rt).before a s = true := by
  simp only [Bool.and_eq_true, beq_iff_eq, Bool.not_eq_true', decide_eq_true_eq] at h5
  obtain ⟨⟨⟨⟨⟨g1, g2⟩, g3⟩, g4⟩, g5⟩, g6⟩ := h5
  simp [Cond.before, Cond.holds, Cond.value, h1, h2, h3, h4, g1, g2, g3, g4, g5, g6]
def isCode : Jvm.Cond → Bool
  | .code _ _ _ _ => true
  | _ => false
theorem all_split {L : List Jvm.Cond} {P : Jvm.Cond → Bool} (h1 : L.all (fun c => isCode c || P c) = true) (h2 : ∀ c ∈ L.filter isCode, P c = true) : L.all P = true := by
  refine List.all_eq_true.mpr fun c hc => ?_
  have h := List.all_eq_true.mp h1 c hc
  rcases Bool.eq_false_or_eq_true (isCode c) with hi | hi
  · exact h2 c (List.mem_filter.mpr ⟨hc, hi⟩)
  · simpa [hi] using h
set_option maxRecDepth 65536 in
theorem w_c0 : (Jvm.Cond.code x code maxLocals ret).before args0 about1 = true := code_word (m := ⟨1, 1⟩) (meth := k1m1) (c := k1c1) (by decide +kernel) rfl rfl rfl (by decide +kernel)
set_option maxRecDepth 65536 in
theorem w_c1 : (Jvm.Cond.code ({ cls := "com/example/hotrung/hotrung/image/Address$Area", name := "isInput", desc := "()Z" } : Jvm.MethodName) prog_31_method_6_code (1 : Nat) (Option.some Jvm.ClassFile.FieldType.boolean)).before args0 about1 = true := code_word (m := ⟨6, 0⟩) (meth := k6m0) (c := k6c0) (by decide +kernel) rfl rfl rfl (by decide +kernel)
set_option maxRecDepth 65536 in
theorem w_c2 : (Jvm.Cond.code ({ cls := "com/example/hotrung/hotrung/image/Address$Area", name := "isOutput", desc := "()Z" } : Jvm.MethodName) prog_31_method_7_code (1 : Nat) (Option.some Jvm.ClassFile.FieldType.boolean)).before args0 about1 = true := code_word (m := ⟨6, 1⟩) (meth := k6m1) (c := k6c1) (by decide +kernel) rfl rfl rfl (by decide +kernel)
def codes1 : List Jvm.Cond := [Jvm.Cond.code x code maxLocals ret, Jvm.Cond.code ({ cls := "com/example/hotrung/hotrung/image/Address$Area", name := "isInput", desc := "()Z" } : Jvm.MethodName) prog_31_method_6_code (1 : Nat) (Option.some Jvm.ClassFile.FieldType.boolean), Jvm.Cond.code ({ cls := "com/example/hotrung/hotrung/image/Address$Area", name := "isOutput", desc := "()Z" } : Jvm.MethodName) prog_31_method_7_code (1 : Nat) (Option.some Jvm.ClassFile.FieldType.boolean)]
set_option maxRecDepth 65536 in
theorem codes_eq : words1.filter isCode = codes1 := rfl
theorem w_codes : ∀ c ∈ words1.filter isCode, c.before args0 about1 = true := by
  rw [codes_eq]
  intro c hc
  simp only [codes1, List.mem_cons, List.not_mem_nil, or_false] at hc
  rcases hc with rfl | rfl | rfl
  · exact w_c0
  · exact w_c1
  · exact w_c2
set_option maxRecDepth 65536 in
theorem w_t1 : (words1.take 24).all (fun c => isCode c || c.before args0 about1) = true := by decide +kernel
set_option maxRecDepth 65536 in
theorem w_t2 : (words1.drop 24).all (fun c => isCode c || c.before args0 about1) = true := by decide +kernel
theorem w_tables : (allAtoms (Jvm.Cond.code x code maxLocals ret :: tables_1)).before args0 about1 = true := by
  rw [allAtoms_all]
  show words1.all (fun c => c.before args0 about1) = true
  refine all_split ?_ w_codes
  rw [← List.take_append_drop 24 words1, List.all_append, w_t1, w_t2]
  rfl
set_option maxRecDepth 65536 in
theorem w_case : (Jvm.Cond.and given_1 narrow_1).before args0 about1 = true := by decide +kernel
theorem w_applies : (headSpec (Jvm.Cond.code x code maxLocals ret :: tables_1) room_1).applies x e0.platform about1 = true :=
  (Spec.applies_iff w_frames).mpr ⟨w_running, w_runnable, w_alone, w_named, w_hears, w_ripe, w_room, w_tables⟩
theorem atStart : AtStart classFile x code maxLocals ret World_1 tables_1 room_1 Calls_1 rest_1 Pre_1 launch0 p0 e0 about1 theMethod args0 below0 :=
  ⟨lists_1, trivial, launch0.admits_env _ _ _, launch0.least_env, fairChoices_fair.cas, fairChoices_fair.clock, w_frames, w_args, w_heap, w_applies, trivial, trivial, w_case⟩
end start1
theorem witness_1 : WitnessClaimed_1 := ⟨start1.p0, start1.e0, start1.about1, start1.theMethod, start1.args0, start1.below0, start1.atStart⟩
end Jvm.Pilot.@@N@@
