import JvmDerived
import JvmDerived.Pilot.@@N@@Statement
import JvmDerived.Pilot.@@N@@Code
set_option linter.unusedVariables false
set_option linter.unusedSimpArgs false

namespace Jvm.Pilot.@@N@@
open Jvm Jvm.ClassFile Sem Op Lib Jvm.Free Jvm.Stand Jvm.LawKit Jvm.RoadKit Bundle Jvm.Pilot.@@N@@.Jvm.D
/-! continuation style: from A the run comes to a state of which K holds -/
def own_Go (tb : Tables) (e : Env) (below : List Frame) (K : State → Prop) (A : State) : Prop := ∃ U, Steps tb e below A U ∧ K U
theorem own_by {tb : Tables} {e : Env} {below : List Frame} {K : State → Prop} {A B : State} (h : ∀ t, Steps tb e below B t → Steps tb e below A t) (k : own_Go tb e below K B) : own_Go tb e below K A := by
  obtain ⟨U, s, q⟩ := k; exact ⟨U, h U s, q⟩
def own_K (s : State) (below : List Frame) (Q : Option Value → Heap → List Loc → Prop) (kc ks : Nat) (U : State) : Prop :=
  ∃ v L, U.status = .running ∧ Ended U below (.returned v) ∧ Q v U.heap L ∧ FrameEnd s (.returned v) U L kc ks
theorem own_done {tb : Tables} {e : Env} {below : List Frame} {s A B : State} {Q : Option Value → Heap → List Loc → Prop} {kc ks : Nat} (h : ∀ t, Steps tb e below B t → Steps tb e below A t) (k : own_Go tb e below (own_K s below Q kc ks) B) :
    ∃ s₂ o, Steps tb e below A s₂ ∧ s₂.status = .running ∧ Ended s₂ below o ∧ ∃ v L, o = .returned v ∧ Q v s₂.heap L ∧ FrameEnd s o s₂ L kc ks := by
  obtain ⟨U, st, v, L, h1, h2, h3, h4⟩ := k
  exact ⟨U, _, h U st, h1, h2, v, L, rfl, h3, h4⟩
section OwnRet
variable {p : Program} {l : Launch} {e : Env} {R : Room} {s : State} {m : MethodId} {args : Array Value} {below : List Frame} {meth : Method} {c : Code} {T : State} {locs : List Loc} {cells slots : Nat} {Q : Option Value → Heap → List Loc → Prop} {kc ks : Nat}
theorem own_retW (X : Stand p l e R s m args below meth c T locs cells slots) (hx : p.tables.exec = Jvm.exec) {pc : Nat} {Ls : Array Slot} {w : Value} {t : FieldType} {i : Instr} {rest : List Value} (hrt : meth.sig.returnType = some t) (hlk : meth.locks = false) (hn : narrow t w = w)
    (hi : (i = .ireturn ∧ (t = .int ∨ t = .boolean ∨ t = .byte ∨ t = .char ∨ t = .short) ∧ ∃ z, w = .int z) ∨ (i = .lreturn ∧ t = .long ∧ ∃ z, w = .long z) ∨ (i = .dreturn ∧ t = .double ∧ ∃ z, w = .double z) ∨ (i = .freturn ∧ t = .float ∧ ∃ z, w = .float z) ∨ (i = .areturn ∧ t.isReference = true ∧ w.isRef = true))
    (hd : decode c.code pc = .ok (i, 1)) (hc : cells ≤ kc) (hs : slots ≤ ks) (hq : Q (some w) T.heap locs) :
    own_Go p.tables e below (own_K s below Q kc ks) (T.setTop (mkF m pc Ls (w :: rest))) := by
  obtain ⟨fs, hr, hrun, hended, hW, hsame⟩ := X.leave (v := some w) (fun h => by rw [hrt] at h; cases h) hlk
  exact ⟨_, retOut X hx hrt hn hi hd hr, some w, locs, hrun, hended, hq, ⟨_, rfl⟩, hW, hsame.mono hc hs⟩
theorem own_retI (X : Stand p l e R s m args below meth c T locs cells slots) (hx : p.tables.exec = Jvm.exec) {pc : Nat} {Ls : Array Slot} {z : Int32} {rest : List Value} (hrt : meth.sig.returnType = some .int) (hlk : meth.locks = false)
    (hd : decode c.code pc = .ok (.ireturn, 1)) (hc : cells ≤ kc) (hs : slots ≤ ks) (hq : Q (some (.int z)) T.heap locs) :
    own_Go p.tables e below (own_K s below Q kc ks) (T.setTop (mkF m pc Ls (.int z :: rest))) :=
  own_retW X hx hrt hlk rfl (Or.inl ⟨rfl, Or.inl rfl, _, rfl⟩) hd hc hs hq
theorem own_retZ (X : Stand p l e R s m args below meth c T locs cells slots) (hx : p.tables.exec = Jvm.exec) {pc : Nat} {Ls : Array Slot} {z : Int32} {rest : List Value} (hrt : meth.sig.returnType = some .boolean) (hlk : meth.locks = false) (hn : narrow .boolean (.int z) = .int z)
    (hd : decode c.code pc = .ok (.ireturn, 1)) (hc : cells ≤ kc) (hs : slots ≤ ks) (hq : Q (some (.int z)) T.heap locs) :
    own_Go p.tables e below (own_K s below Q kc ks) (T.setTop (mkF m pc Ls (.int z :: rest))) :=
  own_retW X hx hrt hlk hn (Or.inl ⟨rfl, Or.inr (Or.inl rfl), _, rfl⟩) hd hc hs hq
theorem own_retJ (X : Stand p l e R s m args below meth c T locs cells slots) (hx : p.tables.exec = Jvm.exec) {pc : Nat} {Ls : Array Slot} {z : Int64} {rest : List Value} (hrt : meth.sig.returnType = some .long) (hlk : meth.locks = false)
    (hd : decode c.code pc = .ok (.lreturn, 1)) (hc : cells ≤ kc) (hs : slots ≤ ks) (hq : Q (some (.long z)) T.heap locs) :
    own_Go p.tables e below (own_K s below Q kc ks) (T.setTop (mkF m pc Ls (.long z :: rest))) :=
  own_retW X hx hrt hlk rfl (Or.inr (Or.inl ⟨rfl, rfl, _, rfl⟩)) hd hc hs hq
theorem own_retA (X : Stand p l e R s m args below meth c T locs cells slots) (hx : p.tables.exec = Jvm.exec) {pc : Nat} {Ls : Array Slot} {w : Value} {t : FieldType} {rest : List Value} (hrt : meth.sig.returnType = some t) (ht : t.isReference = true) (hw : w.isRef = true) (hlk : meth.locks = false)
    (hd : decode c.code pc = .ok (.areturn, 1)) (hc : cells ≤ kc) (hs : slots ≤ ks) (hq : Q (some w) T.heap locs) :
    own_Go p.tables e below (own_K s below Q kc ks) (T.setTop (mkF m pc Ls (w :: rest))) :=
  own_retW X hx hrt hlk (by rcases ref_cases hw with rfl | ⟨a, rfl⟩ <;> cases t <;> first | rfl | (cases ht)) (Or.inr (Or.inr (Or.inr (Or.inr ⟨rfl, ht, hw⟩)))) hd hc hs hq
theorem own_retV (X : Stand p l e R s m args below meth c T locs cells slots) (hx : p.tables.exec = Jvm.exec) {pc : Nat} {Ls : Array Slot} (hrt : meth.sig.returnType = none) (hlk : meth.locks = false)
    (hd : decode c.code pc = .ok (.return_, 1)) (hc : cells ≤ kc) (hs : slots ≤ ks) (hq : Q none T.heap locs) :
    own_Go p.tables e below (own_K s below Q kc ks) (T.setTop (mkF m pc Ls [])) := by
  obtain ⟨fs, hr, hrun, hended, hW, hsame⟩ := X.leave (v := none) (fun _ => rfl) hlk
  exact ⟨_, X.returnOut hx hrt hd hr, none, locs, hrun, hended, hq, ⟨_, rfl⟩, hW, hsame.mono hc hs⟩
end OwnRet
def own_P (r : Value) (h0 : Heap) (n0 : Nat) (v : Option Value) (h : Heap) (L : List Loc) : Prop := v = some r ∧ Fr n0 L ∧ h = h0
def own_W (Z : State) (h : Heap) (a_EQUAL a_LESS a_GREATER a_NOT_EQUAL a_GREATER_OR_EQUAL a_LESS_OR_EQUAL : Addr) : Prop := Sta Z h "com/example/convene/convene/engine/ComparisonOperator" "EQUAL" "Lcom/example/convene/convene/engine/ComparisonOperator;" (.ref a_EQUAL) ∧ Exa Z h a_EQUAL "com/example/convene/convene/engine/ComparisonOperator" ∧ Sta Z h "com/example/convene/convene/engine/ComparisonOperator" "LESS" "Lcom/example/convene/convene/engine/ComparisonOperator;" (.ref a_LESS) ∧ Exa Z h a_LESS "com/example/convene/convene/engine/ComparisonOperator" ∧ Sta Z h "com/example/convene/convene/engine/ComparisonOperator" "GREATER" "Lcom/example/convene/convene/engine/ComparisonOperator;" (.ref a_GREATER) ∧ Exa Z h a_GREATER "com/example/convene/convene/engine/ComparisonOperator" ∧ Sta Z h "com/example/convene/convene/engine/ComparisonOperator" "NOT_EQUAL" "Lcom/example/convene/convene/engine/ComparisonOperator;" (.ref a_NOT_EQUAL) ∧ Exa Z h a_NOT_EQUAL "com/example/convene/convene/engine/ComparisonOperator" ∧ Sta Z h "com/example/convene/convene/engine/ComparisonOperator" "GREATER_OR_EQUAL" "Lcom/example/convene/convene/engine/ComparisonOperator;" (.ref a_GREATER_OR_EQUAL) ∧ Exa Z h a_GREATER_OR_EQUAL "com/example/convene/convene/engine/ComparisonOperator" ∧ Sta Z h "com/example/convene/convene/engine/ComparisonOperator" "LESS_OR_EQUAL" "Lcom/example/convene/convene/engine/ComparisonOperator;" (.ref a_LESS_OR_EQUAL) ∧ Exa Z h a_LESS_OR_EQUAL "com/example/convene/convene/engine/ComparisonOperator" ∧ Fld Z h a_EQUAL "com/example/convene/convene/engine/ComparisonOperator" "whenGreater" "Z" (.int (0 : Int32)) ∧ Fld Z h a_LESS "com/example/convene/convene/engine/ComparisonOperator" "whenGreater" "Z" (.int (0 : Int32)) ∧ Fld Z h a_LESS "com/example/convene/convene/engine/ComparisonOperator" "whenLess" "Z" (.int (1 : Int32)) ∧ Fld Z h a_GREATER "com/example/convene/convene/engine/ComparisonOperator" "whenLess" "Z" (.int (0 : Int32)) ∧ Fld Z h a_NOT_EQUAL "com/example/convene/convene/engine/ComparisonOperator" "whenGreater" "Z" (.int (1 : Int32)) ∧ Fld Z h a_EQUAL "com/example/convene/convene/engine/ComparisonOperator" "whenLess" "Z" (.int (0 : Int32)) ∧ Fld Z h a_GREATER_OR_EQUAL "com/example/convene/convene/engine/ComparisonOperator" "whenGreater" "Z" (.int (1 : Int32)) ∧ Fld Z h a_LESS_OR_EQUAL "com/example/convene/convene/engine/ComparisonOperator" "whenGreater" "Z" (.int (0 : Int32)) ∧ Fld Z h a_LESS_OR_EQUAL "com/example/convene/convene/engine/ComparisonOperator" "whenLess" "Z" (.int (1 : Int32)) ∧ Fld Z h a_GREATER "com/example/convene/convene/engine/ComparisonOperator" "whenGreater" "Z" (.int (1 : Int32)) ∧ Fld Z h a_NOT_EQUAL "com/example/convene/convene/engine/ComparisonOperator" "whenLess" "Z" (.int (1 : Int32)) ∧ Fld Z h a_GREATER_OR_EQUAL "com/example/convene/convene/engine/ComparisonOperator" "whenLess" "Z" (.int (0 : Int32)) ∧ Fld Z h a_LESS_OR_EQUAL "com/example/convene/convene/engine/ComparisonOperator" "whenEqual" "Z" (.int (1 : Int32)) ∧ Fld Z h a_EQUAL "com/example/convene/convene/engine/ComparisonOperator" "whenEqual" "Z" (.int (1 : Int32)) ∧ Fld Z h a_LESS "com/example/convene/convene/engine/ComparisonOperator" "whenEqual" "Z" (.int (0 : Int32)) ∧ Fld Z h a_NOT_EQUAL "com/example/convene/convene/engine/ComparisonOperator" "whenEqual" "Z" (.int (0 : Int32)) ∧ Fld Z h a_GREATER "com/example/convene/convene/engine/ComparisonOperator" "whenEqual" "Z" (.int (0 : Int32)) ∧ Fld Z h a_GREATER_OR_EQUAL "com/example/convene/convene/engine/ComparisonOperator" "whenEqual" "Z" (.int (1 : Int32))

def own_f1 (ub : Int32) (wl : Int32) (we : Int32) (wg : Int32) : Int32 := if ub < (0 : Int32) then wl else if ub = (0 : Int32) then we else wg

theorem d1_0 : decode prog_65_method_8_code 0 = .ok (.iload_n 1, 1) := by decide +kernel
theorem d1_1 : decode prog_65_method_8_code 1 = .ok (.ifCond .ge 8, 3) := by decide +kernel
theorem d1_4 : decode prog_65_method_8_code 4 = .ok (.aload_n 0, 1) := by decide +kernel
theorem d1_5 : decode prog_65_method_8_code 5 = .ok (.getfield 45, 3) := by decide +kernel
theorem d1_8 : decode prog_65_method_8_code 8 = .ok (.ireturn, 1) := by decide +kernel
theorem d1_9 : decode prog_65_method_8_code 9 = .ok (.iload_n 1, 1) := by decide +kernel
theorem d1_10 : decode prog_65_method_8_code 10 = .ok (.ifCond .ne 10, 3) := by decide +kernel
theorem d1_13 : decode prog_65_method_8_code 13 = .ok (.aload_n 0, 1) := by decide +kernel
theorem d1_14 : decode prog_65_method_8_code 14 = .ok (.getfield 49, 3) := by decide +kernel
theorem d1_17 : decode prog_65_method_8_code 17 = .ok (.goto 7, 3) := by decide +kernel
theorem d1_20 : decode prog_65_method_8_code 20 = .ok (.aload_n 0, 1) := by decide +kernel
theorem d1_21 : decode prog_65_method_8_code 21 = .ok (.getfield 52, 3) := by decide +kernel
theorem d1_24 : decode prog_65_method_8_code 24 = .ok (.ireturn, 1) := by decide +kernel
theorem pn_rm1 : plainFor (⟨"com/example/convene/convene/engine/ComparisonOperator", "holds", "(I)Z"⟩ : MethodName) = true := by first | exact plainFor_of_name (by first | (simp [plainName, overriddenIn]; done) | decide +kernel) | decide +kernel
theorem ef_rm1 (m : MethodId) (x0 : Addr) (x1 : Int32) : entryFrame m #[(.ref x0), (.int x1)] 2 = mkF m 0 #[.val (.ref x0), .val (.int x1)] [] := by first | (simp [entryFrame, mkF, argsToLocals, Value.category]; done) | rfl
set_option maxRecDepth 65536 in
set_option maxHeartbeats 40000000 in
theorem rm1 (l : Launch) (Z : State) (a0 : Array Value) (hw : ∀ d ∈ tables_1, d.before a0 Z = true) (ws : List Jvm.Cond) (ua : Addr) (ub wl we wg : Int32) (h0 : Heap) (n0 : Nat) (Z0 : n0 ≤ h0.size) (F_whenLess : Fld Z h0 ua "com/example/convene/convene/engine/ComparisonOperator" "whenLess" "Z" (.int wl)) (n_wl : narrow .boolean (.int wl) = .int wl) (F_whenEqual : Fld Z h0 ua "com/example/convene/convene/engine/ComparisonOperator" "whenEqual" "Z" (.int we)) (n_we : narrow .boolean (.int we) = .int we) (F_whenGreater : Fld Z h0 ua "com/example/convene/convene/engine/ComparisonOperator" "whenGreater" "Z" (.int wg)) (n_wg : narrow .boolean (.int wg) = .int wg) :
    MetFree l (⟨"com/example/convene/convene/engine/ComparisonOperator", "holds", "(I)Z"⟩ : MethodName) (head1 (Jvm.Cond.code (⟨"com/example/convene/convene/engine/ComparisonOperator", "holds", "(I)Z"⟩ : MethodName) prog_65_method_8_code 2 (some .boolean) :: ws) ({ frames := 0, cells := 0, slots := 0, locals := 0 } : Room)) (fun a U => a = #[(.ref ua), (.int ub)] ∧ Z.Warmed39 U.vm ∧ U.heap = h0) (fun _ _ _ _ _ => True) (fun _ U o U' => ∃ v L, o = .returned v ∧ (own_P (.int (own_f1 ub wl we wg)) h0 n0) v U'.heap L ∧ FrameEnd U o U' L 0 0) := by
  refine MetFree.of_bodySF pn_rm1 hisR ?_
  intro p e s m args below meth c s₁ Bd hml0 hP hK
  obtain ⟨rfl, hZ, hh⟩ := hP
  have hx := Bd.exec
  have hby := Bd.bytes
  have hml : c.maxLocals = 2 := hml0
  have hown : s.vm.findClass "com/example/convene/convene/engine/ComparisonOperator" = some m.cls := findClass_of_methodNamed Bd.named
  have hnm := (name_of_methodNamed Bd.named Bd.method).1
  have hrt := Bd.returns
  have hlk := Bd.notSynchronized
  have X0 : Stand p l e ({ frames := 0, cells := 0, slots := 0, locals := 0 } : Room) s m #[(.ref ua), (.int ub)] below meth c s₁ [] 0 0 := Stand.of_body Bd
  have e0 : s₁.heap = h0 := by rw [← hh, Bd.state]; rfl
  have N0 := Fr.nil n0
  refine own_done (B := s₁.setTop (mkF m 0 #[.val (.ref ua), .val (.int ub)] [])) (fun t k => castTop (ef_rm1 m ua ub) k) ?_
  refine own_by (B := s₁.setTop (mkF m 1 #[.val (.ref ua), .val (.int ub)] [(.int ub)])) (fun _ k => XS.iloadN X0.here hx rfl (hb hby d1_0) rfl  k) ?_
  by_cases hc1 : ub < (0 : Int32)
  · refine own_by (B := s₁.setTop (mkF m 4 #[.val (.ref ua), .val (.int ub)] [])) (fun _ k => XS.ifNo X0.here hx rfl (hb hby d1_1) rfl (XT.i0_ge_f hc1) k) ?_
    refine own_by (B := s₁.setTop (mkF m 5 #[.val (.ref ua), .val (.int ub)] [(.ref ua)])) (fun _ k => XS.aloadN X0.here hx rfl (hb hby d1_4) rfl rfl  k) ?_
    obtain ⟨T2, X2, e2, st2⟩ := getF X0 hx hZ hown (host := "") (Or.inl (hw _ (List.mem_of_getElem? (i := 13) rfl))) Via.refl e0 F_whenLess (g := (mkF m 5 #[.val (.ref ua), .val (.int ub)] [(.ref ua)])) rfl rfl (hb hby d1_5)
    refine own_by (B := T2.setTop (mkF m 8 #[.val (.ref ua), .val (.int ub)] [(.int wl)])) st2 ?_
    exact own_retZ X2 hx hrt hlk n_wl (hb hby d1_8) (by decide) (by decide) ⟨(by unfold own_f1; rw [if_pos hc1]), N0, e2⟩
  · refine own_by (B := s₁.setTop (mkF m 9 #[.val (.ref ua), .val (.int ub)] [])) (fun _ k => XS.ifYes X0.here hx rfl (pc0 := 1) (pc' := 9) rfl (hb hby d1_1) rfl (XT.i0_ge_t hc1) (by decide) (by decide) k) ?_
    refine own_by (B := s₁.setTop (mkF m 10 #[.val (.ref ua), .val (.int ub)] [(.int ub)])) (fun _ k => XS.iloadN X0.here hx rfl (hb hby d1_9) rfl  k) ?_
    by_cases hc3 : ub = (0 : Int32)
    · refine own_by (B := s₁.setTop (mkF m 13 #[.val (.ref ua), .val (.int ub)] [])) (fun _ k => XS.ifNo X0.here hx rfl (hb hby d1_10) rfl (XT.i0_ne_f hc3) k) ?_
      refine own_by (B := s₁.setTop (mkF m 14 #[.val (.ref ua), .val (.int ub)] [(.ref ua)])) (fun _ k => XS.aloadN X0.here hx rfl (hb hby d1_13) rfl rfl  k) ?_
      obtain ⟨T4, X4, e4, st4⟩ := getF X0 hx hZ hown (host := "") (Or.inl (hw _ (List.mem_of_getElem? (i := 23) rfl))) Via.refl e0 F_whenEqual (g := (mkF m 14 #[.val (.ref ua), .val (.int ub)] [(.ref ua)])) rfl rfl (hb hby d1_14)
      refine own_by (B := T4.setTop (mkF m 17 #[.val (.ref ua), .val (.int ub)] [(.int we)])) st4 ?_
      refine own_by (B := T4.setTop (mkF m 24 #[.val (.ref ua), .val (.int ub)] [(.int we)])) (fun _ k => XS.goto X4.here hx rfl (pc0 := 17) (pc' := 24) rfl (hb hby d1_17) (by decide) (by decide) k) ?_
      exact own_retZ X4 hx hrt hlk n_we (hb hby d1_24) (by decide) (by decide) ⟨(by unfold own_f1; rw [if_neg hc1, if_pos hc3]), N0, e4⟩
    · refine own_by (B := s₁.setTop (mkF m 20 #[.val (.ref ua), .val (.int ub)] [])) (fun _ k => XS.ifYes X0.here hx rfl (pc0 := 10) (pc' := 20) rfl (hb hby d1_10) rfl (XT.i0_ne_t hc3) (by decide) (by decide) k) ?_
      refine own_by (B := s₁.setTop (mkF m 21 #[.val (.ref ua), .val (.int ub)] [(.ref ua)])) (fun _ k => XS.aloadN X0.here hx rfl (hb hby d1_20) rfl rfl  k) ?_
      obtain ⟨T5, X5, e5, st5⟩ := getF X0 hx hZ hown (host := "") (Or.inl (hw _ (List.mem_of_getElem? (i := 9) rfl))) Via.refl e0 F_whenGreater (g := (mkF m 21 #[.val (.ref ua), .val (.int ub)] [(.ref ua)])) rfl rfl (hb hby d1_21)
      refine own_by (B := T5.setTop (mkF m 24 #[.val (.ref ua), .val (.int ub)] [(.int wg)])) st5 ?_
      exact own_retZ X5 hx hrt hlk n_wg (hb hby d1_24) (by decide) (by decide) ⟨(by unfold own_f1; rw [if_neg hc1, if_neg hc3]), N0, e5⟩

theorem own_tri (z : Int32) : (z < 0 ∧ ¬ z = 0 ∧ ¬ 0 < z) ∨ (¬ z < 0 ∧ z = 0 ∧ ¬ 0 < z) ∨ (¬ z < 0 ∧ ¬ z = 0 ∧ 0 < z) := by
  have e : (0 : Int32).toInt = 0 := rfl
  rw [Int32.lt_iff_toInt_lt, Int32.lt_iff_toInt_lt, ← Int32.toInt_inj, e]; omega

theorem own_h_EQUAL (ub : Int32) : own_f1 ub (0 : Int32) (1 : Int32) (0 : Int32) = if ub = (0 : Int32) then (1 : Int32) else (0 : Int32) := by
  unfold own_f1
  rcases own_tri ub with ⟨t1, t2, t3⟩ | ⟨t1, t2, t3⟩ | ⟨t1, t2, t3⟩ <;> simp [t1, t2, t3]

theorem own_h_NOT_EQUAL (ub : Int32) : own_f1 ub (1 : Int32) (0 : Int32) (1 : Int32) = if ub = (0 : Int32) then (0 : Int32) else (1 : Int32) := by
  unfold own_f1
  rcases own_tri ub with ⟨t1, t2, t3⟩ | ⟨t1, t2, t3⟩ | ⟨t1, t2, t3⟩ <;> simp [t1, t2, t3]

theorem own_h_LESS (ub : Int32) : own_f1 ub (1 : Int32) (0 : Int32) (0 : Int32) = if ub < (0 : Int32) then (1 : Int32) else (0 : Int32) := by
  unfold own_f1
  rcases own_tri ub with ⟨t1, t2, t3⟩ | ⟨t1, t2, t3⟩ | ⟨t1, t2, t3⟩ <;> simp [t1, t2, t3]

theorem own_h_LESS_OR_EQUAL (ub : Int32) : own_f1 ub (1 : Int32) (1 : Int32) (0 : Int32) = if (0 : Int32) < ub then (0 : Int32) else (1 : Int32) := by
  unfold own_f1
  rcases own_tri ub with ⟨t1, t2, t3⟩ | ⟨t1, t2, t3⟩ | ⟨t1, t2, t3⟩ <;> simp [t1, t2, t3]

theorem own_h_GREATER (ub : Int32) : own_f1 ub (0 : Int32) (0 : Int32) (1 : Int32) = if (0 : Int32) < ub then (1 : Int32) else (0 : Int32) := by
  unfold own_f1
  rcases own_tri ub with ⟨t1, t2, t3⟩ | ⟨t1, t2, t3⟩ | ⟨t1, t2, t3⟩ <;> simp [t1, t2, t3]

theorem own_h_GREATER_OR_EQUAL (ub : Int32) : own_f1 ub (0 : Int32) (1 : Int32) (1 : Int32) = if ub < (0 : Int32) then (0 : Int32) else (1 : Int32) := by
  unfold own_f1
  rcases own_tri ub with ⟨t1, t2, t3⟩ | ⟨t1, t2, t3⟩ | ⟨t1, t2, t3⟩ <;> simp [t1, t2, t3]

def own_Q0 (n0 : Nat) (v : Option Value) (h : Heap) (L : List Loc) : Prop := v = some (.int 1) ∧ Fr n0 L

theorem pd_0__I_Z : parseMethodDescriptor "(I)Z" = some ⟨[.int], some .boolean⟩ := by decide +kernel
theorem pn_rm0 : plainFor (⟨"com/example/convene/convene/engine/ComparisonOperatorHoldsPinLaw", "law", "(II)Z"⟩ : MethodName) = true := by first | exact plainFor_of_name (by first | (simp [plainName, overriddenIn]; done) | decide +kernel) | decide +kernel
theorem ef_rm0 (m : MethodId) (x0 : Int32) (x1 : Int32) : entryFrame m #[(.int x0), (.int x1)] maxLocals = mkF m 0 #[.val (.int x0), .val (.int x1), .unset, .unset, .unset] [] := by first | (simp [entryFrame, mkF, argsToLocals, Value.category, maxLocals]; done) | rfl
set_option maxRecDepth 65536 in
set_option maxHeartbeats 40000000 in
theorem rm0 (l : Launch) (Z : State) (a0 : Array Value) (hw : ∀ d ∈ tables_1, d.before a0 Z = true) (ws : List Jvm.Cond) (a_EQUAL a_LESS a_GREATER a_NOT_EQUAL a_GREATER_OR_EQUAL a_LESS_OR_EQUAL : Addr) (ua ub : Int32) (h0 : Heap) (n0 : Nat) (Z0 : n0 ≤ h0.size) (HW : own_W Z h0 a_EQUAL a_LESS a_GREATER a_NOT_EQUAL a_GREATER_OR_EQUAL a_LESS_OR_EQUAL) :
    MetFree l x (head1 (Jvm.Cond.code x code maxLocals ret :: ws) room_1) (fun a U => a = #[(.int ua), (.int ub)] ∧ Z.Warmed39 U.vm ∧ U.heap = h0) (fun _ _ _ _ _ => True) (fun _ U o U' => ∃ v L, o = .returned v ∧ (own_Q0 n0) v U'.heap L ∧ FrameEnd U o U' L 0 0) := by
  refine MetFree.of_bodySF pn_rm0 hisR ?_
  intro p e s m args below meth c s₁ Bd hml0 hP hK
  obtain ⟨rfl, hZ, hh⟩ := hP
  have hx := Bd.exec
  have hby := Bd.bytes
  have hml : c.maxLocals = 5 := hml0
  have hown : s.vm.findClass "com/example/convene/convene/engine/ComparisonOperatorHoldsPinLaw" = some m.cls := findClass_of_methodNamed Bd.named
  have hnm := (name_of_methodNamed Bd.named Bd.method).1
  have hrt := Bd.returns
  have hlk := Bd.notSynchronized
  have X0 : Stand p l e room_1 s m #[(.int ua), (.int ub)] below meth c s₁ [] 0 0 := Stand.of_body Bd
  have e0 : s₁.heap = h0 := by rw [← hh, Bd.state]; rfl
  have N0 := Fr.nil n0
  obtain ⟨S_EQUAL, E_EQUAL, S_LESS, E_LESS, S_GREATER, E_GREATER, S_NOT_EQUAL, E_NOT_EQUAL, S_GREATER_OR_EQUAL, E_GREATER_OR_EQUAL, S_LESS_OR_EQUAL, E_LESS_OR_EQUAL, F_EQUAL_whenGreater, F_LESS_whenGreater, F_LESS_whenLess, F_GREATER_whenLess, F_NOT_EQUAL_whenGreater, F_EQUAL_whenLess, F_GREATER_OR_EQUAL_whenGreater, F_LESS_OR_EQUAL_whenGreater, F_LESS_OR_EQUAL_whenLess, F_GREATER_whenGreater, F_NOT_EQUAL_whenLess, F_GREATER_OR_EQUAL_whenLess, F_LESS_OR_EQUAL_whenEqual, F_EQUAL_whenEqual, F_LESS_whenEqual, F_NOT_EQUAL_whenEqual, F_GREATER_whenEqual, F_GREATER_OR_EQUAL_whenEqual⟩ := HW
  refine own_done (B := s₁.setTop (mkF m 0 #[.val (.int ua), .val (.int ub), .unset, .unset, .unset] [])) (fun t k => castTop (ef_rm0 m ua ub) k) ?_
  refine own_by (B := s₁.setTop (mkF m 1 #[.val (.int ua), .val (.int ub), .unset, .unset, .unset] [(.int ua)])) (fun _ k => XS.iloadN X0.here hx rfl (hb hby at_0) rfl  k) ?_
  refine own_by (B := s₁.setTop (mkF m 3 #[.val (.int ua), .val (.int ub), .unset, .unset, .unset] [(.int (2147483647 : Int32)), (.int ua)])) (fun _ k => X0.ldcI (g := (mkF m 1 #[.val (.int ua), .val (.int ub), .unset, .unset, .unset] [(.int ua)])) hx hown (mvT hZ (hw _ (List.mem_of_getElem? (i := 0) rfl))) rfl (hb hby at_1) k) ?_
  refine own_by (B := s₁.setTop (mkF m 4 #[.val (.int ua), .val (.int ub), .unset, .unset, .unset] [(.int (ua &&& (2147483647 : Int32)))])) (fun _ k => XS.iand X0.here hx rfl (hb hby at_3) rfl k) ?_
  refine own_by (B := s₁.setTop (mkF m 6 #[.val (.int ua), .val (.int ub), .unset, .unset, .unset] [(.int (6 : Int32)), (.int (ua &&& (2147483647 : Int32)))])) (fun _ k => XS.bipush X0.here hx rfl (hb hby at_4) k) ?_
  refine own_by (B := s₁.setTop (mkF m 7 #[.val (.int ua), .val (.int ub), .unset, .unset, .unset] [(.int ((ua &&& (2147483647 : Int32)) % (6 : Int32)))])) (fun _ k => iremM (g := (mkF m 6 #[.val (.int ua), .val (.int ub), .unset, .unset, .unset] [(.int (6 : Int32)), (.int (ua &&& (2147483647 : Int32)))])) X0 hx rfl (hb hby at_6) rfl (by decide) k) ?_
  refine own_by (B := s₁.setTop (mkF m 8 #[.val (.int ua), .val (.int ub), .val (.int ((ua &&& (2147483647 : Int32)) % (6 : Int32))), .unset, .unset] [])) (fun _ k => XS.istoreN X0.here hx rfl (hb hby at_7) rfl (l' := #[.val (.int ua), .val (.int ub), .val (.int ((ua &&& (2147483647 : Int32)) % (6 : Int32))), .unset, .unset]) rfl k) ?_
  refine own_by (B := s₁.setTop (mkF m 9 #[.val (.int ua), .val (.int ub), .val (.int ((ua &&& (2147483647 : Int32)) % (6 : Int32))), .unset, .unset] [(.int ((ua &&& (2147483647 : Int32)) % (6 : Int32)))])) (fun _ k => XS.iloadN X0.here hx rfl (hb hby at_8) rfl  k) ?_
  by_cases hc1 : ((ua &&& (2147483647 : Int32)) % (6 : Int32)) = (0 : Int32)
  · refine own_by (B := s₁.setTop (mkF m 12 #[.val (.int ua), .val (.int ub), .val (.int ((ua &&& (2147483647 : Int32)) % (6 : Int32))), .unset, .unset] [])) (fun _ k => XS.ifNo X0.here hx rfl (hb hby at_9) rfl (XT.i0_ne_f hc1) k) ?_
    obtain ⟨T2, X2, e2, st2⟩ := getS2 X0 hx hZ hown (host := "") (Or.inl (hw _ (List.mem_of_getElem? (i := 1) rfl))) Via.refl e0 S_EQUAL (g := (mkF m 12 #[.val (.int ua), .val (.int ub), .val (.int ((ua &&& (2147483647 : Int32)) % (6 : Int32))), .unset, .unset] [])) rfl (hb hby at_12)
    refine own_by (B := T2.setTop (mkF m 15 #[.val (.int ua), .val (.int ub), .val (.int ((ua &&& (2147483647 : Int32)) % (6 : Int32))), .unset, .unset] [(.ref a_EQUAL)])) st2 ?_
    refine own_by (B := T2.setTop (mkF m 16 #[.val (.int ua), .val (.int ub), .val (.int ((ua &&& (2147483647 : Int32)) % (6 : Int32))), .val (.ref a_EQUAL), .unset] [])) (fun _ k => XS.astoreN X2.here hx rfl (hb hby at_15) rfl rfl (l' := #[.val (.int ua), .val (.int ub), .val (.int ((ua &&& (2147483647 : Int32)) % (6 : Int32))), .val (.ref a_EQUAL), .unset]) rfl k) ?_
    refine own_by (B := T2.setTop (mkF m 17 #[.val (.int ua), .val (.int ub), .val (.int ((ua &&& (2147483647 : Int32)) % (6 : Int32))), .val (.ref a_EQUAL), .unset] [(.int ub)])) (fun _ k => XS.iloadN X2.here hx rfl (hb hby at_16) rfl  k) ?_
    by_cases hc3 : ub = (0 : Int32)
    · refine own_by (B := T2.setTop (mkF m 20 #[.val (.int ua), .val (.int ub), .val (.int ((ua &&& (2147483647 : Int32)) % (6 : Int32))), .val (.ref a_EQUAL), .unset] [])) (fun _ k => XS.ifNo X2.here hx rfl (hb hby at_17) rfl (XT.i0_ne_f hc3) k) ?_
      refine own_by (B := T2.setTop (mkF m 21 #[.val (.int ua), .val (.int ub), .val (.int ((ua &&& (2147483647 : Int32)) % (6 : Int32))), .val (.ref a_EQUAL), .unset] [(.int (1 : Int32))])) (fun _ k => XS.iconst X2.here hx rfl (hb hby at_20) k) ?_
      refine own_by (B := T2.setTop (mkF m 25 #[.val (.int ua), .val (.int ub), .val (.int ((ua &&& (2147483647 : Int32)) % (6 : Int32))), .val (.ref a_EQUAL), .unset] [(.int (1 : Int32))])) (fun _ k => XS.goto X2.here hx rfl (pc0 := 21) (pc' := 25) rfl (hb hby at_21) (by decide) (by decide) k) ?_
      refine own_by (B := T2.setTop (mkF m 27 #[.val (.int ua), .val (.int ub), .val (.int ((ua &&& (2147483647 : Int32)) % (6 : Int32))), .val (.ref a_EQUAL), .val (.int (1 : Int32))] [])) (fun _ k => XS.istore X2.here hx rfl (hb hby at_25) rfl (l' := #[.val (.int ua), .val (.int ub), .val (.int ((ua &&& (2147483647 : Int32)) % (6 : Int32))), .val (.ref a_EQUAL), .val (.int (1 : Int32))]) rfl k) ?_
      refine own_by (B := T2.setTop (mkF m 137 #[.val (.int ua), .val (.int ub), .val (.int ((ua &&& (2147483647 : Int32)) % (6 : Int32))), .val (.ref a_EQUAL), .val (.int (1 : Int32))] [])) (fun _ k => XS.goto X2.here hx rfl (pc0 := 27) (pc' := 137) rfl (hb hby at_27) (by decide) (by decide) k) ?_
      refine own_by (B := T2.setTop (mkF m 138 #[.val (.int ua), .val (.int ub), .val (.int ((ua &&& (2147483647 : Int32)) % (6 : Int32))), .val (.ref a_EQUAL), .val (.int (1 : Int32))] [(.ref a_EQUAL)])) (fun _ k => XS.aloadN X2.here hx rfl (hb hby at_137) rfl rfl  k) ?_
      refine own_by (B := T2.setTop (mkF m 139 #[.val (.int ua), .val (.int ub), .val (.int ((ua &&& (2147483647 : Int32)) % (6 : Int32))), .val (.ref a_EQUAL), .val (.int (1 : Int32))] [(.int ub), (.ref a_EQUAL)])) (fun _ k => XS.iloadN X2.here hx rfl (hb hby at_138) rfl  k) ?_
      obtain ⟨cq4, kq4, qa4, qb4, qc4⟩ := isOf hZ e2 E_EQUAL
      obtain ⟨_, _, ⟨T4, L4, k4, n4⟩, -, X4, ⟨Lc4, hQ4, l4, y4, z4⟩, st4⟩ := X2.virtualBack hx (y := (⟨"com/example/convene/convene/engine/ComparisonOperator", "holds", "(I)Z"⟩ : MethodName)) (z := (⟨"com/example/convene/convene/engine/ComparisonOperator", "holds", "(I)Z"⟩ : MethodName)) hown (mvT hZ (hw _ (List.mem_of_getElem? (i := 4) rfl))) (mvT hZ (hw _ (List.mem_of_getElem? (i := 5) rfl))) (notFace_of_selects (args := #[]) (mvT hZ (hw _ (List.mem_of_getElem? (i := 7) rfl)))) (mvT hZ (hw _ (List.mem_of_getElem? (i := 7) rfl))) (mvT hZ (hw _ (List.mem_of_getElem? (i := 6) rfl))) (by decide) (backOf (W := 0) (rm1 l Z a0 hw [] a_EQUAL ub (0 : Int32) (1 : Int32) (0 : Int32) h0 n0 Z0 F_EQUAL_whenLess rfl F_EQUAL_whenEqual rfl F_EQUAL_whenGreater rfl) hZ (hw _ (List.mem_of_getElem? (i := 8) rfl)) (hw _ (List.mem_of_getElem? (i := 2) rfl)) (by decide) (by decide)) qa4 qc4 (g := (mkF m 139 #[.val (.int ua), .val (.int ub), .val (.int ((ua &&& (2147483647 : Int32)) % (6 : Int32))), .val (.ref a_EQUAL), .val (.int (1 : Int32))] [(.int ub), (.ref a_EQUAL)])) rfl (by rw [hml]; rfl) (Steps.refl _) (argsL := [(.int ub)]) (rest := []) (lenOf pd_0__I_Z rfl) rfl (by show 2 * 0 + _ ≤ _; exact Nat.le_of_eq rfl) (hb hby at_139) (fun _ _ => ⟨rfl, e2, (by decide : 0 + 0 ≤ _), (by decide : 0 + 0 ≤ _)⟩)
      dsimp only [Pt.U, Pt.locs, Pt.cells, Pt.slots] at X4 l4 y4 z4 st4 hQ4
      subst l4 y4 z4
      obtain ⟨rfl, N4, e4⟩ := hQ4
      refine own_by (B := T4.setTop (mkF m 142 #[.val (.int ua), .val (.int ub), .val (.int ((ua &&& (2147483647 : Int32)) % (6 : Int32))), .val (.ref a_EQUAL), .val (.int (1 : Int32))] [(.int (own_f1 ub (0 : Int32) (1 : Int32) (0 : Int32)))])) (fun _ k => st4.trans k) ?_
      have M4 := Fr.app N0 N4
      rw [own_h_EQUAL, if_pos hc3]
      refine own_by (B := T4.setTop (mkF m 144 #[.val (.int ua), .val (.int ub), .val (.int ((ua &&& (2147483647 : Int32)) % (6 : Int32))), .val (.ref a_EQUAL), .val (.int (1 : Int32))] [(.int (1 : Int32)), (.int (1 : Int32))])) (fun _ k => XS.iload X4.here hx rfl (hb hby at_142) rfl  k) ?_
      refine own_by (B := T4.setTop (mkF m 147 #[.val (.int ua), .val (.int ub), .val (.int ((ua &&& (2147483647 : Int32)) % (6 : Int32))), .val (.ref a_EQUAL), .val (.int (1 : Int32))] [])) (fun _ k => XS.icmpNo X4.here hx rfl (hb hby at_144) rfl (XT.ii_ne_f (by decide)) k) ?_
      refine own_by (B := T4.setTop (mkF m 148 #[.val (.int ua), .val (.int ub), .val (.int ((ua &&& (2147483647 : Int32)) % (6 : Int32))), .val (.ref a_EQUAL), .val (.int (1 : Int32))] [(.int (1 : Int32))])) (fun _ k => XS.iconst X4.here hx rfl (hb hby at_147) k) ?_
      refine own_by (B := T4.setTop (mkF m 152 #[.val (.int ua), .val (.int ub), .val (.int ((ua &&& (2147483647 : Int32)) % (6 : Int32))), .val (.ref a_EQUAL), .val (.int (1 : Int32))] [(.int (1 : Int32))])) (fun _ k => XS.goto X4.here hx rfl (pc0 := 148) (pc' := 152) rfl (hb hby at_148) (by decide) (by decide) k) ?_
      exact own_retZ X4 hx hrt hlk rfl (hb hby at_152) (by decide) (by decide) ⟨rfl, M4⟩
    · refine own_by (B := T2.setTop (mkF m 24 #[.val (.int ua), .val (.int ub), .val (.int ((ua &&& (2147483647 : Int32)) % (6 : Int32))), .val (.ref a_EQUAL), .unset] [])) (fun _ k => XS.ifYes X2.here hx rfl (pc0 := 17) (pc' := 24) rfl (hb hby at_17) rfl (XT.i0_ne_t hc3) (by decide) (by decide) k) ?_
      refine own_by (B := T2.setTop (mkF m 25 #[.val (.int ua), .val (.int ub), .val (.int ((ua &&& (2147483647 : Int32)) % (6 : Int32))), .val (.ref a_EQUAL), .unset] [(.int (0 : Int32))])) (fun _ k => XS.iconst X2.here hx rfl (hb hby at_24) k) ?_
      refine own_by (B := T2.setTop (mkF m 27 #[.val (.int ua), .val (.int ub), .val (.int ((ua &&& (2147483647 : Int32)) % (6 : Int32))), .val (.ref a_EQUAL), .val (.int (0 : Int32))] [])) (fun _ k => XS.istore X2.here hx rfl (hb hby at_25) rfl (l' := #[.val (.int ua), .val (.int ub), .val (.int ((ua &&& (2147483647 : Int32)) % (6 : Int32))), .val (.ref a_EQUAL), .val (.int (0 : Int32))]) rfl k) ?_
      refine own_by (B := T2.setTop (mkF m 137 #[.val (.int ua), .val (.int ub), .val (.int ((ua &&& (2147483647 : Int32)) % (6 : Int32))), .val (.ref a_EQUAL), .val (.int (0 : Int32))] [])) (fun _ k => XS.goto X2.here hx rfl (pc0 := 27) (pc' := 137) rfl (hb hby at_27) (by decide) (by decide) k) ?_
      refine own_by (B := T2.setTop (mkF m 138 #[.val (.int ua), .val (.int ub), .val (.int ((ua &&& (2147483647 : Int32)) % (6 : Int32))), .val (.ref a_EQUAL), .val (.int (0 : Int32))] [(.ref a_EQUAL)])) (fun _ k => XS.aloadN X2.here hx rfl (hb hby at_137) rfl rfl  k) ?_
      refine own_by (B := T2.setTop (mkF m 139 #[.val (.int ua), .val (.int ub), .val (.int ((ua &&& (2147483647 : Int32)) % (6 : Int32))), .val (.ref a_EQUAL), .val (.int (0 : Int32))] [(.int ub), (.ref a_EQUAL)])) (fun _ k => XS.iloadN X2.here hx rfl (hb hby at_138) rfl  k) ?_
      obtain ⟨cq5, kq5, qa5, qb5, qc5⟩ := isOf hZ e2 E_EQUAL
      obtain ⟨_, _, ⟨T5, L5, k5, n5⟩, -, X5, ⟨Lc5, hQ5, l5, y5, z5⟩, st5⟩ := X2.virtualBack hx (y := (⟨"com/example/convene/convene/engine/ComparisonOperator", "holds", "(I)Z"⟩ : MethodName)) (z := (⟨"com/example/convene/convene/engine/ComparisonOperator", "holds", "(I)Z"⟩ : MethodName)) hown (mvT hZ (hw _ (List.mem_of_getElem? (i := 4) rfl))) (mvT hZ (hw _ (List.mem_of_getElem? (i := 5) rfl))) (notFace_of_selects (args := #[]) (mvT hZ (hw _ (List.mem_of_getElem? (i := 7) rfl)))) (mvT hZ (hw _ (List.mem_of_getElem? (i := 7) rfl))) (mvT hZ (hw _ (List.mem_of_getElem? (i := 6) rfl))) (by decide) (backOf (W := 0) (rm1 l Z a0 hw [] a_EQUAL ub (0 : Int32) (1 : Int32) (0 : Int32) h0 n0 Z0 F_EQUAL_whenLess rfl F_EQUAL_whenEqual rfl F_EQUAL_whenGreater rfl) hZ (hw _ (List.mem_of_getElem? (i := 8) rfl)) (hw _ (List.mem_of_getElem? (i := 2) rfl)) (by decide) (by decide)) qa5 qc5 (g := (mkF m 139 #[.val (.int ua), .val (.int ub), .val (.int ((ua &&& (2147483647 : Int32)) % (6 : Int32))), .val (.ref a_EQUAL), .val (.int (0 : Int32))] [(.int ub), (.ref a_EQUAL)])) rfl (by rw [hml]; rfl) (Steps.refl _) (argsL := [(.int ub)]) (rest := []) (lenOf pd_0__I_Z rfl) rfl (by show 2 * 0 + _ ≤ _; exact Nat.le_of_eq rfl) (hb hby at_139) (fun _ _ => ⟨rfl, e2, (by decide : 0 + 0 ≤ _), (by decide : 0 + 0 ≤ _)⟩)
      dsimp only [Pt.U, Pt.locs, Pt.cells, Pt.slots] at X5 l5 y5 z5 st5 hQ5
      subst l5 y5 z5
      obtain ⟨rfl, N5, e5⟩ := hQ5
      refine own_by (B := T5.setTop (mkF m 142 #[.val (.int ua), .val (.int ub), .val (.int ((ua &&& (2147483647 : Int32)) % (6 : Int32))), .val (.ref a_EQUAL), .val (.int (0 : Int32))] [(.int (own_f1 ub (0 : Int32) (1 : Int32) (0 : Int32)))])) (fun _ k => st5.trans k) ?_
      have M5 := Fr.app N0 N5
      rw [own_h_EQUAL, if_neg hc3]
      refine own_by (B := T5.setTop (mkF m 144 #[.val (.int ua), .val (.int ub), .val (.int ((ua &&& (2147483647 : Int32)) % (6 : Int32))), .val (.ref a_EQUAL), .val (.int (0 : Int32))] [(.int (0 : Int32)), (.int (0 : Int32))])) (fun _ k => XS.iload X5.here hx rfl (hb hby at_142) rfl  k) ?_
      refine own_by (B := T5.setTop (mkF m 147 #[.val (.int ua), .val (.int ub), .val (.int ((ua &&& (2147483647 : Int32)) % (6 : Int32))), .val (.ref a_EQUAL), .val (.int (0 : Int32))] [])) (fun _ k => XS.icmpNo X5.here hx rfl (hb hby at_144) rfl (XT.ii_ne_f (by decide)) k) ?_
      refine own_by (B := T5.setTop (mkF m 148 #[.val (.int ua), .val (.int ub), .val (.int ((ua &&& (2147483647 : Int32)) % (6 : Int32))), .val (.ref a_EQUAL), .val (.int (0 : Int32))] [(.int (1 : Int32))])) (fun _ k => XS.iconst X5.here hx rfl (hb hby at_147) k) ?_
      refine own_by (B := T5.setTop (mkF m 152 #[.val (.int ua), .val (.int ub), .val (.int ((ua &&& (2147483647 : Int32)) % (6 : Int32))), .val (.ref a_EQUAL), .val (.int (0 : Int32))] [(.int (1 : Int32))])) (fun _ k => XS.goto X5.here hx rfl (pc0 := 148) (pc' := 152) rfl (hb hby at_148) (by decide) (by decide) k) ?_
      exact own_retZ X5 hx hrt hlk rfl (hb hby at_152) (by decide) (by decide) ⟨rfl, M5⟩
  · refine own_by (B := s₁.setTop (mkF m 30 #[.val (.int ua), .val (.int ub), .val (.int ((ua &&& (2147483647 : Int32)) % (6 : Int32))), .unset, .unset] [])) (fun _ k => XS.ifYes X0.here hx rfl (pc0 := 9) (pc' := 30) rfl (hb hby at_9) rfl (XT.i0_ne_t hc1) (by decide) (by decide) k) ?_
    refine own_by (B := s₁.setTop (mkF m 31 #[.val (.int ua), .val (.int ub), .val (.int ((ua &&& (2147483647 : Int32)) % (6 : Int32))), .unset, .unset] [(.int ((ua &&& (2147483647 : Int32)) % (6 : Int32)))])) (fun _ k => XS.iloadN X0.here hx rfl (hb hby at_30) rfl  k) ?_
    refine own_by (B := s₁.setTop (mkF m 32 #[.val (.int ua), .val (.int ub), .val (.int ((ua &&& (2147483647 : Int32)) % (6 : Int32))), .unset, .unset] [(.int (1 : Int32)), (.int ((ua &&& (2147483647 : Int32)) % (6 : Int32)))])) (fun _ k => XS.iconst X0.here hx rfl (hb hby at_31) k) ?_
    by_cases hc6 : ((ua &&& (2147483647 : Int32)) % (6 : Int32)) = (1 : Int32)
    · refine own_by (B := s₁.setTop (mkF m 35 #[.val (.int ua), .val (.int ub), .val (.int ((ua &&& (2147483647 : Int32)) % (6 : Int32))), .unset, .unset] [])) (fun _ k => XS.icmpNo X0.here hx rfl (hb hby at_32) rfl (XT.ii_ne_f hc6) k) ?_
      obtain ⟨T7, X7, e7, st7⟩ := getS2 X0 hx hZ hown (host := "") (Or.inl (hw _ (List.mem_of_getElem? (i := 17) rfl))) Via.refl e0 S_NOT_EQUAL (g := (mkF m 35 #[.val (.int ua), .val (.int ub), .val (.int ((ua &&& (2147483647 : Int32)) % (6 : Int32))), .unset, .unset] [])) rfl (hb hby at_35)
      refine own_by (B := T7.setTop (mkF m 38 #[.val (.int ua), .val (.int ub), .val (.int ((ua &&& (2147483647 : Int32)) % (6 : Int32))), .unset, .unset] [(.ref a_NOT_EQUAL)])) st7 ?_
      refine own_by (B := T7.setTop (mkF m 39 #[.val (.int ua), .val (.int ub), .val (.int ((ua &&& (2147483647 : Int32)) % (6 : Int32))), .val (.ref a_NOT_EQUAL), .unset] [])) (fun _ k => XS.astoreN X7.here hx rfl (hb hby at_38) rfl rfl (l' := #[.val (.int ua), .val (.int ub), .val (.int ((ua &&& (2147483647 : Int32)) % (6 : Int32))), .val (.ref a_NOT_EQUAL), .unset]) rfl k) ?_
      refine own_by (B := T7.setTop (mkF m 40 #[.val (.int ua), .val (.int ub), .val (.int ((ua &&& (2147483647 : Int32)) % (6 : Int32))), .val (.ref a_NOT_EQUAL), .unset] [(.int ub)])) (fun _ k => XS.iloadN X7.here hx rfl (hb hby at_39) rfl  k) ?_
      by_cases hc8 : ub = (0 : Int32)
      · refine own_by (B := T7.setTop (mkF m 47 #[.val (.int ua), .val (.int ub), .val (.int ((ua &&& (2147483647 : Int32)) % (6 : Int32))), .val (.ref a_NOT_EQUAL), .unset] [])) (fun _ k => XS.ifYes X7.here hx rfl (pc0 := 40) (pc' := 47) rfl (hb hby at_40) rfl (XT.i0_eq_t hc8) (by decide) (by decide) k) ?_
        refine own_by (B := T7.setTop (mkF m 48 #[.val (.int ua), .val (.int ub), .val (.int ((ua &&& (2147483647 : Int32)) % (6 : Int32))), .val (.ref a_NOT_EQUAL), .unset] [(.int (0 : Int32))])) (fun _ k => XS.iconst X7.here hx rfl (hb hby at_47) k) ?_
        refine own_by (B := T7.setTop (mkF m 50 #[.val (.int ua), .val (.int ub), .val (.int ((ua &&& (2147483647 : Int32)) % (6 : Int32))), .val (.ref a_NOT_EQUAL), .val (.int (0 : Int32))] [])) (fun _ k => XS.istore X7.here hx rfl (hb hby at_48) rfl (l' := #[.val (.int ua), .val (.int ub), .val (.int ((ua &&& (2147483647 : Int32)) % (6 : Int32))), .val (.ref a_NOT_EQUAL), .val (.int (0 : Int32))]) rfl k) ?_
        refine own_by (B := T7.setTop (mkF m 137 #[.val (.int ua), .val (.int ub), .val (.int ((ua &&& (2147483647 : Int32)) % (6 : Int32))), .val (.ref a_NOT_EQUAL), .val (.int (0 : Int32))] [])) (fun _ k => XS.goto X7.here hx rfl (pc0 := 50) (pc' := 137) rfl (hb hby at_50) (by decide) (by decide) k) ?_
        refine own_by (B := T7.setTop (mkF m 138 #[.val (.int ua), .val (.int ub), .val (.int ((ua &&& (2147483647 : Int32)) % (6 : Int32))), .val (.ref a_NOT_EQUAL), .val (.int (0 : Int32))] [(.ref a_NOT_EQUAL)])) (fun _ k => XS.aloadN X7.here hx rfl (hb hby at_137) rfl rfl  k) ?_
        refine own_by (B := T7.setTop (mkF m 139 #[.val (.int ua), .val (.int ub), .val (.int ((ua &&& (2147483647 : Int32)) % (6 : Int32))), .val (.ref a_NOT_EQUAL), .val (.int (0 : Int32))] [(.int ub), (.ref a_NOT_EQUAL)])) (fun _ k => XS.iloadN X7.here hx rfl (hb hby at_138) rfl  k) ?_
        obtain ⟨cq9, kq9, qa9, qb9, qc9⟩ := isOf hZ e7 E_NOT_EQUAL
        obtain ⟨_, _, ⟨T9, L9, k9, n9⟩, -, X9, ⟨Lc9, hQ9, l9, y9, z9⟩, st9⟩ := X7.virtualBack hx (y := (⟨"com/example/convene/convene/engine/ComparisonOperator", "holds", "(I)Z"⟩ : MethodName)) (z := (⟨"com/example/convene/convene/engine/ComparisonOperator", "holds", "(I)Z"⟩ : MethodName)) hown (mvT hZ (hw _ (List.mem_of_getElem? (i := 4) rfl))) (mvT hZ (hw _ (List.mem_of_getElem? (i := 5) rfl))) (notFace_of_selects (args := #[]) (mvT hZ (hw _ (List.mem_of_getElem? (i := 7) rfl)))) (mvT hZ (hw _ (List.mem_of_getElem? (i := 7) rfl))) (mvT hZ (hw _ (List.mem_of_getElem? (i := 6) rfl))) (by decide) (backOf (W := 0) (rm1 l Z a0 hw [] a_NOT_EQUAL ub (1 : Int32) (0 : Int32) (1 : Int32) h0 n0 Z0 F_NOT_EQUAL_whenLess rfl F_NOT_EQUAL_whenEqual rfl F_NOT_EQUAL_whenGreater rfl) hZ (hw _ (List.mem_of_getElem? (i := 8) rfl)) (hw _ (List.mem_of_getElem? (i := 2) rfl)) (by decide) (by decide)) qa9 qc9 (g := (mkF m 139 #[.val (.int ua), .val (.int ub), .val (.int ((ua &&& (2147483647 : Int32)) % (6 : Int32))), .val (.ref a_NOT_EQUAL), .val (.int (0 : Int32))] [(.int ub), (.ref a_NOT_EQUAL)])) rfl (by rw [hml]; rfl) (Steps.refl _) (argsL := [(.int ub)]) (rest := []) (lenOf pd_0__I_Z rfl) rfl (by show 2 * 0 + _ ≤ _; exact Nat.le_of_eq rfl) (hb hby at_139) (fun _ _ => ⟨rfl, e7, (by decide : 0 + 0 ≤ _), (by decide : 0 + 0 ≤ _)⟩)
        dsimp only [Pt.U, Pt.locs, Pt.cells, Pt.slots] at X9 l9 y9 z9 st9 hQ9
        subst l9 y9 z9
        obtain ⟨rfl, N9, e9⟩ := hQ9
        refine own_by (B := T9.setTop (mkF m 142 #[.val (.int ua), .val (.int ub), .val (.int ((ua &&& (2147483647 : Int32)) % (6 : Int32))), .val (.ref a_NOT_EQUAL), .val (.int (0 : Int32))] [(.int (own_f1 ub (1 : Int32) (0 : Int32) (1 : Int32)))])) (fun _ k => st9.trans k) ?_
        have M9 := Fr.app N0 N9
        rw [own_h_NOT_EQUAL, if_pos hc8]
        refine own_by (B := T9.setTop (mkF m 144 #[.val (.int ua), .val (.int ub), .val (.int ((ua &&& (2147483647 : Int32)) % (6 : Int32))), .val (.ref a_NOT_EQUAL), .val (.int (0 : Int32))] [(.int (0 : Int32)), (.int (0 : Int32))])) (fun _ k => XS.iload X9.here hx rfl (hb hby at_142) rfl  k) ?_
        refine own_by (B := T9.setTop (mkF m 147 #[.val (.int ua), .val (.int ub), .val (.int ((ua &&& (2147483647 : Int32)) % (6 : Int32))), .val (.ref a_NOT_EQUAL), .val (.int (0 : Int32))] [])) (fun _ k => XS.icmpNo X9.here hx rfl (hb hby at_144) rfl (XT.ii_ne_f (by decide)) k) ?_
        refine own_by (B := T9.setTop (mkF m 148 #[.val (.int ua), .val (.int ub), .val (.int ((ua &&& (2147483647 : Int32)) % (6 : Int32))), .val (.ref a_NOT_EQUAL), .val (.int (0 : Int32))] [(.int (1 : Int32))])) (fun _ k => XS.iconst X9.here hx rfl (hb hby at_147) k) ?_
        refine own_by (B := T9.setTop (mkF m 152 #[.val (.int ua), .val (.int ub), .val (.int ((ua &&& (2147483647 : Int32)) % (6 : Int32))), .val (.ref a_NOT_EQUAL), .val (.int (0 : Int32))] [(.int (1 : Int32))])) (fun _ k => XS.goto X9.here hx rfl (pc0 := 148) (pc' := 152) rfl (hb hby at_148) (by decide) (by decide) k) ?_
        exact own_retZ X9 hx hrt hlk rfl (hb hby at_152) (by decide) (by decide) ⟨rfl, M9⟩
      · refine own_by (B := T7.setTop (mkF m 43 #[.val (.int ua), .val (.int ub), .val (.int ((ua &&& (2147483647 : Int32)) % (6 : Int32))), .val (.ref a_NOT_EQUAL), .unset] [])) (fun _ k => XS.ifNo X7.here hx rfl (hb hby at_40) rfl (XT.i0_eq_f hc8) k) ?_
        refine own_by (B := T7.setTop (mkF m 44 #[.val (.int ua), .val (.int ub), .val (.int ((ua &&& (2147483647 : Int32)) % (6 : Int32))), .val (.ref a_NOT_EQUAL), .unset] [(.int (1 : Int32))])) (fun _ k => XS.iconst X7.here hx rfl (hb hby at_43) k) ?_
        refine own_by (B := T7.setTop (mkF m 48 #[.val (.int ua), .val (.int ub), .val (.int ((ua &&& (2147483647 : Int32)) % (6 : Int32))), .val (.ref a_NOT_EQUAL), .unset] [(.int (1 : Int32))])) (fun _ k => XS.goto X7.here hx rfl (pc0 := 44) (pc' := 48) rfl (hb hby at_44) (by decide) (by decide) k) ?_
        refine own_by (B := T7.setTop (mkF m 50 #[.val (.int ua), .val (.int ub), .val (.int ((ua &&& (2147483647 : Int32)) % (6 : Int32))), .val (.ref a_NOT_EQUAL), .val (.int (1 : Int32))] [])) (fun _ k => XS.istore X7.here hx rfl (hb hby at_48) rfl (l' := #[.val (.int ua), .val (.int ub), .val (.int ((ua &&& (2147483647 : Int32)) % (6 : Int32))), .val (.ref a_NOT_EQUAL), .val (.int (1 : Int32))]) rfl k) ?_
        refine own_by (B := T7.setTop (mkF m 137 #[.val (.int ua), .val (.int ub), .val (.int ((ua &&& (2147483647 : Int32)) % (6 : Int32))), .val (.ref a_NOT_EQUAL), .val (.int (1 : Int32))] [])) (fun _ k => XS.goto X7.here hx rfl (pc0 := 50) (pc' := 137) rfl (hb hby at_50) (by decide) (by decide) k) ?_
        refine own_by (B := T7.setTop (mkF m 138 #[.val (.int ua), .val (.int ub), .val (.int ((ua &&& (2147483647 : Int32)) % (6 : Int32))), .val (.ref a_NOT_EQUAL), .val (.int (1 : Int32))] [(.ref a_NOT_EQUAL)])) (fun _ k => XS.aloadN X7.here hx rfl (hb hby at_137) rfl rfl  k) ?_
        refine own_by (B := T7.setTop (mkF m 139 #[.val (.int ua), .val (.int ub), .val (.int ((ua &&& (2147483647 : Int32)) % (6 : Int32))), .val (.ref a_NOT_EQUAL), .val (.int (1 : Int32))] [(.int ub), (.ref a_NOT_EQUAL)])) (fun _ k => XS.iloadN X7.here hx rfl (hb hby at_138) rfl  k) ?_
        obtain ⟨cq10, kq10, qa10, qb10, qc10⟩ := isOf hZ e7 E_NOT_EQUAL
        obtain ⟨_, _, ⟨T10, L10, k10, n10⟩, -, X10, ⟨Lc10, hQ10, l10, y10, z10⟩, st10⟩ := X7.virtualBack hx (y := (⟨"com/example/convene/convene/engine/ComparisonOperator", "holds", "(I)Z"⟩ : MethodName)) (z := (⟨"com/example/convene/convene/engine/ComparisonOperator", "holds", "(I)Z"⟩ : MethodName)) hown (mvT hZ (hw _ (List.mem_of_getElem? (i := 4) rfl))) (mvT hZ (hw _ (List.mem_of_getElem? (i := 5) rfl))) (notFace_of_selects (args := #[]) (mvT hZ (hw _ (List.mem_of_getElem? (i := 7) rfl)))) (mvT hZ (hw _ (List.mem_of_getElem? (i := 7) rfl))) (mvT hZ (hw _ (List.mem_of_getElem? (i := 6) rfl))) (by decide) (backOf (W := 0) (rm1 l Z a0 hw [] a_NOT_EQUAL ub (1 : Int32) (0 : Int32) (1 : Int32) h0 n0 Z0 F_NOT_EQUAL_whenLess rfl F_NOT_EQUAL_whenEqual rfl F_NOT_EQUAL_whenGreater rfl) hZ (hw _ (List.mem_of_getElem? (i := 8) rfl)) (hw _ (List.mem_of_getElem? (i := 2) rfl)) (by decide) (by decide)) qa10 qc10 (g := (mkF m 139 #[.val (.int ua), .val (.int ub), .val (.int ((ua &&& (2147483647 : Int32)) % (6 : Int32))), .val (.ref a_NOT_EQUAL), .val (.int (1 : Int32))] [(.int ub), (.ref a_NOT_EQUAL)])) rfl (by rw [hml]; rfl) (Steps.refl _) (argsL := [(.int ub)]) (rest := []) (lenOf pd_0__I_Z rfl) rfl (by show 2 * 0 + _ ≤ _; exact Nat.le_of_eq rfl) (hb hby at_139) (fun _ _ => ⟨rfl, e7, (by decide : 0 + 0 ≤ _), (by decide : 0 + 0 ≤ _)⟩)
        dsimp only [Pt.U, Pt.locs, Pt.cells, Pt.slots] at X10 l10 y10 z10 st10 hQ10
        subst l10 y10 z10
        obtain ⟨rfl, N10, e10⟩ := hQ10
        refine own_by (B := T10.setTop (mkF m 142 #[.val (.int ua), .val (.int ub), .val (.int ((ua &&& (2147483647 : Int32)) % (6 : Int32))), .val (.ref a_NOT_EQUAL), .val (.int (1 : Int32))] [(.int (own_f1 ub (1 : Int32) (0 : Int32) (1 : Int32)))])) (fun _ k => st10.trans k) ?_
        have M10 := Fr.app N0 N10
        rw [own_h_NOT_EQUAL, if_neg hc8]
        refine own_by (B := T10.setTop (mkF m 144 #[.val (.int ua), .val (.int ub), .val (.int ((ua &&& (2147483647 : Int32)) % (6 : Int32))), .val (.ref a_NOT_EQUAL), .val (.int (1 : Int32))] [(.int (1 : Int32)), (.int (1 : Int32))])) (fun _ k => XS.iload X10.here hx rfl (hb hby at_142) rfl  k) ?_
        refine own_by (B := T10.setTop (mkF m 147 #[.val (.int ua), .val (.int ub), .val (.int ((ua &&& (2147483647 : Int32)) % (6 : Int32))), .val (.ref a_NOT_EQUAL), .val (.int (1 : Int32))] [])) (fun _ k => XS.icmpNo X10.here hx rfl (hb hby at_144) rfl (XT.ii_ne_f (by decide)) k) ?_
        refine own_by (B := T10.setTop (mkF m 148 #[.val (.int ua), .val (.int ub), .val (.int ((ua &&& (2147483647 : Int32)) % (6 : Int32))), .val (.ref a_NOT_EQUAL), .val (.int (1 : Int32))] [(.int (1 : Int32))])) (fun _ k => XS.iconst X10.here hx rfl (hb hby at_147) k) ?_
        refine own_by (B := T10.setTop (mkF m 152 #[.val (.int ua), .val (.int ub), .val (.int ((ua &&& (2147483647 : Int32)) % (6 : Int32))), .val (.ref a_NOT_EQUAL), .val (.int (1 : Int32))] [(.int (1 : Int32))])) (fun _ k => XS.goto X10.here hx rfl (pc0 := 148) (pc' := 152) rfl (hb hby at_148) (by decide) (by decide) k) ?_
        exact own_retZ X10 hx hrt hlk rfl (hb hby at_152) (by decide) (by decide) ⟨rfl, M10⟩
    · refine own_by (B := s₁.setTop (mkF m 53 #[.val (.int ua), .val (.int ub), .val (.int ((ua &&& (2147483647 : Int32)) % (6 : Int32))), .unset, .unset] [])) (fun _ k => XS.icmpYes X0.here hx rfl (pc0 := 32) (pc' := 53) rfl (hb hby at_32) rfl (XT.ii_ne_t hc6) (by decide) (by decide) k) ?_
      refine own_by (B := s₁.setTop (mkF m 54 #[.val (.int ua), .val (.int ub), .val (.int ((ua &&& (2147483647 : Int32)) % (6 : Int32))), .unset, .unset] [(.int ((ua &&& (2147483647 : Int32)) % (6 : Int32)))])) (fun _ k => XS.iloadN X0.here hx rfl (hb hby at_53) rfl  k) ?_
      refine own_by (B := s₁.setTop (mkF m 55 #[.val (.int ua), .val (.int ub), .val (.int ((ua &&& (2147483647 : Int32)) % (6 : Int32))), .unset, .unset] [(.int (2 : Int32)), (.int ((ua &&& (2147483647 : Int32)) % (6 : Int32)))])) (fun _ k => XS.iconst X0.here hx rfl (hb hby at_54) k) ?_
      by_cases hc11 : ((ua &&& (2147483647 : Int32)) % (6 : Int32)) = (2 : Int32)
      · refine own_by (B := s₁.setTop (mkF m 58 #[.val (.int ua), .val (.int ub), .val (.int ((ua &&& (2147483647 : Int32)) % (6 : Int32))), .unset, .unset] [])) (fun _ k => XS.icmpNo X0.here hx rfl (hb hby at_55) rfl (XT.ii_ne_f hc11) k) ?_
        obtain ⟨T12, X12, e12, st12⟩ := getS2 X0 hx hZ hown (host := "") (Or.inl (hw _ (List.mem_of_getElem? (i := 11) rfl))) Via.refl e0 S_LESS (g := (mkF m 58 #[.val (.int ua), .val (.int ub), .val (.int ((ua &&& (2147483647 : Int32)) % (6 : Int32))), .unset, .unset] [])) rfl (hb hby at_58)
        refine own_by (B := T12.setTop (mkF m 61 #[.val (.int ua), .val (.int ub), .val (.int ((ua &&& (2147483647 : Int32)) % (6 : Int32))), .unset, .unset] [(.ref a_LESS)])) st12 ?_
        refine own_by (B := T12.setTop (mkF m 62 #[.val (.int ua), .val (.int ub), .val (.int ((ua &&& (2147483647 : Int32)) % (6 : Int32))), .val (.ref a_LESS), .unset] [])) (fun _ k => XS.astoreN X12.here hx rfl (hb hby at_61) rfl rfl (l' := #[.val (.int ua), .val (.int ub), .val (.int ((ua &&& (2147483647 : Int32)) % (6 : Int32))), .val (.ref a_LESS), .unset]) rfl k) ?_
        refine own_by (B := T12.setTop (mkF m 63 #[.val (.int ua), .val (.int ub), .val (.int ((ua &&& (2147483647 : Int32)) % (6 : Int32))), .val (.ref a_LESS), .unset] [(.int ub)])) (fun _ k => XS.iloadN X12.here hx rfl (hb hby at_62) rfl  k) ?_
        by_cases hc13 : ub < (0 : Int32)
        · refine own_by (B := T12.setTop (mkF m 66 #[.val (.int ua), .val (.int ub), .val (.int ((ua &&& (2147483647 : Int32)) % (6 : Int32))), .val (.ref a_LESS), .unset] [])) (fun _ k => XS.ifNo X12.here hx rfl (hb hby at_63) rfl (XT.i0_ge_f hc13) k) ?_
          refine own_by (B := T12.setTop (mkF m 67 #[.val (.int ua), .val (.int ub), .val (.int ((ua &&& (2147483647 : Int32)) % (6 : Int32))), .val (.ref a_LESS), .unset] [(.int (1 : Int32))])) (fun _ k => XS.iconst X12.here hx rfl (hb hby at_66) k) ?_
          refine own_by (B := T12.setTop (mkF m 71 #[.val (.int ua), .val (.int ub), .val (.int ((ua &&& (2147483647 : Int32)) % (6 : Int32))), .val (.ref a_LESS), .unset] [(.int (1 : Int32))])) (fun _ k => XS.goto X12.here hx rfl (pc0 := 67) (pc' := 71) rfl (hb hby at_67) (by decide) (by decide) k) ?_
          refine own_by (B := T12.setTop (mkF m 73 #[.val (.int ua), .val (.int ub), .val (.int ((ua &&& (2147483647 : Int32)) % (6 : Int32))), .val (.ref a_LESS), .val (.int (1 : Int32))] [])) (fun _ k => XS.istore X12.here hx rfl (hb hby at_71) rfl (l' := #[.val (.int ua), .val (.int ub), .val (.int ((ua &&& (2147483647 : Int32)) % (6 : Int32))), .val (.ref a_LESS), .val (.int (1 : Int32))]) rfl k) ?_
          refine own_by (B := T12.setTop (mkF m 137 #[.val (.int ua), .val (.int ub), .val (.int ((ua &&& (2147483647 : Int32)) % (6 : Int32))), .val (.ref a_LESS), .val (.int (1 : Int32))] [])) (fun _ k => XS.goto X12.here hx rfl (pc0 := 73) (pc' := 137) rfl (hb hby at_73) (by decide) (by decide) k) ?_
          refine own_by (B := T12.setTop (mkF m 138 #[.val (.int ua), .val (.int ub), .val (.int ((ua &&& (2147483647 : Int32)) % (6 : Int32))), .val (.ref a_LESS), .val (.int (1 : Int32))] [(.ref a_LESS)])) (fun _ k => XS.aloadN X12.here hx rfl (hb hby at_137) rfl rfl  k) ?_
          refine own_by (B := T12.setTop (mkF m 139 #[.val (.int ua), .val (.int ub), .val (.int ((ua &&& (2147483647 : Int32)) % (6 : Int32))), .val (.ref a_LESS), .val (.int (1 : Int32))] [(.int ub), (.ref a_LESS)])) (fun _ k => XS.iloadN X12.here hx rfl (hb hby at_138) rfl  k) ?_
          obtain ⟨cq14, kq14, qa14, qb14, qc14⟩ := isOf hZ e12 E_LESS
          obtain ⟨_, _, ⟨T14, L14, k14, n14⟩, -, X14, ⟨Lc14, hQ14, l14, y14, z14⟩, st14⟩ := X12.virtualBack hx (y := (⟨"com/example/convene/convene/engine/ComparisonOperator", "holds", "(I)Z"⟩ : MethodName)) (z := (⟨"com/example/convene/convene/engine/ComparisonOperator", "holds", "(I)Z"⟩ : MethodName)) hown (mvT hZ (hw _ (List.mem_of_getElem? (i := 4) rfl))) (mvT hZ (hw _ (List.mem_of_getElem? (i := 5) rfl))) (notFace_of_selects (args := #[]) (mvT hZ (hw _ (List.mem_of_getElem? (i := 7) rfl)))) (mvT hZ (hw _ (List.mem_of_getElem? (i := 7) rfl))) (mvT hZ (hw _ (List.mem_of_getElem? (i := 6) rfl))) (by decide) (backOf (W := 0) (rm1 l Z a0 hw [] a_LESS ub (1 : Int32) (0 : Int32) (0 : Int32) h0 n0 Z0 F_LESS_whenLess rfl F_LESS_whenEqual rfl F_LESS_whenGreater rfl) hZ (hw _ (List.mem_of_getElem? (i := 8) rfl)) (hw _ (List.mem_of_getElem? (i := 2) rfl)) (by decide) (by decide)) qa14 qc14 (g := (mkF m 139 #[.val (.int ua), .val (.int ub), .val (.int ((ua &&& (2147483647 : Int32)) % (6 : Int32))), .val (.ref a_LESS), .val (.int (1 : Int32))] [(.int ub), (.ref a_LESS)])) rfl (by rw [hml]; rfl) (Steps.refl _) (argsL := [(.int ub)]) (rest := []) (lenOf pd_0__I_Z rfl) rfl (by show 2 * 0 + _ ≤ _; exact Nat.le_of_eq rfl) (hb hby at_139) (fun _ _ => ⟨rfl, e12, (by decide : 0 + 0 ≤ _), (by decide : 0 + 0 ≤ _)⟩)
          dsimp only [Pt.U, Pt.locs, Pt.cells, Pt.slots] at X14 l14 y14 z14 st14 hQ14
          subst l14 y14 z14
          obtain ⟨rfl, N14, e14⟩ := hQ14
          refine own_by (B := T14.setTop (mkF m 142 #[.val (.int ua), .val (.int ub), .val (.int ((ua &&& (2147483647 : Int32)) % (6 : Int32))), .val (.ref a_LESS), .val (.int (1 : Int32))] [(.int (own_f1 ub (1 : Int32) (0 : Int32) (0 : Int32)))])) (fun _ k => st14.trans k) ?_
          have M14 := Fr.app N0 N14
          rw [own_h_LESS, if_pos hc13]
          refine own_by (B := T14.setTop (mkF m 144 #[.val (.int ua), .val (.int ub), .val (.int ((ua &&& (2147483647 : Int32)) % (6 : Int32))), .val (.ref a_LESS), .val (.int (1 : Int32))] [(.int (1 : Int32)), (.int (1 : Int32))])) (fun _ k => XS.iload X14.here hx rfl (hb hby at_142) rfl  k) ?_
          refine own_by (B := T14.setTop (mkF m 147 #[.val (.int ua), .val (.int ub), .val (.int ((ua &&& (2147483647 : Int32)) % (6 : Int32))), .val (.ref a_LESS), .val (.int (1 : Int32))] [])) (fun _ k => XS.icmpNo X14.here hx rfl (hb hby at_144) rfl (XT.ii_ne_f (by decide)) k) ?_
          refine own_by (B := T14.setTop (mkF m 148 #[.val (.int ua), .val (.int ub), .val (.int ((ua &&& (2147483647 : Int32)) % (6 : Int32))), .val (.ref a_LESS), .val (.int (1 : Int32))] [(.int (1 : Int32))])) (fun _ k => XS.iconst X14.here hx rfl (hb hby at_147) k) ?_
          refine own_by (B := T14.setTop (mkF m 152 #[.val (.int ua), .val (.int ub), .val (.int ((ua &&& (2147483647 : Int32)) % (6 : Int32))), .val (.ref a_LESS), .val (.int (1 : Int32))] [(.int (1 : Int32))])) (fun _ k => XS.goto X14.here hx rfl (pc0 := 148) (pc' := 152) rfl (hb hby at_148) (by decide) (by decide) k) ?_
          exact own_retZ X14 hx hrt hlk rfl (hb hby at_152) (by decide) (by decide) ⟨rfl, M14⟩
        · refine own_by (B := T12.setTop (mkF m 70 #[.val (.int ua), .val (.int ub), .val (.int ((ua &&& (2147483647 : Int32)) % (6 : Int32))), .val (.ref a_LESS), .unset] [])) (fun _ k => XS.ifYes X12.here hx rfl (pc0 := 63) (pc' := 70) rfl (hb hby at_63) rfl (XT.i0_ge_t hc13) (by decide) (by decide) k) ?_
          refine own_by (B := T12.setTop (mkF m 71 #[.val (.int ua), .val (.int ub), .val (.int ((ua &&& (2147483647 : Int32)) % (6 : Int32))), .val (.ref a_LESS), .unset] [(.int (0 : Int32))])) (fun _ k => XS.iconst X12.here hx rfl (hb hby at_70) k) ?_
          refine own_by (B := T12.setTop (mkF m 73 #[.val (.int ua), .val (.int ub), .val (.int ((ua &&& (2147483647 : Int32)) % (6 : Int32))), .val (.ref a_LESS), .val (.int (0 : Int32))] [])) (fun _ k => XS.istore X12.here hx rfl (hb hby at_71) rfl (l' := #[.val (.int ua), .val (.int ub), .val (.int ((ua &&& (2147483647 : Int32)) % (6 : Int32))), .val (.ref a_LESS), .val (.int (0 : Int32))]) rfl k) ?_
          refine own_by (B := T12.setTop (mkF m 137 #[.val (.int ua), .val (.int ub), .val (.int ((ua &&& (2147483647 : Int32)) % (6 : Int32))), .val (.ref a_LESS), .val (.int (0 : Int32))] [])) (fun _ k => XS.goto X12.here hx rfl (pc0 := 73) (pc' := 137) rfl (hb hby at_73) (by decide) (by decide) k) ?_
          refine own_by (B := T12.setTop (mkF m 138 #[.val (.int ua), .val (.int ub), .val (.int ((ua &&& (2147483647 : Int32)) % (6 : Int32))), .val (.ref a_LESS), .val (.int (0 : Int32))] [(.ref a_LESS)])) (fun _ k => XS.aloadN X12.here hx rfl (hb hby at_137) rfl rfl  k) ?_
          refine own_by (B := T12.setTop (mkF m 139 #[.val (.int ua), .val (.int ub), .val (.int ((ua &&& (2147483647 : Int32)) % (6 : Int32))), .val (.ref a_LESS), .val (.int (0 : Int32))] [(.int ub), (.ref a_LESS)])) (fun _ k => XS.iloadN X12.here hx rfl (hb hby at_138) rfl  k) ?_
          obtain ⟨cq15, kq15, qa15, qb15, qc15⟩ := isOf hZ e12 E_LESS
          obtain ⟨_, _, ⟨T15, L15, k15, n15⟩, -, X15, ⟨Lc15, hQ15, l15, y15, z15⟩, st15⟩ := X12.virtualBack hx (y := (⟨"com/example/convene/convene/engine/ComparisonOperator", "holds", "(I)Z"⟩ : MethodName)) (z := (⟨"com/example/convene/convene/engine/ComparisonOperator", "holds", "(I)Z"⟩ : MethodName)) hown (mvT hZ (hw _ (List.mem_of_getElem? (i := 4) rfl))) (mvT hZ (hw _ (List.mem_of_getElem? (i := 5) rfl))) (notFace_of_selects (args := #[]) (mvT hZ (hw _ (List.mem_of_getElem? (i := 7) rfl)))) (mvT hZ (hw _ (List.mem_of_getElem? (i := 7) rfl))) (mvT hZ (hw _ (List.mem_of_getElem? (i := 6) rfl))) (by decide) (backOf (W := 0) (rm1 l Z a0 hw [] a_LESS ub (1 : Int32) (0 : Int32) (0 : Int32) h0 n0 Z0 F_LESS_whenLess rfl F_LESS_whenEqual rfl F_LESS_whenGreater rfl) hZ (hw _ (List.mem_of_getElem? (i := 8) rfl)) (hw _ (List.mem_of_getElem? (i := 2) rfl)) (by decide) (by decide)) qa15 qc15 (g := (mkF m 139 #[.val (.int ua), .val (.int ub), .val (.int ((ua &&& (2147483647 : Int32)) % (6 : Int32))), .val (.ref a_LESS), .val (.int (0 : Int32))] [(.int ub), (.ref a_LESS)])) rfl (by rw [hml]; rfl) (Steps.refl _) (argsL := [(.int ub)]) (rest := []) (lenOf pd_0__I_Z rfl) rfl (by show 2 * 0 + _ ≤ _; exact Nat.le_of_eq rfl) (hb hby at_139) (fun _ _ => ⟨rfl, e12, (by decide : 0 + 0 ≤ _), (by decide : 0 + 0 ≤ _)⟩)
          dsimp only [Pt.U, Pt.locs, Pt.cells, Pt.slots] at X15 l15 y15 z15 st15 hQ15
          subst l15 y15 z15
          obtain ⟨rfl, N15, e15⟩ := hQ15
          refine own_by (B := T15.setTop (mkF m 142 #[.val (.int ua), .val (.int ub), .val (.int ((ua &&& (2147483647 : Int32)) % (6 : Int32))), .val (.ref a_LESS), .val (.int (0 : Int32))] [(.int (own_f1 ub (1 : Int32) (0 : Int32) (0 : Int32)))])) (fun _ k => st15.trans k) ?_
          have M15 := Fr.app N0 N15
          rw [own_h_LESS, if_neg hc13]
          refine own_by (B := T15.setTop (mkF m 144 #[.val (.int ua), .val (.int ub), .val (.int ((ua &&& (2147483647 : Int32)) % (6 : Int32))), .val (.ref a_LESS), .val (.int (0 : Int32))] [(.int (0 : Int32)), (.int (0 : Int32))])) (fun _ k => XS.iload X15.here hx rfl (hb hby at_142) rfl  k) ?_
          refine own_by (B := T15.setTop (mkF m 147 #[.val (.int ua), .val (.int ub), .val (.int ((ua &&& (2147483647 : Int32)) % (6 : Int32))), .val (.ref a_LESS), .val (.int (0 : Int32))] [])) (fun _ k => XS.icmpNo X15.here hx rfl (hb hby at_144) rfl (XT.ii_ne_f (by decide)) k) ?_
          refine own_by (B := T15.setTop (mkF m 148 #[.val (.int ua), .val (.int ub), .val (.int ((ua &&& (2147483647 : Int32)) % (6 : Int32))), .val (.ref a_LESS), .val (.int (0 : Int32))] [(.int (1 : Int32))])) (fun _ k => XS.iconst X15.here hx rfl (hb hby at_147) k) ?_
          refine own_by (B := T15.setTop (mkF m 152 #[.val (.int ua), .val (.int ub), .val (.int ((ua &&& (2147483647 : Int32)) % (6 : Int32))), .val (.ref a_LESS), .val (.int (0 : Int32))] [(.int (1 : Int32))])) (fun _ k => XS.goto X15.here hx rfl (pc0 := 148) (pc' := 152) rfl (hb hby at_148) (by decide) (by decide) k) ?_
          exact own_retZ X15 hx hrt hlk rfl (hb hby at_152) (by decide) (by decide) ⟨rfl, M15⟩
      · refine own_by (B := s₁.setTop (mkF m 76 #[.val (.int ua), .val (.int ub), .val (.int ((ua &&& (2147483647 : Int32)) % (6 : Int32))), .unset, .unset] [])) (fun _ k => XS.icmpYes X0.here hx rfl (pc0 := 55) (pc' := 76) rfl (hb hby at_55) rfl (XT.ii_ne_t hc11) (by decide) (by decide) k) ?_
        refine own_by (B := s₁.setTop (mkF m 77 #[.val (.int ua), .val (.int ub), .val (.int ((ua &&& (2147483647 : Int32)) % (6 : Int32))), .unset, .unset] [(.int ((ua &&& (2147483647 : Int32)) % (6 : Int32)))])) (fun _ k => XS.iloadN X0.here hx rfl (hb hby at_76) rfl  k) ?_
        refine own_by (B := s₁.setTop (mkF m 78 #[.val (.int ua), .val (.int ub), .val (.int ((ua &&& (2147483647 : Int32)) % (6 : Int32))), .unset, .unset] [(.int (3 : Int32)), (.int ((ua &&& (2147483647 : Int32)) % (6 : Int32)))])) (fun _ k => XS.iconst X0.here hx rfl (hb hby at_77) k) ?_
        by_cases hc16 : ((ua &&& (2147483647 : Int32)) % (6 : Int32)) = (3 : Int32)
        · refine own_by (B := s₁.setTop (mkF m 81 #[.val (.int ua), .val (.int ub), .val (.int ((ua &&& (2147483647 : Int32)) % (6 : Int32))), .unset, .unset] [])) (fun _ k => XS.icmpNo X0.here hx rfl (hb hby at_78) rfl (XT.ii_ne_f hc16) k) ?_
          obtain ⟨T17, X17, e17, st17⟩ := getS2 X0 hx hZ hown (host := "") (Or.inl (hw _ (List.mem_of_getElem? (i := 21) rfl))) Via.refl e0 S_LESS_OR_EQUAL (g := (mkF m 81 #[.val (.int ua), .val (.int ub), .val (.int ((ua &&& (2147483647 : Int32)) % (6 : Int32))), .unset, .unset] [])) rfl (hb hby at_81)
          refine own_by (B := T17.setTop (mkF m 84 #[.val (.int ua), .val (.int ub), .val (.int ((ua &&& (2147483647 : Int32)) % (6 : Int32))), .unset, .unset] [(.ref a_LESS_OR_EQUAL)])) st17 ?_
          refine own_by (B := T17.setTop (mkF m 85 #[.val (.int ua), .val (.int ub), .val (.int ((ua &&& (2147483647 : Int32)) % (6 : Int32))), .val (.ref a_LESS_OR_EQUAL), .unset] [])) (fun _ k => XS.astoreN X17.here hx rfl (hb hby at_84) rfl rfl (l' := #[.val (.int ua), .val (.int ub), .val (.int ((ua &&& (2147483647 : Int32)) % (6 : Int32))), .val (.ref a_LESS_OR_EQUAL), .unset]) rfl k) ?_
          refine own_by (B := T17.setTop (mkF m 86 #[.val (.int ua), .val (.int ub), .val (.int ((ua &&& (2147483647 : Int32)) % (6 : Int32))), .val (.ref a_LESS_OR_EQUAL), .unset] [(.int ub)])) (fun _ k => XS.iloadN X17.here hx rfl (hb hby at_85) rfl  k) ?_
          by_cases hc18 : (0 : Int32) < ub
          · refine own_by (B := T17.setTop (mkF m 93 #[.val (.int ua), .val (.int ub), .val (.int ((ua &&& (2147483647 : Int32)) % (6 : Int32))), .val (.ref a_LESS_OR_EQUAL), .unset] [])) (fun _ k => XS.ifYes X17.here hx rfl (pc0 := 86) (pc' := 93) rfl (hb hby at_86) rfl (XT.i0_gt_t hc18) (by decide) (by decide) k) ?_
            refine own_by (B := T17.setTop (mkF m 94 #[.val (.int ua), .val (.int ub), .val (.int ((ua &&& (2147483647 : Int32)) % (6 : Int32))), .val (.ref a_LESS_OR_EQUAL), .unset] [(.int (0 : Int32))])) (fun _ k => XS.iconst X17.here hx rfl (hb hby at_93) k) ?_
            refine own_by (B := T17.setTop (mkF m 96 #[.val (.int ua), .val (.int ub), .val (.int ((ua &&& (2147483647 : Int32)) % (6 : Int32))), .val (.ref a_LESS_OR_EQUAL), .val (.int (0 : Int32))] [])) (fun _ k => XS.istore X17.here hx rfl (hb hby at_94) rfl (l' := #[.val (.int ua), .val (.int ub), .val (.int ((ua &&& (2147483647 : Int32)) % (6 : Int32))), .val (.ref a_LESS_OR_EQUAL), .val (.int (0 : Int32))]) rfl k) ?_
            refine own_by (B := T17.setTop (mkF m 137 #[.val (.int ua), .val (.int ub), .val (.int ((ua &&& (2147483647 : Int32)) % (6 : Int32))), .val (.ref a_LESS_OR_EQUAL), .val (.int (0 : Int32))] [])) (fun _ k => XS.goto X17.here hx rfl (pc0 := 96) (pc' := 137) rfl (hb hby at_96) (by decide) (by decide) k) ?_
            refine own_by (B := T17.setTop (mkF m 138 #[.val (.int ua), .val (.int ub), .val (.int ((ua &&& (2147483647 : Int32)) % (6 : Int32))), .val (.ref a_LESS_OR_EQUAL), .val (.int (0 : Int32))] [(.ref a_LESS_OR_EQUAL)])) (fun _ k => XS.aloadN X17.here hx rfl (hb hby at_137) rfl rfl  k) ?_
            refine own_by (B := T17.setTop (mkF m 139 #[.val (.int ua), .val (.int ub), .val (.int ((ua &&& (2147483647 : Int32)) % (6 : Int32))), .val (.ref a_LESS_OR_EQUAL), .val (.int (0 : Int32))] [(.int ub), (.ref a_LESS_OR_EQUAL)])) (fun _ k => XS.iloadN X17.here hx rfl (hb hby at_138) rfl  k) ?_
            obtain ⟨cq19, kq19, qa19, qb19, qc19⟩ := isOf hZ e17 E_LESS_OR_EQUAL
            obtain ⟨_, _, ⟨T19, L19, k19, n19⟩, -, X19, ⟨Lc19, hQ19, l19, y19, z19⟩, st19⟩ := X17.virtualBack hx (y := (⟨"com/example/convene/convene/engine/ComparisonOperator", "holds", "(I)Z"⟩ : MethodName)) (z := (⟨"com/example/convene/convene/engine/ComparisonOperator", "holds", "(I)Z"⟩ : MethodName)) hown (mvT hZ (hw _ (List.mem_of_getElem? (i := 4) rfl))) (mvT hZ (hw _ (List.mem_of_getElem? (i := 5) rfl))) (notFace_of_selects (args := #[]) (mvT hZ (hw _ (List.mem_of_getElem? (i := 7) rfl)))) (mvT hZ (hw _ (List.mem_of_getElem? (i := 7) rfl))) (mvT hZ (hw _ (List.mem_of_getElem? (i := 6) rfl))) (by decide) (backOf (W := 0) (rm1 l Z a0 hw [] a_LESS_OR_EQUAL ub (1 : Int32) (1 : Int32) (0 : Int32) h0 n0 Z0 F_LESS_OR_EQUAL_whenLess rfl F_LESS_OR_EQUAL_whenEqual rfl F_LESS_OR_EQUAL_whenGreater rfl) hZ (hw _ (List.mem_of_getElem? (i := 8) rfl)) (hw _ (List.mem_of_getElem? (i := 2) rfl)) (by decide) (by decide)) qa19 qc19 (g := (mkF m 139 #[.val (.int ua), .val (.int ub), .val (.int ((ua &&& (2147483647 : Int32)) % (6 : Int32))), .val (.ref a_LESS_OR_EQUAL), .val (.int (0 : Int32))] [(.int ub), (.ref a_LESS_OR_EQUAL)])) rfl (by rw [hml]; rfl) (Steps.refl _) (argsL := [(.int ub)]) (rest := []) (lenOf pd_0__I_Z rfl) rfl (by show 2 * 0 + _ ≤ _; exact Nat.le_of_eq rfl) (hb hby at_139) (fun _ _ => ⟨rfl, e17, (by decide : 0 + 0 ≤ _), (by decide : 0 + 0 ≤ _)⟩)
            dsimp only [Pt.U, Pt.locs, Pt.cells, Pt.slots] at X19 l19 y19 z19 st19 hQ19
            subst l19 y19 z19
            obtain ⟨rfl, N19, e19⟩ := hQ19
            refine own_by (B := T19.setTop (mkF m 142 #[.val (.int ua), .val (.int ub), .val (.int ((ua &&& (2147483647 : Int32)) % (6 : Int32))), .val (.ref a_LESS_OR_EQUAL), .val (.int (0 : Int32))] [(.int (own_f1 ub (1 : Int32) (1 : Int32) (0 : Int32)))])) (fun _ k => st19.trans k) ?_
            have M19 := Fr.app N0 N19
            rw [own_h_LESS_OR_EQUAL, if_pos hc18]
            refine own_by (B := T19.setTop (mkF m 144 #[.val (.int ua), .val (.int ub), .val (.int ((ua &&& (2147483647 : Int32)) % (6 : Int32))), .val (.ref a_LESS_OR_EQUAL), .val (.int (0 : Int32))] [(.int (0 : Int32)), (.int (0 : Int32))])) (fun _ k => XS.iload X19.here hx rfl (hb hby at_142) rfl  k) ?_
            refine own_by (B := T19.setTop (mkF m 147 #[.val (.int ua), .val (.int ub), .val (.int ((ua &&& (2147483647 : Int32)) % (6 : Int32))), .val (.ref a_LESS_OR_EQUAL), .val (.int (0 : Int32))] [])) (fun _ k => XS.icmpNo X19.here hx rfl (hb hby at_144) rfl (XT.ii_ne_f (by decide)) k) ?_
            refine own_by (B := T19.setTop (mkF m 148 #[.val (.int ua), .val (.int ub), .val (.int ((ua &&& (2147483647 : Int32)) % (6 : Int32))), .val (.ref a_LESS_OR_EQUAL), .val (.int (0 : Int32))] [(.int (1 : Int32))])) (fun _ k => XS.iconst X19.here hx rfl (hb hby at_147) k) ?_
            refine own_by (B := T19.setTop (mkF m 152 #[.val (.int ua), .val (.int ub), .val (.int ((ua &&& (2147483647 : Int32)) % (6 : Int32))), .val (.ref a_LESS_OR_EQUAL), .val (.int (0 : Int32))] [(.int (1 : Int32))])) (fun _ k => XS.goto X19.here hx rfl (pc0 := 148) (pc' := 152) rfl (hb hby at_148) (by decide) (by decide) k) ?_
            exact own_retZ X19 hx hrt hlk rfl (hb hby at_152) (by decide) (by decide) ⟨rfl, M19⟩
          · refine own_by (B := T17.setTop (mkF m 89 #[.val (.int ua), .val (.int ub), .val (.int ((ua &&& (2147483647 : Int32)) % (6 : Int32))), .val (.ref a_LESS_OR_EQUAL), .unset] [])) (fun _ k => XS.ifNo X17.here hx rfl (hb hby at_86) rfl (XT.i0_gt_f hc18) k) ?_
            refine own_by (B := T17.setTop (mkF m 90 #[.val (.int ua), .val (.int ub), .val (.int ((ua &&& (2147483647 : Int32)) % (6 : Int32))), .val (.ref a_LESS_OR_EQUAL), .unset] [(.int (1 : Int32))])) (fun _ k => XS.iconst X17.here hx rfl (hb hby at_89) k) ?_
            refine own_by (B := T17.setTop (mkF m 94 #[.val (.int ua), .val (.int ub), .val (.int ((ua &&& (2147483647 : Int32)) % (6 : Int32))), .val (.ref a_LESS_OR_EQUAL), .unset] [(.int (1 : Int32))])) (fun _ k => XS.goto X17.here hx rfl (pc0 := 90) (pc' := 94) rfl (hb hby at_90) (by decide) (by decide) k) ?_
            refine own_by (B := T17.setTop (mkF m 96 #[.val (.int ua), .val (.int ub), .val (.int ((ua &&& (2147483647 : Int32)) % (6 : Int32))), .val (.ref a_LESS_OR_EQUAL), .val (.int (1 : Int32))] [])) (fun _ k => XS.istore X17.here hx rfl (hb hby at_94) rfl (l' := #[.val (.int ua), .val (.int ub), .val (.int ((ua &&& (2147483647 : Int32)) % (6 : Int32))), .val (.ref a_LESS_OR_EQUAL), .val (.int (1 : Int32))]) rfl k) ?_
            refine own_by (B := T17.setTop (mkF m 137 #[.val (.int ua), .val (.int ub), .val (.int ((ua &&& (2147483647 : Int32)) % (6 : Int32))), .val (.ref a_LESS_OR_EQUAL), .val (.int (1 : Int32))] [])) (fun _ k => XS.goto X17.here hx rfl (pc0 := 96) (pc' := 137) rfl (hb hby at_96) (by decide) (by decide) k) ?_
            refine own_by (B := T17.setTop (mkF m 138 #[.val (.int ua), .val (.int ub), .val (.int ((ua &&& (2147483647 : Int32)) % (6 : Int32))), .val (.ref a_LESS_OR_EQUAL), .val (.int (1 : Int32))] [(.ref a_LESS_OR_EQUAL)])) (fun _ k => XS.aloadN X17.here hx rfl (hb hby at_137) rfl rfl  k) ?_
            refine own_by (B := T17.setTop (mkF m 139 #[.val (.int ua), .val (.int ub), .val (.int ((ua &&& (2147483647 : Int32)) % (6 : Int32))), .val (.ref a_LESS_OR_EQUAL), .val (.int (1 : Int32))] [(.int ub), (.ref a_LESS_OR_EQUAL)])) (fun _ k => XS.iloadN X17.here hx rfl (hb hby at_138) rfl  k) ?_
            obtain ⟨cq20, kq20, qa20, qb20, qc20⟩ := isOf hZ e17 E_LESS_OR_EQUAL
            obtain ⟨_, _, ⟨T20, L20, k20, n20⟩, -, X20, ⟨Lc20, hQ20, l20, y20, z20⟩, st20⟩ := X17.virtualBack hx (y := (⟨"com/example/convene/convene/engine/ComparisonOperator", "holds", "(I)Z"⟩ : MethodName)) (z := (⟨"com/example/convene/convene/engine/ComparisonOperator", "holds", "(I)Z"⟩ : MethodName)) hown (mvT hZ (hw _ (List.mem_of_getElem? (i := 4) rfl))) (mvT hZ (hw _ (List.mem_of_getElem? (i := 5) rfl))) (notFace_of_selects (args := #[]) (mvT hZ (hw _ (List.mem_of_getElem? (i := 7) rfl)))) (mvT hZ (hw _ (List.mem_of_getElem? (i := 7) rfl))) (mvT hZ (hw _ (List.mem_of_getElem? (i := 6) rfl))) (by decide) (backOf (W := 0) (rm1 l Z a0 hw [] a_LESS_OR_EQUAL ub (1 : Int32) (1 : Int32) (0 : Int32) h0 n0 Z0 F_LESS_OR_EQUAL_whenLess rfl F_LESS_OR_EQUAL_whenEqual rfl F_LESS_OR_EQUAL_whenGreater rfl) hZ (hw _ (List.mem_of_getElem? (i := 8) rfl)) (hw _ (List.mem_of_getElem? (i := 2) rfl)) (by decide) (by decide)) qa20 qc20 (g := (mkF m 139 #[.val (.int ua), .val (.int ub), .val (.int ((ua &&& (2147483647 : Int32)) % (6 : Int32))), .val (.ref a_LESS_OR_EQUAL), .val (.int (1 : Int32))] [(.int ub), (.ref a_LESS_OR_EQUAL)])) rfl (by rw [hml]; rfl) (Steps.refl _) (argsL := [(.int ub)]) (rest := []) (lenOf pd_0__I_Z rfl) rfl (by show 2 * 0 + _ ≤ _; exact Nat.le_of_eq rfl) (hb hby at_139) (fun _ _ => ⟨rfl, e17, (by decide : 0 + 0 ≤ _), (by decide : 0 + 0 ≤ _)⟩)
            dsimp only [Pt.U, Pt.locs, Pt.cells, Pt.slots] at X20 l20 y20 z20 st20 hQ20
            subst l20 y20 z20
            obtain ⟨rfl, N20, e20⟩ := hQ20
            refine own_by (B := T20.setTop (mkF m 142 #[.val (.int ua), .val (.int ub), .val (.int ((ua &&& (2147483647 : Int32)) % (6 : Int32))), .val (.ref a_LESS_OR_EQUAL), .val (.int (1 : Int32))] [(.int (own_f1 ub (1 : Int32) (1 : Int32) (0 : Int32)))])) (fun _ k => st20.trans k) ?_
            have M20 := Fr.app N0 N20
            rw [own_h_LESS_OR_EQUAL, if_neg hc18]
            refine own_by (B := T20.setTop (mkF m 144 #[.val (.int ua), .val (.int ub), .val (.int ((ua &&& (2147483647 : Int32)) % (6 : Int32))), .val (.ref a_LESS_OR_EQUAL), .val (.int (1 : Int32))] [(.int (1 : Int32)), (.int (1 : Int32))])) (fun _ k => XS.iload X20.here hx rfl (hb hby at_142) rfl  k) ?_
            refine own_by (B := T20.setTop (mkF m 147 #[.val (.int ua), .val (.int ub), .val (.int ((ua &&& (2147483647 : Int32)) % (6 : Int32))), .val (.ref a_LESS_OR_EQUAL), .val (.int (1 : Int32))] [])) (fun _ k => XS.icmpNo X20.here hx rfl (hb hby at_144) rfl (XT.ii_ne_f (by decide)) k) ?_
            refine own_by (B := T20.setTop (mkF m 148 #[.val (.int ua), .val (.int ub), .val (.int ((ua &&& (2147483647 : Int32)) % (6 : Int32))), .val (.ref a_LESS_OR_EQUAL), .val (.int (1 : Int32))] [(.int (1 : Int32))])) (fun _ k => XS.iconst X20.here hx rfl (hb hby at_147) k) ?_
            refine own_by (B := T20.setTop (mkF m 152 #[.val (.int ua), .val (.int ub), .val (.int ((ua &&& (2147483647 : Int32)) % (6 : Int32))), .val (.ref a_LESS_OR_EQUAL), .val (.int (1 : Int32))] [(.int (1 : Int32))])) (fun _ k => XS.goto X20.here hx rfl (pc0 := 148) (pc' := 152) rfl (hb hby at_148) (by decide) (by decide) k) ?_
            exact own_retZ X20 hx hrt hlk rfl (hb hby at_152) (by decide) (by decide) ⟨rfl, M20⟩
        · refine own_by (B := s₁.setTop (mkF m 99 #[.val (.int ua), .val (.int ub), .val (.int ((ua &&& (2147483647 : Int32)) % (6 : Int32))), .unset, .unset] [])) (fun _ k => XS.icmpYes X0.here hx rfl (pc0 := 78) (pc' := 99) rfl (hb hby at_78) rfl (XT.ii_ne_t hc16) (by decide) (by decide) k) ?_
          refine own_by (B := s₁.setTop (mkF m 100 #[.val (.int ua), .val (.int ub), .val (.int ((ua &&& (2147483647 : Int32)) % (6 : Int32))), .unset, .unset] [(.int ((ua &&& (2147483647 : Int32)) % (6 : Int32)))])) (fun _ k => XS.iloadN X0.here hx rfl (hb hby at_99) rfl  k) ?_
          refine own_by (B := s₁.setTop (mkF m 101 #[.val (.int ua), .val (.int ub), .val (.int ((ua &&& (2147483647 : Int32)) % (6 : Int32))), .unset, .unset] [(.int (4 : Int32)), (.int ((ua &&& (2147483647 : Int32)) % (6 : Int32)))])) (fun _ k => XS.iconst X0.here hx rfl (hb hby at_100) k) ?_
          by_cases hc21 : ((ua &&& (2147483647 : Int32)) % (6 : Int32)) = (4 : Int32)
          · refine own_by (B := s₁.setTop (mkF m 104 #[.val (.int ua), .val (.int ub), .val (.int ((ua &&& (2147483647 : Int32)) % (6 : Int32))), .unset, .unset] [])) (fun _ k => XS.icmpNo X0.here hx rfl (hb hby at_101) rfl (XT.ii_ne_f hc21) k) ?_
            obtain ⟨T22, X22, e22, st22⟩ := getS2 X0 hx hZ hown (host := "") (Or.inl (hw _ (List.mem_of_getElem? (i := 15) rfl))) Via.refl e0 S_GREATER (g := (mkF m 104 #[.val (.int ua), .val (.int ub), .val (.int ((ua &&& (2147483647 : Int32)) % (6 : Int32))), .unset, .unset] [])) rfl (hb hby at_104)
            refine own_by (B := T22.setTop (mkF m 107 #[.val (.int ua), .val (.int ub), .val (.int ((ua &&& (2147483647 : Int32)) % (6 : Int32))), .unset, .unset] [(.ref a_GREATER)])) st22 ?_
            refine own_by (B := T22.setTop (mkF m 108 #[.val (.int ua), .val (.int ub), .val (.int ((ua &&& (2147483647 : Int32)) % (6 : Int32))), .val (.ref a_GREATER), .unset] [])) (fun _ k => XS.astoreN X22.here hx rfl (hb hby at_107) rfl rfl (l' := #[.val (.int ua), .val (.int ub), .val (.int ((ua &&& (2147483647 : Int32)) % (6 : Int32))), .val (.ref a_GREATER), .unset]) rfl k) ?_
            refine own_by (B := T22.setTop (mkF m 109 #[.val (.int ua), .val (.int ub), .val (.int ((ua &&& (2147483647 : Int32)) % (6 : Int32))), .val (.ref a_GREATER), .unset] [(.int ub)])) (fun _ k => XS.iloadN X22.here hx rfl (hb hby at_108) rfl  k) ?_
            by_cases hc23 : (0 : Int32) < ub
            · refine own_by (B := T22.setTop (mkF m 112 #[.val (.int ua), .val (.int ub), .val (.int ((ua &&& (2147483647 : Int32)) % (6 : Int32))), .val (.ref a_GREATER), .unset] [])) (fun _ k => XS.ifNo X22.here hx rfl (hb hby at_109) rfl (XT.i0_le_f hc23) k) ?_
              refine own_by (B := T22.setTop (mkF m 113 #[.val (.int ua), .val (.int ub), .val (.int ((ua &&& (2147483647 : Int32)) % (6 : Int32))), .val (.ref a_GREATER), .unset] [(.int (1 : Int32))])) (fun _ k => XS.iconst X22.here hx rfl (hb hby at_112) k) ?_
              refine own_by (B := T22.setTop (mkF m 117 #[.val (.int ua), .val (.int ub), .val (.int ((ua &&& (2147483647 : Int32)) % (6 : Int32))), .val (.ref a_GREATER), .unset] [(.int (1 : Int32))])) (fun _ k => XS.goto X22.here hx rfl (pc0 := 113) (pc' := 117) rfl (hb hby at_113) (by decide) (by decide) k) ?_
              refine own_by (B := T22.setTop (mkF m 119 #[.val (.int ua), .val (.int ub), .val (.int ((ua &&& (2147483647 : Int32)) % (6 : Int32))), .val (.ref a_GREATER), .val (.int (1 : Int32))] [])) (fun _ k => XS.istore X22.here hx rfl (hb hby at_117) rfl (l' := #[.val (.int ua), .val (.int ub), .val (.int ((ua &&& (2147483647 : Int32)) % (6 : Int32))), .val (.ref a_GREATER), .val (.int (1 : Int32))]) rfl k) ?_
              refine own_by (B := T22.setTop (mkF m 137 #[.val (.int ua), .val (.int ub), .val (.int ((ua &&& (2147483647 : Int32)) % (6 : Int32))), .val (.ref a_GREATER), .val (.int (1 : Int32))] [])) (fun _ k => XS.goto X22.here hx rfl (pc0 := 119) (pc' := 137) rfl (hb hby at_119) (by decide) (by decide) k) ?_
              refine own_by (B := T22.setTop (mkF m 138 #[.val (.int ua), .val (.int ub), .val (.int ((ua &&& (2147483647 : Int32)) % (6 : Int32))), .val (.ref a_GREATER), .val (.int (1 : Int32))] [(.ref a_GREATER)])) (fun _ k => XS.aloadN X22.here hx rfl (hb hby at_137) rfl rfl  k) ?_
              refine own_by (B := T22.setTop (mkF m 139 #[.val (.int ua), .val (.int ub), .val (.int ((ua &&& (2147483647 : Int32)) % (6 : Int32))), .val (.ref a_GREATER), .val (.int (1 : Int32))] [(.int ub), (.ref a_GREATER)])) (fun _ k => XS.iloadN X22.here hx rfl (hb hby at_138) rfl  k) ?_
              obtain ⟨cq24, kq24, qa24, qb24, qc24⟩ := isOf hZ e22 E_GREATER
              obtain ⟨_, _, ⟨T24, L24, k24, n24⟩, -, X24, ⟨Lc24, hQ24, l24, y24, z24⟩, st24⟩ := X22.virtualBack hx (y := (⟨"com/example/convene/convene/engine/ComparisonOperator", "holds", "(I)Z"⟩ : MethodName)) (z := (⟨"com/example/convene/convene/engine/ComparisonOperator", "holds", "(I)Z"⟩ : MethodName)) hown (mvT hZ (hw _ (List.mem_of_getElem? (i := 4) rfl))) (mvT hZ (hw _ (List.mem_of_getElem? (i := 5) rfl))) (notFace_of_selects (args := #[]) (mvT hZ (hw _ (List.mem_of_getElem? (i := 7) rfl)))) (mvT hZ (hw _ (List.mem_of_getElem? (i := 7) rfl))) (mvT hZ (hw _ (List.mem_of_getElem? (i := 6) rfl))) (by decide) (backOf (W := 0) (rm1 l Z a0 hw [] a_GREATER ub (0 : Int32) (0 : Int32) (1 : Int32) h0 n0 Z0 F_GREATER_whenLess rfl F_GREATER_whenEqual rfl F_GREATER_whenGreater rfl) hZ (hw _ (List.mem_of_getElem? (i := 8) rfl)) (hw _ (List.mem_of_getElem? (i := 2) rfl)) (by decide) (by decide)) qa24 qc24 (g := (mkF m 139 #[.val (.int ua), .val (.int ub), .val (.int ((ua &&& (2147483647 : Int32)) % (6 : Int32))), .val (.ref a_GREATER), .val (.int (1 : Int32))] [(.int ub), (.ref a_GREATER)])) rfl (by rw [hml]; rfl) (Steps.refl _) (argsL := [(.int ub)]) (rest := []) (lenOf pd_0__I_Z rfl) rfl (by show 2 * 0 + _ ≤ _; exact Nat.le_of_eq rfl) (hb hby at_139) (fun _ _ => ⟨rfl, e22, (by decide : 0 + 0 ≤ _), (by decide : 0 + 0 ≤ _)⟩)
              dsimp only [Pt.U, Pt.locs, Pt.cells, Pt.slots] at X24 l24 y24 z24 st24 hQ24
              subst l24 y24 z24
              obtain ⟨rfl, N24, e24⟩ := hQ24
              refine own_by (B := T24.setTop (mkF m 142 #[.val (.int ua), .val (.int ub), .val (.int ((ua &&& (2147483647 : Int32)) % (6 : Int32))), .val (.ref a_GREATER), .val (.int (1 : Int32))] [(.int (own_f1 ub (0 : Int32) (0 : Int32) (1 : Int32)))])) (fun _ k => st24.trans k) ?_
              have M24 := Fr.app N0 N24
              rw [own_h_GREATER, if_pos hc23]
              refine own_by (B := T24.setTop (mkF m 144 #[.val (.int ua), .val (.int ub), .val (.int ((ua &&& (2147483647 : Int32)) % (6 : Int32))), .val (.ref a_GREATER), .val (.int (1 : Int32))] [(.int (1 : Int32)), (.int (1 : Int32))])) (fun _ k => XS.iload X24.here hx rfl (hb hby at_142) rfl  k) ?_
              refine own_by (B := T24.setTop (mkF m 147 #[.val (.int ua), .val (.int ub), .val (.int ((ua &&& (2147483647 : Int32)) % (6 : Int32))), .val (.ref a_GREATER), .val (.int (1 : Int32))] [])) (fun _ k => XS.icmpNo X24.here hx rfl (hb hby at_144) rfl (XT.ii_ne_f (by decide)) k) ?_
              refine own_by (B := T24.setTop (mkF m 148 #[.val (.int ua), .val (.int ub), .val (.int ((ua &&& (2147483647 : Int32)) % (6 : Int32))), .val (.ref a_GREATER), .val (.int (1 : Int32))] [(.int (1 : Int32))])) (fun _ k => XS.iconst X24.here hx rfl (hb hby at_147) k) ?_
              refine own_by (B := T24.setTop (mkF m 152 #[.val (.int ua), .val (.int ub), .val (.int ((ua &&& (2147483647 : Int32)) % (6 : Int32))), .val (.ref a_GREATER), .val (.int (1 : Int32))] [(.int (1 : Int32))])) (fun _ k => XS.goto X24.here hx rfl (pc0 := 148) (pc' := 152) rfl (hb hby at_148) (by decide) (by decide) k) ?_
              exact own_retZ X24 hx hrt hlk rfl (hb hby at_152) (by decide) (by decide) ⟨rfl, M24⟩
            · refine own_by (B := T22.setTop (mkF m 116 #[.val (.int ua), .val (.int ub), .val (.int ((ua &&& (2147483647 : Int32)) % (6 : Int32))), .val (.ref a_GREATER), .unset] [])) (fun _ k => XS.ifYes X22.here hx rfl (pc0 := 109) (pc' := 116) rfl (hb hby at_109) rfl (XT.i0_le_t hc23) (by decide) (by decide) k) ?_
              refine own_by (B := T22.setTop (mkF m 117 #[.val (.int ua), .val (.int ub), .val (.int ((ua &&& (2147483647 : Int32)) % (6 : Int32))), .val (.ref a_GREATER), .unset] [(.int (0 : Int32))])) (fun _ k => XS.iconst X22.here hx rfl (hb hby at_116) k) ?_
              refine own_by (B := T22.setTop (mkF m 119 #[.val (.int ua), .val (.int ub), .val (.int ((ua &&& (2147483647 : Int32)) % (6 : Int32))), .val (.ref a_GREATER), .val (.int (0 : Int32))] [])) (fun _ k => XS.istore X22.here hx rfl (hb hby at_117) rfl (l' := #[.val (.int ua), .val (.int ub), .val (.int ((ua &&& (2147483647 : Int32)) % (6 : Int32))), .val (.ref a_GREATER), .val (.int (0 : Int32))]) rfl k) ?_
              refine own_by (B := T22.setTop (mkF m 137 #[.val (.int ua), .val (.int ub), .val (.int ((ua &&& (2147483647 : Int32)) % (6 : Int32))), .val (.ref a_GREATER), .val (.int (0 : Int32))] [])) (fun _ k => XS.goto X22.here hx rfl (pc0 := 119) (pc' := 137) rfl (hb hby at_119) (by decide) (by decide) k) ?_
              refine own_by (B := T22.setTop (mkF m 138 #[.val (.int ua), .val (.int ub), .val (.int ((ua &&& (2147483647 : Int32)) % (6 : Int32))), .val (.ref a_GREATER), .val (.int (0 : Int32))] [(.ref a_GREATER)])) (fun _ k => XS.aloadN X22.here hx rfl (hb hby at_137) rfl rfl  k) ?_
              refine own_by (B := T22.setTop (mkF m 139 #[.val (.int ua), .val (.int ub), .val (.int ((ua &&& (2147483647 : Int32)) % (6 : Int32))), .val (.ref a_GREATER), .val (.int (0 : Int32))] [(.int ub), (.ref a_GREATER)])) (fun _ k => XS.iloadN X22.here hx rfl (hb hby at_138) rfl  k) ?_
              obtain ⟨cq25, kq25, qa25, qb25, qc25⟩ := isOf hZ e22 E_GREATER
              obtain ⟨_, _, ⟨T25, L25, k25, n25⟩, -, X25, ⟨Lc25, hQ25, l25, y25, z25⟩, st25⟩ := X22.virtualBack hx (y := (⟨"com/example/convene/convene/engine/ComparisonOperator", "holds", "(I)Z"⟩ : MethodName)) (z := (⟨"com/example/convene/convene/engine/ComparisonOperator", "holds", "(I)Z"⟩ : MethodName)) hown (mvT hZ (hw _ (List.mem_of_getElem? (i := 4) rfl))) (mvT hZ (hw _ (List.mem_of_getElem? (i := 5) rfl))) (notFace_of_selects (args := #[]) (mvT hZ (hw _ (List.mem_of_getElem? (i := 7) rfl)))) (mvT hZ (hw _ (List.mem_of_getElem? (i := 7) rfl))) (mvT hZ (hw _ (List.mem_of_getElem? (i := 6) rfl))) (by decide) (backOf (W := 0) (rm1 l Z a0 hw [] a_GREATER ub (0 : Int32) (0 : Int32) (1 : Int32) h0 n0 Z0 F_GREATER_whenLess rfl F_GREATER_whenEqual rfl F_GREATER_whenGreater rfl) hZ (hw _ (List.mem_of_getElem? (i := 8) rfl)) (hw _ (List.mem_of_getElem? (i := 2) rfl)) (by decide) (by decide)) qa25 qc25 (g := (mkF m 139 #[.val (.int ua), .val (.int ub), .val (.int ((ua &&& (2147483647 : Int32)) % (6 : Int32))), .val (.ref a_GREATER), .val (.int (0 : Int32))] [(.int ub), (.ref a_GREATER)])) rfl (by rw [hml]; rfl) (Steps.refl _) (argsL := [(.int ub)]) (rest := []) (lenOf pd_0__I_Z rfl) rfl (by show 2 * 0 + _ ≤ _; exact Nat.le_of_eq rfl) (hb hby at_139) (fun _ _ => ⟨rfl, e22, (by decide : 0 + 0 ≤ _), (by decide : 0 + 0 ≤ _)⟩)
              dsimp only [Pt.U, Pt.locs, Pt.cells, Pt.slots] at X25 l25 y25 z25 st25 hQ25
              subst l25 y25 z25
              obtain ⟨rfl, N25, e25⟩ := hQ25
              refine own_by (B := T25.setTop (mkF m 142 #[.val (.int ua), .val (.int ub), .val (.int ((ua &&& (2147483647 : Int32)) % (6 : Int32))), .val (.ref a_GREATER), .val (.int (0 : Int32))] [(.int (own_f1 ub (0 : Int32) (0 : Int32) (1 : Int32)))])) (fun _ k => st25.trans k) ?_
              have M25 := Fr.app N0 N25
              rw [own_h_GREATER, if_neg hc23]
              refine own_by (B := T25.setTop (mkF m 144 #[.val (.int ua), .val (.int ub), .val (.int ((ua &&& (2147483647 : Int32)) % (6 : Int32))), .val (.ref a_GREATER), .val (.int (0 : Int32))] [(.int (0 : Int32)), (.int (0 : Int32))])) (fun _ k => XS.iload X25.here hx rfl (hb hby at_142) rfl  k) ?_
              refine own_by (B := T25.setTop (mkF m 147 #[.val (.int ua), .val (.int ub), .val (.int ((ua &&& (2147483647 : Int32)) % (6 : Int32))), .val (.ref a_GREATER), .val (.int (0 : Int32))] [])) (fun _ k => XS.icmpNo X25.here hx rfl (hb hby at_144) rfl (XT.ii_ne_f (by decide)) k) ?_
              refine own_by (B := T25.setTop (mkF m 148 #[.val (.int ua), .val (.int ub), .val (.int ((ua &&& (2147483647 : Int32)) % (6 : Int32))), .val (.ref a_GREATER), .val (.int (0 : Int32))] [(.int (1 : Int32))])) (fun _ k => XS.iconst X25.here hx rfl (hb hby at_147) k) ?_
              refine own_by (B := T25.setTop (mkF m 152 #[.val (.int ua), .val (.int ub), .val (.int ((ua &&& (2147483647 : Int32)) % (6 : Int32))), .val (.ref a_GREATER), .val (.int (0 : Int32))] [(.int (1 : Int32))])) (fun _ k => XS.goto X25.here hx rfl (pc0 := 148) (pc' := 152) rfl (hb hby at_148) (by decide) (by decide) k) ?_
              exact own_retZ X25 hx hrt hlk rfl (hb hby at_152) (by decide) (by decide) ⟨rfl, M25⟩
          · refine own_by (B := s₁.setTop (mkF m 122 #[.val (.int ua), .val (.int ub), .val (.int ((ua &&& (2147483647 : Int32)) % (6 : Int32))), .unset, .unset] [])) (fun _ k => XS.icmpYes X0.here hx rfl (pc0 := 101) (pc' := 122) rfl (hb hby at_101) rfl (XT.ii_ne_t hc21) (by decide) (by decide) k) ?_
            obtain ⟨T26, X26, e26, st26⟩ := getS2 X0 hx hZ hown (host := "") (Or.inl (hw _ (List.mem_of_getElem? (i := 19) rfl))) Via.refl e0 S_GREATER_OR_EQUAL (g := (mkF m 122 #[.val (.int ua), .val (.int ub), .val (.int ((ua &&& (2147483647 : Int32)) % (6 : Int32))), .unset, .unset] [])) rfl (hb hby at_122)
            refine own_by (B := T26.setTop (mkF m 125 #[.val (.int ua), .val (.int ub), .val (.int ((ua &&& (2147483647 : Int32)) % (6 : Int32))), .unset, .unset] [(.ref a_GREATER_OR_EQUAL)])) st26 ?_
            refine own_by (B := T26.setTop (mkF m 126 #[.val (.int ua), .val (.int ub), .val (.int ((ua &&& (2147483647 : Int32)) % (6 : Int32))), .val (.ref a_GREATER_OR_EQUAL), .unset] [])) (fun _ k => XS.astoreN X26.here hx rfl (hb hby at_125) rfl rfl (l' := #[.val (.int ua), .val (.int ub), .val (.int ((ua &&& (2147483647 : Int32)) % (6 : Int32))), .val (.ref a_GREATER_OR_EQUAL), .unset]) rfl k) ?_
            refine own_by (B := T26.setTop (mkF m 127 #[.val (.int ua), .val (.int ub), .val (.int ((ua &&& (2147483647 : Int32)) % (6 : Int32))), .val (.ref a_GREATER_OR_EQUAL), .unset] [(.int ub)])) (fun _ k => XS.iloadN X26.here hx rfl (hb hby at_126) rfl  k) ?_
            by_cases hc27 : ub < (0 : Int32)
            · refine own_by (B := T26.setTop (mkF m 134 #[.val (.int ua), .val (.int ub), .val (.int ((ua &&& (2147483647 : Int32)) % (6 : Int32))), .val (.ref a_GREATER_OR_EQUAL), .unset] [])) (fun _ k => XS.ifYes X26.here hx rfl (pc0 := 127) (pc' := 134) rfl (hb hby at_127) rfl (XT.i0_lt_t hc27) (by decide) (by decide) k) ?_
              refine own_by (B := T26.setTop (mkF m 135 #[.val (.int ua), .val (.int ub), .val (.int ((ua &&& (2147483647 : Int32)) % (6 : Int32))), .val (.ref a_GREATER_OR_EQUAL), .unset] [(.int (0 : Int32))])) (fun _ k => XS.iconst X26.here hx rfl (hb hby at_134) k) ?_
              refine own_by (B := T26.setTop (mkF m 137 #[.val (.int ua), .val (.int ub), .val (.int ((ua &&& (2147483647 : Int32)) % (6 : Int32))), .val (.ref a_GREATER_OR_EQUAL), .val (.int (0 : Int32))] [])) (fun _ k => XS.istore X26.here hx rfl (hb hby at_135) rfl (l' := #[.val (.int ua), .val (.int ub), .val (.int ((ua &&& (2147483647 : Int32)) % (6 : Int32))), .val (.ref a_GREATER_OR_EQUAL), .val (.int (0 : Int32))]) rfl k) ?_
              refine own_by (B := T26.setTop (mkF m 138 #[.val (.int ua), .val (.int ub), .val (.int ((ua &&& (2147483647 : Int32)) % (6 : Int32))), .val (.ref a_GREATER_OR_EQUAL), .val (.int (0 : Int32))] [(.ref a_GREATER_OR_EQUAL)])) (fun _ k => XS.aloadN X26.here hx rfl (hb hby at_137) rfl rfl  k) ?_
              refine own_by (B := T26.setTop (mkF m 139 #[.val (.int ua), .val (.int ub), .val (.int ((ua &&& (2147483647 : Int32)) % (6 : Int32))), .val (.ref a_GREATER_OR_EQUAL), .val (.int (0 : Int32))] [(.int ub), (.ref a_GREATER_OR_EQUAL)])) (fun _ k => XS.iloadN X26.here hx rfl (hb hby at_138) rfl  k) ?_
              obtain ⟨cq28, kq28, qa28, qb28, qc28⟩ := isOf hZ e26 E_GREATER_OR_EQUAL
              obtain ⟨_, _, ⟨T28, L28, k28, n28⟩, -, X28, ⟨Lc28, hQ28, l28, y28, z28⟩, st28⟩ := X26.virtualBack hx (y := (⟨"com/example/convene/convene/engine/ComparisonOperator", "holds", "(I)Z"⟩ : MethodName)) (z := (⟨"com/example/convene/convene/engine/ComparisonOperator", "holds", "(I)Z"⟩ : MethodName)) hown (mvT hZ (hw _ (List.mem_of_getElem? (i := 4) rfl))) (mvT hZ (hw _ (List.mem_of_getElem? (i := 5) rfl))) (notFace_of_selects (args := #[]) (mvT hZ (hw _ (List.mem_of_getElem? (i := 7) rfl)))) (mvT hZ (hw _ (List.mem_of_getElem? (i := 7) rfl))) (mvT hZ (hw _ (List.mem_of_getElem? (i := 6) rfl))) (by decide) (backOf (W := 0) (rm1 l Z a0 hw [] a_GREATER_OR_EQUAL ub (0 : Int32) (1 : Int32) (1 : Int32) h0 n0 Z0 F_GREATER_OR_EQUAL_whenLess rfl F_GREATER_OR_EQUAL_whenEqual rfl F_GREATER_OR_EQUAL_whenGreater rfl) hZ (hw _ (List.mem_of_getElem? (i := 8) rfl)) (hw _ (List.mem_of_getElem? (i := 2) rfl)) (by decide) (by decide)) qa28 qc28 (g := (mkF m 139 #[.val (.int ua), .val (.int ub), .val (.int ((ua &&& (2147483647 : Int32)) % (6 : Int32))), .val (.ref a_GREATER_OR_EQUAL), .val (.int (0 : Int32))] [(.int ub), (.ref a_GREATER_OR_EQUAL)])) rfl (by rw [hml]; rfl) (Steps.refl _) (argsL := [(.int ub)]) (rest := []) (lenOf pd_0__I_Z rfl) rfl (by show 2 * 0 + _ ≤ _; exact Nat.le_of_eq rfl) (hb hby at_139) (fun _ _ => ⟨rfl, e26, (by decide : 0 + 0 ≤ _), (by decide : 0 + 0 ≤ _)⟩)
              dsimp only [Pt.U, Pt.locs, Pt.cells, Pt.slots] at X28 l28 y28 z28 st28 hQ28
              subst l28 y28 z28
              obtain ⟨rfl, N28, e28⟩ := hQ28
              refine own_by (B := T28.setTop (mkF m 142 #[.val (.int ua), .val (.int ub), .val (.int ((ua &&& (2147483647 : Int32)) % (6 : Int32))), .val (.ref a_GREATER_OR_EQUAL), .val (.int (0 : Int32))] [(.int (own_f1 ub (0 : Int32) (1 : Int32) (1 : Int32)))])) (fun _ k => st28.trans k) ?_
              have M28 := Fr.app N0 N28
              rw [own_h_GREATER_OR_EQUAL, if_pos hc27]
              refine own_by (B := T28.setTop (mkF m 144 #[.val (.int ua), .val (.int ub), .val (.int ((ua &&& (2147483647 : Int32)) % (6 : Int32))), .val (.ref a_GREATER_OR_EQUAL), .val (.int (0 : Int32))] [(.int (0 : Int32)), (.int (0 : Int32))])) (fun _ k => XS.iload X28.here hx rfl (hb hby at_142) rfl  k) ?_
              refine own_by (B := T28.setTop (mkF m 147 #[.val (.int ua), .val (.int ub), .val (.int ((ua &&& (2147483647 : Int32)) % (6 : Int32))), .val (.ref a_GREATER_OR_EQUAL), .val (.int (0 : Int32))] [])) (fun _ k => XS.icmpNo X28.here hx rfl (hb hby at_144) rfl (XT.ii_ne_f (by decide)) k) ?_
              refine own_by (B := T28.setTop (mkF m 148 #[.val (.int ua), .val (.int ub), .val (.int ((ua &&& (2147483647 : Int32)) % (6 : Int32))), .val (.ref a_GREATER_OR_EQUAL), .val (.int (0 : Int32))] [(.int (1 : Int32))])) (fun _ k => XS.iconst X28.here hx rfl (hb hby at_147) k) ?_
              refine own_by (B := T28.setTop (mkF m 152 #[.val (.int ua), .val (.int ub), .val (.int ((ua &&& (2147483647 : Int32)) % (6 : Int32))), .val (.ref a_GREATER_OR_EQUAL), .val (.int (0 : Int32))] [(.int (1 : Int32))])) (fun _ k => XS.goto X28.here hx rfl (pc0 := 148) (pc' := 152) rfl (hb hby at_148) (by decide) (by decide) k) ?_
              exact own_retZ X28 hx hrt hlk rfl (hb hby at_152) (by decide) (by decide) ⟨rfl, M28⟩
            · refine own_by (B := T26.setTop (mkF m 130 #[.val (.int ua), .val (.int ub), .val (.int ((ua &&& (2147483647 : Int32)) % (6 : Int32))), .val (.ref a_GREATER_OR_EQUAL), .unset] [])) (fun _ k => XS.ifNo X26.here hx rfl (hb hby at_127) rfl (XT.i0_lt_f hc27) k) ?_
              refine own_by (B := T26.setTop (mkF m 131 #[.val (.int ua), .val (.int ub), .val (.int ((ua &&& (2147483647 : Int32)) % (6 : Int32))), .val (.ref a_GREATER_OR_EQUAL), .unset] [(.int (1 : Int32))])) (fun _ k => XS.iconst X26.here hx rfl (hb hby at_130) k) ?_
              refine own_by (B := T26.setTop (mkF m 135 #[.val (.int ua), .val (.int ub), .val (.int ((ua &&& (2147483647 : Int32)) % (6 : Int32))), .val (.ref a_GREATER_OR_EQUAL), .unset] [(.int (1 : Int32))])) (fun _ k => XS.goto X26.here hx rfl (pc0 := 131) (pc' := 135) rfl (hb hby at_131) (by decide) (by decide) k) ?_
              refine own_by (B := T26.setTop (mkF m 137 #[.val (.int ua), .val (.int ub), .val (.int ((ua &&& (2147483647 : Int32)) % (6 : Int32))), .val (.ref a_GREATER_OR_EQUAL), .val (.int (1 : Int32))] [])) (fun _ k => XS.istore X26.here hx rfl (hb hby at_135) rfl (l' := #[.val (.int ua), .val (.int ub), .val (.int ((ua &&& (2147483647 : Int32)) % (6 : Int32))), .val (.ref a_GREATER_OR_EQUAL), .val (.int (1 : Int32))]) rfl k) ?_
              refine own_by (B := T26.setTop (mkF m 138 #[.val (.int ua), .val (.int ub), .val (.int ((ua &&& (2147483647 : Int32)) % (6 : Int32))), .val (.ref a_GREATER_OR_EQUAL), .val (.int (1 : Int32))] [(.ref a_GREATER_OR_EQUAL)])) (fun _ k => XS.aloadN X26.here hx rfl (hb hby at_137) rfl rfl  k) ?_
              refine own_by (B := T26.setTop (mkF m 139 #[.val (.int ua), .val (.int ub), .val (.int ((ua &&& (2147483647 : Int32)) % (6 : Int32))), .val (.ref a_GREATER_OR_EQUAL), .val (.int (1 : Int32))] [(.int ub), (.ref a_GREATER_OR_EQUAL)])) (fun _ k => XS.iloadN X26.here hx rfl (hb hby at_138) rfl  k) ?_
              obtain ⟨cq29, kq29, qa29, qb29, qc29⟩ := isOf hZ e26 E_GREATER_OR_EQUAL
              obtain ⟨_, _, ⟨T29, L29, k29, n29⟩, -, X29, ⟨Lc29, hQ29, l29, y29, z29⟩, st29⟩ := X26.virtualBack hx (y := (⟨"com/example/convene/convene/engine/ComparisonOperator", "holds", "(I)Z"⟩ : MethodName)) (z := (⟨"com/example/convene/convene/engine/ComparisonOperator", "holds", "(I)Z"⟩ : MethodName)) hown (mvT hZ (hw _ (List.mem_of_getElem? (i := 4) rfl))) (mvT hZ (hw _ (List.mem_of_getElem? (i := 5) rfl))) (notFace_of_selects (args := #[]) (mvT hZ (hw _ (List.mem_of_getElem? (i := 7) rfl)))) (mvT hZ (hw _ (List.mem_of_getElem? (i := 7) rfl))) (mvT hZ (hw _ (List.mem_of_getElem? (i := 6) rfl))) (by decide) (backOf (W := 0) (rm1 l Z a0 hw [] a_GREATER_OR_EQUAL ub (0 : Int32) (1 : Int32) (1 : Int32) h0 n0 Z0 F_GREATER_OR_EQUAL_whenLess rfl F_GREATER_OR_EQUAL_whenEqual rfl F_GREATER_OR_EQUAL_whenGreater rfl) hZ (hw _ (List.mem_of_getElem? (i := 8) rfl)) (hw _ (List.mem_of_getElem? (i := 2) rfl)) (by decide) (by decide)) qa29 qc29 (g := (mkF m 139 #[.val (.int ua), .val (.int ub), .val (.int ((ua &&& (2147483647 : Int32)) % (6 : Int32))), .val (.ref a_GREATER_OR_EQUAL), .val (.int (1 : Int32))] [(.int ub), (.ref a_GREATER_OR_EQUAL)])) rfl (by rw [hml]; rfl) (Steps.refl _) (argsL := [(.int ub)]) (rest := []) (lenOf pd_0__I_Z rfl) rfl (by show 2 * 0 + _ ≤ _; exact Nat.le_of_eq rfl) (hb hby at_139) (fun _ _ => ⟨rfl, e26, (by decide : 0 + 0 ≤ _), (by decide : 0 + 0 ≤ _)⟩)
              dsimp only [Pt.U, Pt.locs, Pt.cells, Pt.slots] at X29 l29 y29 z29 st29 hQ29
              subst l29 y29 z29
              obtain ⟨rfl, N29, e29⟩ := hQ29
              refine own_by (B := T29.setTop (mkF m 142 #[.val (.int ua), .val (.int ub), .val (.int ((ua &&& (2147483647 : Int32)) % (6 : Int32))), .val (.ref a_GREATER_OR_EQUAL), .val (.int (1 : Int32))] [(.int (own_f1 ub (0 : Int32) (1 : Int32) (1 : Int32)))])) (fun _ k => st29.trans k) ?_
              have M29 := Fr.app N0 N29
              rw [own_h_GREATER_OR_EQUAL, if_neg hc27]
              refine own_by (B := T29.setTop (mkF m 144 #[.val (.int ua), .val (.int ub), .val (.int ((ua &&& (2147483647 : Int32)) % (6 : Int32))), .val (.ref a_GREATER_OR_EQUAL), .val (.int (1 : Int32))] [(.int (1 : Int32)), (.int (1 : Int32))])) (fun _ k => XS.iload X29.here hx rfl (hb hby at_142) rfl  k) ?_
              refine own_by (B := T29.setTop (mkF m 147 #[.val (.int ua), .val (.int ub), .val (.int ((ua &&& (2147483647 : Int32)) % (6 : Int32))), .val (.ref a_GREATER_OR_EQUAL), .val (.int (1 : Int32))] [])) (fun _ k => XS.icmpNo X29.here hx rfl (hb hby at_144) rfl (XT.ii_ne_f (by decide)) k) ?_
              refine own_by (B := T29.setTop (mkF m 148 #[.val (.int ua), .val (.int ub), .val (.int ((ua &&& (2147483647 : Int32)) % (6 : Int32))), .val (.ref a_GREATER_OR_EQUAL), .val (.int (1 : Int32))] [(.int (1 : Int32))])) (fun _ k => XS.iconst X29.here hx rfl (hb hby at_147) k) ?_
              refine own_by (B := T29.setTop (mkF m 152 #[.val (.int ua), .val (.int ub), .val (.int ((ua &&& (2147483647 : Int32)) % (6 : Int32))), .val (.ref a_GREATER_OR_EQUAL), .val (.int (1 : Int32))] [(.int (1 : Int32))])) (fun _ k => XS.goto X29.here hx rfl (pc0 := 148) (pc' := 152) rfl (hb hby at_148) (by decide) (by decide) k) ?_
              exact own_retZ X29 hx hrt hlk rfl (hb hby at_152) (by decide) (by decide) ⟨rfl, M29⟩

set_option maxRecDepth 65536 in
set_option maxHeartbeats 40000000 in
theorem comes_1 {Post : Tables → Env → Array Value → State → Outcome → State → Prop} (hpost : ∀ tb e args s v u, (limb_1_1.after args s (.returned v) u = true ∧ limb_1_2.after args s (.returned v) u = true ∧ True) → FrameEnd s (.returned v) u (Jvm.fieldLocs frame_1_writes args s ++ Jvm.arrayLocs frame_1_arrays args s ++ Jvm.staticLocs frame_1_statics s) 0 0 → Post tb e args s (.returned v) u) :
    ArmFor flags0 classFile x code maxLocals ret World_1 tables_1 room_1 Calls_1 rest_1 Pre_1 Post := by
  intro l hfl _ _ p e ha hc hk s m args below hf hA hF happ hP
  obtain ⟨hcalls, hrest, hpre⟩ := hP
  obtain ⟨-, -, -, hnamed, -, -, -, hat⟩ := (Spec.applies_iff hf).mp happ
  obtain ⟨hg, hn⟩ := and_e (Cond.before_iff.mp (show (Jvm.Cond.and given_1 narrow_1).before args s = true from hpre))
  obtain ⟨hg1a, hg1b⟩ := and_e hg
  obtain ⟨hg2a, hg2b⟩ := and_e hg1b
  obtain ⟨w0, w1, rfl⟩ : ∃ w0 w1 : Value, args = #[w0, w1] := by
    have hs : args.size = 2 := by simpa [Cond.value, given_1] using hg1a
    obtain ⟨L⟩ := args
    match L, hs with
    | [w0, w1], _ => exact ⟨w0, w1, rfl⟩
  have hw := fun d (hd : d ∈ tables_1) => atoms_spec (ws := Jvm.Cond.code x code maxLocals ret :: tables_1) hat d (List.mem_cons_of_mem _ hd)
  have hfit : Fit s := fun {y c} hc i hi => by
    obtain ⟨ha, rfl⟩ := Array.getElem?_eq_some_iff.mp hc
    have q := List.all_eq_true.mp ((Array.all_eq_true_iff_forall_mem.mp hF) _ (Array.getElem_mem ha)) i (List.mem_range.mpr hi)
    simpa [Array.getElem?_eq_getElem hi] using q
  obtain ⟨i0, ei0⟩ := is_v hg2a
  obtain rfl : w0 = (.int i0) := Option.some.inj ei0
  obtain ⟨i1, ei1⟩ := is_v hg2b
  obtain rfl : w1 = (.int i1) := Option.some.inj ei1
  obtain ⟨hn1a, hn1b⟩ := and_e hn
  obtain ⟨hn2a, hn2b⟩ := and_e hn1b
  obtain ⟨hn3a, hn3b⟩ := and_e hn2b
  obtain ⟨hn4a, hn4b⟩ := and_e hn3b
  obtain ⟨hn5a, hn5b⟩ := and_e hn4b
  obtain ⟨hn6a, hn6b⟩ := and_e hn5b
  obtain ⟨hn7a, hn7b⟩ := and_e hn6b
  obtain ⟨hn8a, hn8b⟩ := and_e hn7b
  obtain ⟨hn9a, hn9b⟩ := and_e hn8b
  obtain ⟨hn10a, hn10b⟩ := and_e hn9b
  obtain ⟨hn11a, hn11b⟩ := and_e hn10b
  obtain ⟨hn12a, hn12b⟩ := and_e hn11b
  obtain ⟨hn13a, hn13b⟩ := and_e hn12b
  obtain ⟨hn14a, hn14b⟩ := and_e hn13b
  obtain ⟨hn15a, hn15b⟩ := and_e hn14b
  obtain ⟨hn16a, hn16b⟩ := and_e hn15b
  obtain ⟨hn17a, hn17b⟩ := and_e hn16b
  obtain ⟨hn18a, hn18b⟩ := and_e hn17b
  obtain ⟨hn19a, hn19b⟩ := and_e hn18b
  obtain ⟨hn20a, hn20b⟩ := and_e hn19b
  obtain ⟨hn21a, hn21b⟩ := and_e hn20b
  obtain ⟨hn22a, hn22b⟩ := and_e hn21b
  obtain ⟨hn23a, hn23b⟩ := and_e hn22b
  obtain ⟨a_EQUAL, ev_EQUAL⟩ := exa_v hn1a
  have E_EQUAL : Exa s s.heap a_EQUAL "com/example/convene/convene/engine/ComparisonOperator" := Exa.start ev_EQUAL hn1a
  have S_EQUAL : Sta s s.heap "com/example/convene/convene/engine/ComparisonOperator" "EQUAL" "Lcom/example/convene/convene/engine/ComparisonOperator;" (.ref a_EQUAL) := Sta.start ev_EQUAL (Or.inr ⟨(hw _ (List.mem_of_getElem? (i := 2) rfl)), (hw _ (List.mem_of_getElem? (i := 3) rfl))⟩)
  obtain ⟨a_LESS, ev_LESS⟩ := exa_v hn3a
  have E_LESS : Exa s s.heap a_LESS "com/example/convene/convene/engine/ComparisonOperator" := Exa.start ev_LESS hn3a
  have S_LESS : Sta s s.heap "com/example/convene/convene/engine/ComparisonOperator" "LESS" "Lcom/example/convene/convene/engine/ComparisonOperator;" (.ref a_LESS) := Sta.start ev_LESS (Or.inr ⟨(hw _ (List.mem_of_getElem? (i := 2) rfl)), (hw _ (List.mem_of_getElem? (i := 12) rfl))⟩)
  obtain ⟨a_GREATER, ev_GREATER⟩ := exa_v hn6a
  have E_GREATER : Exa s s.heap a_GREATER "com/example/convene/convene/engine/ComparisonOperator" := Exa.start ev_GREATER hn6a
  have S_GREATER : Sta s s.heap "com/example/convene/convene/engine/ComparisonOperator" "GREATER" "Lcom/example/convene/convene/engine/ComparisonOperator;" (.ref a_GREATER) := Sta.start ev_GREATER (Or.inr ⟨(hw _ (List.mem_of_getElem? (i := 2) rfl)), (hw _ (List.mem_of_getElem? (i := 16) rfl))⟩)
  obtain ⟨a_NOT_EQUAL, ev_NOT_EQUAL⟩ := exa_v hn8a
  have E_NOT_EQUAL : Exa s s.heap a_NOT_EQUAL "com/example/convene/convene/engine/ComparisonOperator" := Exa.start ev_NOT_EQUAL hn8a
  have S_NOT_EQUAL : Sta s s.heap "com/example/convene/convene/engine/ComparisonOperator" "NOT_EQUAL" "Lcom/example/convene/convene/engine/ComparisonOperator;" (.ref a_NOT_EQUAL) := Sta.start ev_NOT_EQUAL (Or.inr ⟨(hw _ (List.mem_of_getElem? (i := 2) rfl)), (hw _ (List.mem_of_getElem? (i := 18) rfl))⟩)
  obtain ⟨a_GREATER_OR_EQUAL, ev_GREATER_OR_EQUAL⟩ := exa_v hn11a
  have E_GREATER_OR_EQUAL : Exa s s.heap a_GREATER_OR_EQUAL "com/example/convene/convene/engine/ComparisonOperator" := Exa.start ev_GREATER_OR_EQUAL hn11a
  have S_GREATER_OR_EQUAL : Sta s s.heap "com/example/convene/convene/engine/ComparisonOperator" "GREATER_OR_EQUAL" "Lcom/example/convene/convene/engine/ComparisonOperator;" (.ref a_GREATER_OR_EQUAL) := Sta.start ev_GREATER_OR_EQUAL (Or.inr ⟨(hw _ (List.mem_of_getElem? (i := 2) rfl)), (hw _ (List.mem_of_getElem? (i := 20) rfl))⟩)
  obtain ⟨a_LESS_OR_EQUAL, ev_LESS_OR_EQUAL⟩ := exa_v hn13a
  have E_LESS_OR_EQUAL : Exa s s.heap a_LESS_OR_EQUAL "com/example/convene/convene/engine/ComparisonOperator" := Exa.start ev_LESS_OR_EQUAL hn13a
  have S_LESS_OR_EQUAL : Sta s s.heap "com/example/convene/convene/engine/ComparisonOperator" "LESS_OR_EQUAL" "Lcom/example/convene/convene/engine/ComparisonOperator;" (.ref a_LESS_OR_EQUAL) := Sta.start ev_LESS_OR_EQUAL (Or.inr ⟨(hw _ (List.mem_of_getElem? (i := 2) rfl)), (hw _ (List.mem_of_getElem? (i := 22) rfl))⟩)
  have F_EQUAL_whenGreater : Fld s s.heap a_EQUAL "com/example/convene/convene/engine/ComparisonOperator" "whenGreater" "Z" (.int (0 : Int32)) := Fld.start ((fld_at ev_EQUAL).symm.trans (eqv_i (Term.int_eval _) hn2a))
  have F_LESS_whenGreater : Fld s s.heap a_LESS "com/example/convene/convene/engine/ComparisonOperator" "whenGreater" "Z" (.int (0 : Int32)) := Fld.start ((fld_at ev_LESS).symm.trans (eqv_i (Term.int_eval _) hn4a))
  have F_LESS_whenLess : Fld s s.heap a_LESS "com/example/convene/convene/engine/ComparisonOperator" "whenLess" "Z" (.int (1 : Int32)) := Fld.start ((fld_at ev_LESS).symm.trans (eqv_i (Term.int_eval _) hn5a))
  have F_GREATER_whenLess : Fld s s.heap a_GREATER "com/example/convene/convene/engine/ComparisonOperator" "whenLess" "Z" (.int (0 : Int32)) := Fld.start ((fld_at ev_GREATER).symm.trans (eqv_i (Term.int_eval _) hn7a))
  have F_NOT_EQUAL_whenGreater : Fld s s.heap a_NOT_EQUAL "com/example/convene/convene/engine/ComparisonOperator" "whenGreater" "Z" (.int (1 : Int32)) := Fld.start ((fld_at ev_NOT_EQUAL).symm.trans (eqv_i (Term.int_eval _) hn9a))
  have F_EQUAL_whenLess : Fld s s.heap a_EQUAL "com/example/convene/convene/engine/ComparisonOperator" "whenLess" "Z" (.int (0 : Int32)) := Fld.start ((fld_at ev_EQUAL).symm.trans (eqv_i (Term.int_eval _) hn10a))
  have F_GREATER_OR_EQUAL_whenGreater : Fld s s.heap a_GREATER_OR_EQUAL "com/example/convene/convene/engine/ComparisonOperator" "whenGreater" "Z" (.int (1 : Int32)) := Fld.start ((fld_at ev_GREATER_OR_EQUAL).symm.trans (eqv_i (Term.int_eval _) hn12a))
  have F_LESS_OR_EQUAL_whenGreater : Fld s s.heap a_LESS_OR_EQUAL "com/example/convene/convene/engine/ComparisonOperator" "whenGreater" "Z" (.int (0 : Int32)) := Fld.start ((fld_at ev_LESS_OR_EQUAL).symm.trans (eqv_i (Term.int_eval _) hn14a))
  have F_LESS_OR_EQUAL_whenLess : Fld s s.heap a_LESS_OR_EQUAL "com/example/convene/convene/engine/ComparisonOperator" "whenLess" "Z" (.int (1 : Int32)) := Fld.start ((fld_at ev_LESS_OR_EQUAL).symm.trans (eqv_i (Term.int_eval _) hn15a))
  have F_GREATER_whenGreater : Fld s s.heap a_GREATER "com/example/convene/convene/engine/ComparisonOperator" "whenGreater" "Z" (.int (1 : Int32)) := Fld.start ((fld_at ev_GREATER).symm.trans (eqv_i (Term.int_eval _) hn16a))
  have F_NOT_EQUAL_whenLess : Fld s s.heap a_NOT_EQUAL "com/example/convene/convene/engine/ComparisonOperator" "whenLess" "Z" (.int (1 : Int32)) := Fld.start ((fld_at ev_NOT_EQUAL).symm.trans (eqv_i (Term.int_eval _) hn17a))
  have F_GREATER_OR_EQUAL_whenLess : Fld s s.heap a_GREATER_OR_EQUAL "com/example/convene/convene/engine/ComparisonOperator" "whenLess" "Z" (.int (0 : Int32)) := Fld.start ((fld_at ev_GREATER_OR_EQUAL).symm.trans (eqv_i (Term.int_eval _) hn18a))
  have F_LESS_OR_EQUAL_whenEqual : Fld s s.heap a_LESS_OR_EQUAL "com/example/convene/convene/engine/ComparisonOperator" "whenEqual" "Z" (.int (1 : Int32)) := Fld.start ((fld_at ev_LESS_OR_EQUAL).symm.trans (eqv_i (Term.int_eval _) hn19a))
  have F_EQUAL_whenEqual : Fld s s.heap a_EQUAL "com/example/convene/convene/engine/ComparisonOperator" "whenEqual" "Z" (.int (1 : Int32)) := Fld.start ((fld_at ev_EQUAL).symm.trans (eqv_i (Term.int_eval _) hn20a))
  have F_LESS_whenEqual : Fld s s.heap a_LESS "com/example/convene/convene/engine/ComparisonOperator" "whenEqual" "Z" (.int (0 : Int32)) := Fld.start ((fld_at ev_LESS).symm.trans (eqv_i (Term.int_eval _) hn21a))
  have F_NOT_EQUAL_whenEqual : Fld s s.heap a_NOT_EQUAL "com/example/convene/convene/engine/ComparisonOperator" "whenEqual" "Z" (.int (0 : Int32)) := Fld.start ((fld_at ev_NOT_EQUAL).symm.trans (eqv_i (Term.int_eval _) hn22a))
  have F_GREATER_whenEqual : Fld s s.heap a_GREATER "com/example/convene/convene/engine/ComparisonOperator" "whenEqual" "Z" (.int (0 : Int32)) := Fld.start ((fld_at ev_GREATER).symm.trans (eqv_i (Term.int_eval _) hn23a))
  have F_GREATER_OR_EQUAL_whenEqual : Fld s s.heap a_GREATER_OR_EQUAL "com/example/convene/convene/engine/ComparisonOperator" "whenEqual" "Z" (.int (1 : Int32)) := Fld.start ((fld_at ev_GREATER_OR_EQUAL).symm.trans (eqv_i (Term.int_eval _) hn23b))
  obtain ⟨n, o, h1, h2, h3, _, L, rfl, ⟨rfl, N⟩, hq⟩ := rm0 l s _ hw tables_1 a_EQUAL a_LESS a_GREATER a_NOT_EQUAL a_GREATER_OR_EQUAL a_LESS_OR_EQUAL i0 i1 s.heap s.heap.size (Nat.le_refl _) ⟨S_EQUAL, E_EQUAL, S_LESS, E_LESS, S_GREATER, E_GREATER, S_NOT_EQUAL, E_NOT_EQUAL, S_GREATER_OR_EQUAL, E_GREATER_OR_EQUAL, S_LESS_OR_EQUAL, E_LESS_OR_EQUAL, F_EQUAL_whenGreater, F_LESS_whenGreater, F_LESS_whenLess, F_GREATER_whenLess, F_NOT_EQUAL_whenGreater, F_EQUAL_whenLess, F_GREATER_OR_EQUAL_whenGreater, F_LESS_OR_EQUAL_whenGreater, F_LESS_OR_EQUAL_whenLess, F_GREATER_whenGreater, F_NOT_EQUAL_whenLess, F_GREATER_OR_EQUAL_whenLess, F_LESS_OR_EQUAL_whenEqual, F_EQUAL_whenEqual, F_LESS_whenEqual, F_NOT_EQUAL_whenEqual, F_GREATER_whenEqual, F_GREATER_OR_EQUAL_whenEqual⟩ p e ha hc hk s m _ below hf ((Spec.applies_iff_loose hf).mp happ).1 ⟨rfl, State.Warmed39.refl s, rfl⟩ trivial
  refine ⟨n, _, h1, h2, h3, hpost _ _ _ _ _ _ ⟨Cond.after_iff.mpr rfl, Cond.after_iff.mpr (eq_i res_at (Term.int_eval (1)) rfl), trivial⟩ ⟨hq.1, hq.2.1, (hq.2.2.sift fun y hy => Or.inr (N y hy)).mono (by decide) (by decide)⟩⟩
theorem main_1_1 : Claimed_1_1 := comes_1 fun _ _ _ _ _ _ h hF => ⟨h.1, hF⟩
theorem main_1_2 : Claimed_1_2 := comes_1 fun _ _ _ _ _ _ h hF => ⟨h.2.1, hF⟩
end Jvm.Pilot.@@N@@
namespace Jvm.Pilot.@@N@@
open Jvm Jvm.ClassFile Sem Op Lib Jvm.Free Jvm.Stand Jvm.Pilot.@@N@@.Jvm.D
/-! MADE BY PROGRAM (witnessworld.py) out of the Statement's table words and the real class files: 12 classes; the members and pool entries that the words name. The judged class is class 1, her method 1. -/
namespace start1
open Jvm.ClassFile
def u (s : String) : CpInfo := .utf8 (stringToUtf16 s)
/-- a pool by its gaps: so many unusable entries, then the entry; so many at the end -/
def gap : Nat → List CpInfo → List CpInfo
  | 0, r => r
  | n + 1, r => .unusable :: gap n r
def poolList (es : List (Nat × CpInfo)) (last : Nat) : List CpInfo := es.foldr (fun e r => gap e.1 (e.2 :: r)) (gap last [])
def pool (es : List (Nat × CpInfo)) (last : Nat) : Array CpInfo := ⟨poolList es last⟩
def fileOf (pool : Array CpInfo) (this : Nat) (attrs : Array Attribute := #[]) (ms : Array MethodInfo := #[]) (fl : Nat := 33) (sup : Nat := 0) (ifs : Array Nat := #[]) (fds : Array FieldInfo := #[]) : ClassFile where
  minorVersion := 0
  majorVersion := 65
  constantPool := pool
  accessFlags := fl
  thisClass := this
  superClass := sup
  interfaces := ifs
  fields := fds
  methods := ms
  attributes := attrs
def plain (name : String) (sup : Option ClassId) : Class where
  name := name
  kind := .ordinary
  loader := none
  accessFlags := 33
  super := sup
  interfaces := #[]
  cf := none
  fields := #[]
  methods := #[]
  instanceTypes := #[]
  staticTypes := #[]
  resolved := #[]
  callSites := []
  init := .initialized
  statics := none
  mirror := none

def pool0 : Array CpInfo := pool [(5, u "<init>"), (0, u "()V"), (1, .class_ 10), (1, u "java/lang/Object")] 113

def k0m0 : Method := { name := "<init>", desc := "()V", sig := { parameters := [], returnType := none }, accessFlags := 1, code := none }
/-- java/lang/Object -/
def k0 : Class := { plain "java/lang/Object" none with
  accessFlags := 33
  interfaces := #[]
  cf := some (fileOf pool0 8 #[] #[{ accessFlags := 1, nameIndex := 5, descriptorIndex := 6, attributes := #[] }] 33 0 #[] #[])
  fields := #[]
  methods := #[k0m0]
  instanceTypes := #[]
  staticTypes := #[]
  resolved := Array.replicate 124 none
  statics := none }

def pool1 : Array CpInfo := pool [(2, .class_ 4), (1, u "java/lang/Object"), (0, u "<init>"), (0, u "()V"), (0, .integer 2147483647), (0, .fieldref 9 10), (0, .class_ 11), (0, .nameAndType 12 13), (0, u "com/example/convene/convene/engine/ComparisonOperator"), (0, u "EQUAL"), (0, u "Lcom/example/convene/convene/engine/ComparisonOperator;"), (0, .fieldref 9 15), (0, .nameAndType 16 13), (0, u "NOT_EQUAL"), (0, .fieldref 9 18), (0, .nameAndType 19 13), (0, u "LESS"), (0, .fieldref 9 21), (0, .nameAndType 22 13), (0, u "LESS_OR_EQUAL"), (0, .fieldref 9 24), (0, .nameAndType 25 13), (0, u "GREATER"), (0, .fieldref 9 27), (0, .nameAndType 28 13), (0, u "GREATER_OR_EQUAL"), (0, .methodref 9 30), (0, .nameAndType 31 32), (0, u "holds"), (0, u "(I)Z"), (0, .class_ 34), (0, u "com/example/convene/convene/engine/ComparisonOperatorHoldsPinLaw"), (2, u "law"), (0, u "(II)Z")] 3

def k1m0 : Method := { name := "<init>", desc := "()V", sig := { parameters := [], returnType := none }, accessFlags := 1, code := none }
def k1c1 : Code := { maxStack := 2, maxLocals := 5, code := code, exceptionTable := #[], attributes := #[] }
def k1m1 : Method := { name := "law", desc := "(II)Z", sig := { parameters := [.int, .int], returnType := some .boolean }, accessFlags := 9, code := some k1c1 }
/-- com/example/convene/convene/engine/ComparisonOperatorHoldsPinLaw -/
def k1 : Class := { plain "com/example/convene/convene/engine/ComparisonOperatorHoldsPinLaw" (some 0) with
  accessFlags := 49
  interfaces := #[]
  cf := some (fileOf pool1 33 #[] #[{ accessFlags := 1, nameIndex := 5, descriptorIndex := 6, attributes := #[] }, { accessFlags := 9, nameIndex := 37, descriptorIndex := 38, attributes := #[] }] 49 2 #[] #[])
  fields := #[]
  methods := #[k1m0, k1m1]
  instanceTypes := #[]
  staticTypes := #[]
  resolved := Array.replicate 42 none
  statics := none }

def pool2 : Array CpInfo := pool [(1, .class_ 2), (0, u "java/lang/constant/Constable"), (0, .class_ 4), (0, u "java/lang/Object")] 6

/-- java/lang/constant/Constable -/
def k2 : Class := { plain "java/lang/constant/Constable" (some 0) with
  accessFlags := 1537
  interfaces := #[]
  cf := some (fileOf pool2 1 #[] #[] 1537 3 #[] #[])
  fields := #[]
  methods := #[]
  instanceTypes := #[]
  staticTypes := #[]
  resolved := Array.replicate 11 none
  statics := none }

def pool3 : Array CpInfo := pool [(1, .class_ 2), (0, u "java/lang/Comparable"), (0, .class_ 4), (0, u "java/lang/Object")] 7

/-- java/lang/Comparable -/
def k3 : Class := { plain "java/lang/Comparable" (some 0) with
  accessFlags := 1537
  interfaces := #[]
  cf := some (fileOf pool3 1 #[] #[] 1537 3 #[] #[])
  fields := #[]
  methods := #[]
  instanceTypes := #[]
  staticTypes := #[]
  resolved := Array.replicate 12 none
  statics := none }

def pool4 : Array CpInfo := pool [(1, .class_ 2), (0, u "java/io/Serializable"), (0, .class_ 4), (0, u "java/lang/Object")] 2

/-- java/io/Serializable -/
def k4 : Class := { plain "java/io/Serializable" (some 0) with
  accessFlags := 1537
  interfaces := #[]
  cf := some (fileOf pool4 1 #[] #[] 1537 3 #[] #[])
  fields := #[]
  methods := #[]
  instanceTypes := #[]
  staticTypes := #[]
  resolved := Array.replicate 7 none
  statics := none }

def pool5 : Array CpInfo := pool [(2, .class_ 4), (1, u "java/lang/Enum"), (0, u "name"), (0, u "Ljava/lang/String;"), (2, u "ordinal"), (0, u "I"), (1, .class_ 14), (1, u "java/lang/Object"), (4, u "hash"), (86, .class_ 108), (1, u "java/lang/Enum$EnumDesc"), (2, .class_ 112), (0, u "java/lang/constant/Constable"), (0, .class_ 114), (0, u "java/lang/Comparable"), (0, .class_ 116), (0, u "java/io/Serializable")] 87

/-- java/lang/Enum -/
def k5 : Class := { plain "java/lang/Enum" (some 0) with
  accessFlags := 1057
  interfaces := #[2, 3, 4]
  cf := some (fileOf pool5 2 #[.nestMembers #[106]] #[] 1057 12 #[111, 113, 115] #[{ accessFlags := 18, nameIndex := 5, descriptorIndex := 6, attributes := #[] }, { accessFlags := 18, nameIndex := 9, descriptorIndex := 10, attributes := #[] }, { accessFlags := 2, nameIndex := 19, descriptorIndex := 10, attributes := #[] }])
  fields := #[{ name := "name", type := (.object "java/lang/String"), accessFlags := 18, slot := 0, constantValue := 0 }, { name := "ordinal", type := .int, accessFlags := 18, slot := 1, constantValue := 0 }, { name := "hash", type := .int, accessFlags := 2, slot := 2, constantValue := 0 }]
  methods := #[]
  instanceTypes := #[(.object "java/lang/String"), .int, .int]
  staticTypes := #[]
  resolved := Array.replicate 204 none
  statics := none }

def pool6 : Array CpInfo := pool [(1, .class_ 2), (0, u "com/example/convene/convene/engine/ComparisonOperator"), (2, u "EQUAL"), (0, u "Lcom/example/convene/convene/engine/ComparisonOperator;"), (2, u "NOT_EQUAL"), (2, u "LESS"), (2, u "LESS_OR_EQUAL"), (2, u "GREATER"), (2, u "GREATER_OR_EQUAL"), (2, u "$VALUES"), (0, u "[Lcom/example/convene/convene/engine/ComparisonOperator;"), (6, .class_ 34), (1, u "java/lang/Enum"), (8, u "symbol"), (0, u "Ljava/lang/String;"), (0, .fieldref 1 46), (0, .nameAndType 47 48), (0, u "whenLess"), (0, u "Z"), (0, .fieldref 1 50), (0, .nameAndType 51 48), (0, u "whenEqual"), (0, .fieldref 1 53), (0, .nameAndType 54 48), (0, u "whenGreater"), (55, u "holds"), (0, u "(I)Z")] 5

def k6c0 : Code := { maxStack := 1, maxLocals := 2, code := prog_65_method_8_code, exceptionTable := #[], attributes := #[] }
def k6m0 : Method := { name := "holds", desc := "(I)Z", sig := { parameters := [.int], returnType := some .boolean }, accessFlags := 1, code := some k6c0 }
/-- com/example/convene/convene/engine/ComparisonOperator -/
def k6 : Class := { plain "com/example/convene/convene/engine/ComparisonOperator" (some 5) with
  accessFlags := 16433
  interfaces := #[]
  cf := some (fileOf pool6 1 #[] #[{ accessFlags := 1, nameIndex := 110, descriptorIndex := 111, attributes := #[] }] 16433 32 #[] #[{ accessFlags := 16409, nameIndex := 5, descriptorIndex := 6, attributes := #[] }, { accessFlags := 16409, nameIndex := 9, descriptorIndex := 6, attributes := #[] }, { accessFlags := 16409, nameIndex := 12, descriptorIndex := 6, attributes := #[] }, { accessFlags := 16409, nameIndex := 15, descriptorIndex := 6, attributes := #[] }, { accessFlags := 16409, nameIndex := 18, descriptorIndex := 6, attributes := #[] }, { accessFlags := 16409, nameIndex := 21, descriptorIndex := 6, attributes := #[] }, { accessFlags := 18, nameIndex := 43, descriptorIndex := 44, attributes := #[] }, { accessFlags := 18, nameIndex := 47, descriptorIndex := 48, attributes := #[] }, { accessFlags := 18, nameIndex := 51, descriptorIndex := 48, attributes := #[] }, { accessFlags := 18, nameIndex := 54, descriptorIndex := 48, attributes := #[] }, { accessFlags := 4122, nameIndex := 24, descriptorIndex := 25, attributes := #[] }])
  fields := #[{ name := "EQUAL", type := (.object "com/example/convene/convene/engine/ComparisonOperator"), accessFlags := 16409, slot := 0, constantValue := 0 }, { name := "NOT_EQUAL", type := (.object "com/example/convene/convene/engine/ComparisonOperator"), accessFlags := 16409, slot := 1, constantValue := 0 }, { name := "LESS", type := (.object "com/example/convene/convene/engine/ComparisonOperator"), accessFlags := 16409, slot := 2, constantValue := 0 }, { name := "LESS_OR_EQUAL", type := (.object "com/example/convene/convene/engine/ComparisonOperator"), accessFlags := 16409, slot := 3, constantValue := 0 }, { name := "GREATER", type := (.object "com/example/convene/convene/engine/ComparisonOperator"), accessFlags := 16409, slot := 4, constantValue := 0 }, { name := "GREATER_OR_EQUAL", type := (.object "com/example/convene/convene/engine/ComparisonOperator"), accessFlags := 16409, slot := 5, constantValue := 0 }, { name := "symbol", type := (.object "java/lang/String"), accessFlags := 18, slot := 3, constantValue := 0 }, { name := "whenLess", type := .boolean, accessFlags := 18, slot := 4, constantValue := 0 }, { name := "whenEqual", type := .boolean, accessFlags := 18, slot := 5, constantValue := 0 }, { name := "whenGreater", type := .boolean, accessFlags := 18, slot := 6, constantValue := 0 }, { name := "$VALUES", type := (.array (.object "com/example/convene/convene/engine/ComparisonOperator")), accessFlags := 4122, slot := 6, constantValue := 0 }]
  methods := #[k6m0]
  instanceTypes := #[(.object "java/lang/String"), .int, .int, (.object "java/lang/String"), .boolean, .boolean, .boolean]
  staticTypes := #[(.object "com/example/convene/convene/engine/ComparisonOperator"), (.object "com/example/convene/convene/engine/ComparisonOperator"), (.object "com/example/convene/convene/engine/ComparisonOperator"), (.object "com/example/convene/convene/engine/ComparisonOperator"), (.object "com/example/convene/convene/engine/ComparisonOperator"), (.object "com/example/convene/convene/engine/ComparisonOperator"), (.array (.object "com/example/convene/convene/engine/ComparisonOperator"))]
  resolved := Array.replicate 117 none
  statics := some 0 }

def pool7 : Array CpInfo := pool [(1, u "java/lang/Cloneable"), (0, .class_ 1), (0, u "java/lang/Object"), (0, .class_ 3)] 3

/-- java/lang/Cloneable -/
def k7 : Class := { plain "java/lang/Cloneable" (some 0) with
  accessFlags := 1537
  interfaces := #[]
  cf := some (fileOf pool7 2 #[] #[] 1537 4 #[] #[])
  fields := #[]
  methods := #[]
  instanceTypes := #[]
  staticTypes := #[]
  resolved := Array.replicate 8 none
  statics := none }

/-- the primitive byte -/
def k8 : Class := { plain "byte" none with kind := .primitive 'B', accessFlags := 0x411 }
/-- [B -/
def k9 : Class := { plain "[B" (some 0) with kind := .array 8 .byte, interfaces := #[7, 4], accessFlags := 1041 }

/-- the primitive int -/
def k10 : Class := { plain "int" none with kind := .primitive 'I', accessFlags := 0x411 }
/-- [I -/
def k11 : Class := { plain "[I" (some 0) with kind := .array 10 .int, interfaces := #[7, 4], accessFlags := 1041 }

def heap : Heap := #[{ cls := 6, slots := #[.ref 1, .ref 4, .ref 2, .ref 6, .ref 3, .ref 5, .null], vm := .statics 6 },
  { cls := 6, slots := #[.null, .int 0, .int 0, .null, .int 0, .int 1, .int 0], vm := .none },
  { cls := 6, slots := #[.null, .int 0, .int 0, .null, .int 1, .int 0, .int 0], vm := .none },
  { cls := 6, slots := #[.null, .int 0, .int 0, .null, .int 0, .int 0, .int 1], vm := .none },
  { cls := 6, slots := #[.null, .int 0, .int 0, .null, .int 1, .int 0, .int 1], vm := .none },
  { cls := 6, slots := #[.null, .int 0, .int 0, .null, .int 0, .int 1, .int 1], vm := .none },
  { cls := 6, slots := #[.null, .int 0, .int 0, .null, .int 1, .int 1, .int 0], vm := .none }]
def classes : Array Class := #[k0, k1, k2, k3, k4, k5, k6, k7, k8, k9, k10, k11]
def interned : List (Array UInt16 × Addr) := []
def slotsUsed : Nat := 49
def theMethod : MethodId := ⟨1, 1⟩
def args0 : Array Value := #[.int 5, .int 7]
def aboutOver (below : List Frame) : State where
  vm := { classes := classes, interned := interned.toArray }
  heap := heap
  slotsUsed := slotsUsed
  threads := #[{ frames := .invoking theMethod args0 :: below }]
def below0 : List Frame := [.native { method := ⟨0, 0⟩, args := #[] }]
def about1 : State := aboutOver below0
def p0 : Program := .bare "" "" ""
def e0 : Env := launch0.env 0 0 0
theorem w_frames : about1.frames = Frame.invoking theMethod args0 :: below0 := rfl
set_option maxRecDepth 65536 in
theorem w_args : argsFit about1.vm theMethod args0 = true := by decide +kernel
set_option maxRecDepth 65536 in
theorem w_heap : heapFits about1 = true := by decide +kernel
set_option maxRecDepth 65536 in
theorem w_runnable : about1.curStatus? = some .runnable := by decide +kernel
set_option maxRecDepth 65536 in
theorem w_alone : about1.alone = true := by decide +kernel
set_option maxRecDepth 65536 in
theorem w_named : about1.methodNamed? x = some theMethod := by decide +kernel
set_option maxRecDepth 65536 in
theorem w_hears : about1.hears theMethod below0 = true := by decide +kernel
set_option maxRecDepth 65536 in
theorem w_ripe : about1.ripe theMethod args0 below0 = true := by decide +kernel
theorem w_running : about1.status = .running := rfl
set_option maxRecDepth 65536 in
theorem w_room : about1.hasRoom e0.platform room_1 = true :=
  launch0.hasRoom_least _ room_1 (by decide +kernel) (by decide +kernel) (by decide +kernel) (by decide +kernel) (by decide +kernel) (by decide +kernel)
theorem allAtoms_all (ts : List Jvm.Cond) (a : Array Jvm.Value) (st : Jvm.State) : (allAtoms ts).before a st = ts.all (fun c => c.before a st) := by
  induction ts with
  | nil => rfl
  | cons c t ih =>
    show (Jvm.Cond.and c (allAtoms t)).before a st = _
    rw [Jvm.Cond.before_and, ih, List.all_cons]
def words1 : List Jvm.Cond := Jvm.Cond.code x code maxLocals ret :: tables_1
/-- a 'code' word, met by the world's own term for the bytes: nothing is compared byte by byte -/
theorem code_word {y : MethodName} {bytes : ByteArray} {mx : Nat} {rt : Option FieldType} {a : Array Value} {s : State} {m : MethodId} {meth : Method} {c : Code} (h1 : s.methodNamed? y = some m) (h2 : s.vm.method? m = some meth) (h3 : meth.code = some c) (h4 : c.code = bytes)
    (h5 : (c.maxLocals == mx && c.exceptionTable.isEmpty && decide (c.maxStack ≤ mostOperands) && decide (meth.sig.returnType = rt) && !meth.locks && decide (parseMethodDescriptor y.desc = some meth.sig)) = true) : (Jvm.Cond.code y bytes mx rt).before a s = true := by
  simp only [Bool.and_eq_true, beq_iff_eq, Bool.not_eq_true', decide_eq_true_eq] at h5
  obtain ⟨⟨⟨⟨⟨g1, g2⟩, g3⟩, g4⟩, g5⟩, g6⟩ := h5
  simp [Cond.before, Cond.holds, Cond.value, h1, h2, h3, h4, g1, g2, g3, g4, g5, g6]
def isCode : Jvm.Cond → Bool
  | .code _ _ _ _ => true
  | _ => false
theorem all_split {L : List Jvm.Cond} {P : Jvm.Cond → Bool} (h1 : L.all (fun c => isCode c || P c) = true) (h2 : ∀ c ∈ L.filter isCode, P c = true) : L.all P = true := by
  refine List.all_eq_true.mpr fun c hc => ?_
  have h := List.all_eq_true.mp h1 c hc
  rcases Bool.eq_false_or_eq_true (isCode c) with hi | hi
  · exact h2 c (List.mem_filter.mpr ⟨hc, hi⟩)
  · simpa [hi] using h
set_option maxRecDepth 65536 in
theorem w_c0 : (Jvm.Cond.code x code maxLocals ret).before args0 about1 = true := code_word (m := ⟨1, 1⟩) (meth := k1m1) (c := k1c1) (by decide +kernel) rfl rfl rfl (by decide +kernel)
set_option maxRecDepth 65536 in
theorem w_c1 : (Jvm.Cond.code ({ cls := "com/example/convene/convene/engine/ComparisonOperator", name := "holds", desc := "(I)Z" } : Jvm.MethodName) prog_65_method_8_code (2 : Nat) (Option.some Jvm.ClassFile.FieldType.boolean)).before args0 about1 = true := code_word (m := ⟨6, 0⟩) (meth := k6m0) (c := k6c0) (by decide +kernel) rfl rfl rfl (by decide +kernel)
def codes1 : List Jvm.Cond := [Jvm.Cond.code x code maxLocals ret, Jvm.Cond.code ({ cls := "com/example/convene/convene/engine/ComparisonOperator", name := "holds", desc := "(I)Z" } : Jvm.MethodName) prog_65_method_8_code (2 : Nat) (Option.some Jvm.ClassFile.FieldType.boolean)]
set_option maxRecDepth 65536 in
theorem codes_eq : words1.filter isCode = codes1 := rfl
theorem w_codes : ∀ c ∈ words1.filter isCode, c.before args0 about1 = true := by
  rw [codes_eq]
  intro c hc
  simp only [codes1, List.mem_cons, List.not_mem_nil, or_false] at hc
  rcases hc with rfl | rfl
  · exact w_c0
  · exact w_c1
set_option maxRecDepth 65536 in
theorem w_t1 : (words1.take 24).all (fun c => isCode c || c.before args0 about1) = true := by decide +kernel
set_option maxRecDepth 65536 in
theorem w_t2 : (words1.drop 24).all (fun c => isCode c || c.before args0 about1) = true := by decide +kernel
theorem w_tables : (allAtoms (Jvm.Cond.code x code maxLocals ret :: tables_1)).before args0 about1 = true := by
  rw [allAtoms_all]
  show words1.all (fun c => c.before args0 about1) = true
  refine all_split ?_ w_codes
  rw [← List.take_append_drop 24 words1, List.all_append, w_t1, w_t2]
  rfl
set_option maxRecDepth 65536 in
theorem w_case : (Jvm.Cond.and given_1 narrow_1).before args0 about1 = true := by decide +kernel
theorem w_applies : (headSpec (Jvm.Cond.code x code maxLocals ret :: tables_1) room_1).applies x e0.platform about1 = true :=
  (Spec.applies_iff w_frames).mpr ⟨w_running, w_runnable, w_alone, w_named, w_hears, w_ripe, w_room, w_tables⟩
theorem atStart : AtStart classFile x code maxLocals ret World_1 tables_1 room_1 Calls_1 rest_1 Pre_1 launch0 p0 e0 about1 theMethod args0 below0 :=
  ⟨lists_1, trivial, launch0.admits_env _ _ _, launch0.least_env, fairChoices_fair.cas, fairChoices_fair.clock, w_frames, w_args, w_heap, w_applies, trivial, trivial, w_case⟩
end start1
theorem witness_1 : WitnessClaimed_1 := ⟨start1.p0, start1.e0, start1.about1, start1.theMethod, start1.args0, start1.below0, start1.atStart⟩
end Jvm.Pilot.@@N@@
