import JvmDerived
import JvmDerived.Pilot.@@N@@Statement
import JvmDerived.Pilot.@@N@@Code
set_option linter.unusedVariables false
set_option linter.unusedSimpArgs false

namespace Jvm.Pilot.@@N@@
open Jvm Jvm.ClassFile Sem Op Lib Jvm.Free Jvm.Stand Jvm.LawKit Jvm.RoadKit Bundle Jvm.Pilot.@@N@@.Jvm.D
/-! continuation style: from A the run comes to a state of which K holds -/
def own_Go (tb : Tables) (e : Env) (below : List Frame) (K : State → Prop) (A : State) : Prop := ∃ U, Steps tb e below A U ∧ K U
theorem own_by {tb : Tables} {e : Env} {below : List Frame} {K : State → Prop} {A B : State} (h : ∀ t, Steps tb e below B t → Steps tb e below A t) (k : own_Go tb e below K B) : own_Go tb e below K A := by
  obtain ⟨U, s, q⟩ := k; exact ⟨U, h U s, q⟩
def own_K (s : State) (below : List Frame) (Q : Option Value → Heap → List Loc → Prop) (kc ks : Nat) (U : State) : Prop :=
  ∃ v L, U.status = .running ∧ Ended U below (.returned v) ∧ Q v U.heap L ∧ FrameEnd s (.returned v) U L kc ks
theorem own_done {tb : Tables} {e : Env} {below : List Frame} {s A B : State} {Q : Option Value → Heap → List Loc → Prop} {kc ks : Nat} (h : ∀ t, Steps tb e below B t → Steps tb e below A t) (k : own_Go tb e below (own_K s below Q kc ks) B) :
    ∃ s₂ o, Steps tb e below A s₂ ∧ s₂.status = .running ∧ Ended s₂ below o ∧ ∃ v L, o = .returned v ∧ Q v s₂.heap L ∧ FrameEnd s o s₂ L kc ks := by
  obtain ⟨U, st, v, L, h1, h2, h3, h4⟩ := k
  exact ⟨U, _, h U st, h1, h2, v, L, rfl, h3, h4⟩
theorem own_ne {a b : Nat} (h : a < b ∨ b < a) : a ≠ b := by omega
theorem own_lt {a b : Nat} (h : a < b) : a < b := h
theorem own_cat1 (x : Int32) : Value.category (.int x) = 1 := rfl
theorem own_cat2 (x : Nat) : Value.category (.ref x) = 1 := rfl
theorem own_cat3 : Value.category .null = 1 := rfl
theorem own_cat4 (x : Int64) : Value.category (.long x) = 2 := rfl
section OwnRet
variable {p : Program} {l : Launch} {e : Env} {R : Room} {s : State} {m : MethodId} {args : Array Value} {below : List Frame} {meth : Method} {c : Code} {T : State} {locs : List Loc} {cells slots : Nat} {Q : Option Value → Heap → List Loc → Prop} {kc ks : Nat}
theorem own_retW (X : Stand p l e R s m args below meth c T locs cells slots) (hx : p.tables.exec = Jvm.exec) {pc : Nat} {Ls : Array Slot} {w : Value} {t : FieldType} {i : Instr} {rest : List Value} (hrt : meth.sig.returnType = some t) (hlk : meth.locks = false) (hn : narrow t w = w)
    (hi : (i = .ireturn ∧ (t = .int ∨ t = .boolean ∨ t = .byte ∨ t = .char ∨ t = .short) ∧ ∃ z, w = .int z) ∨ (i = .lreturn ∧ t = .long ∧ ∃ z, w = .long z) ∨ (i = .dreturn ∧ t = .double ∧ ∃ z, w = .double z) ∨ (i = .freturn ∧ t = .float ∧ ∃ z, w = .float z) ∨ (i = .areturn ∧ t.isReference = true ∧ w.isRef = true))
    (hd : decode c.code pc = .ok (i, 1)) (hc : cells ≤ kc) (hs : slots ≤ ks) (hq : Q (some w) T.heap locs) :
    own_Go p.tables e below (own_K s below Q kc ks) (T.setTop (mkF m pc Ls (w :: rest))) := by
  obtain ⟨fs, hr, hrun, hended, hW, hsame⟩ := X.leave (v := some w) (fun h => by rw [hrt] at h; cases h) hlk
  exact ⟨_, retOut X hx hrt hn hi hd hr, some w, locs, hrun, hended, hq, ⟨_, rfl⟩, hW, hsame.mono hc hs⟩
theorem own_retI (X : Stand p l e R s m args below meth c T locs cells slots) (hx : p.tables.exec = Jvm.exec) {pc : Nat} {Ls : Array Slot} {z : Int32} {rest : List Value} (hrt : meth.sig.returnType = some .int) (hlk : meth.locks = false)
    (hd : decode c.code pc = .ok (.ireturn, 1)) (hc : cells ≤ kc) (hs : slots ≤ ks) (hq : Q (some (.int z)) T.heap locs) :
    own_Go p.tables e below (own_K s below Q kc ks) (T.setTop (mkF m pc Ls (.int z :: rest))) :=
  own_retW X hx hrt hlk rfl (Or.inl ⟨rfl, Or.inl rfl, _, rfl⟩) hd hc hs hq
theorem own_retZ (X : Stand p l e R s m args below meth c T locs cells slots) (hx : p.tables.exec = Jvm.exec) {pc : Nat} {Ls : Array Slot} {z : Int32} {rest : List Value} (hrt : meth.sig.returnType = some .boolean) (hlk : meth.locks = false) (hn : narrow .boolean (.int z) = .int z)
    (hd : decode c.code pc = .ok (.ireturn, 1)) (hc : cells ≤ kc) (hs : slots ≤ ks) (hq : Q (some (.int z)) T.heap locs) :
    own_Go p.tables e below (own_K s below Q kc ks) (T.setTop (mkF m pc Ls (.int z :: rest))) :=
  own_retW X hx hrt hlk hn (Or.inl ⟨rfl, Or.inr (Or.inl rfl), _, rfl⟩) hd hc hs hq
theorem own_retJ (X : Stand p l e R s m args below meth c T locs cells slots) (hx : p.tables.exec = Jvm.exec) {pc : Nat} {Ls : Array Slot} {z : Int64} {rest : List Value} (hrt : meth.sig.returnType = some .long) (hlk : meth.locks = false)
    (hd : decode c.code pc = .ok (.lreturn, 1)) (hc : cells ≤ kc) (hs : slots ≤ ks) (hq : Q (some (.long z)) T.heap locs) :
    own_Go p.tables e below (own_K s below Q kc ks) (T.setTop (mkF m pc Ls (.long z :: rest))) :=
  own_retW X hx hrt hlk rfl (Or.inr (Or.inl ⟨rfl, rfl, _, rfl⟩)) hd hc hs hq
theorem own_retA (X : Stand p l e R s m args below meth c T locs cells slots) (hx : p.tables.exec = Jvm.exec) {pc : Nat} {Ls : Array Slot} {w : Value} {t : FieldType} {rest : List Value} (hrt : meth.sig.returnType = some t) (ht : t.isReference = true) (hw : w.isRef = true) (hlk : meth.locks = false)
    (hd : decode c.code pc = .ok (.areturn, 1)) (hc : cells ≤ kc) (hs : slots ≤ ks) (hq : Q (some w) T.heap locs) :
    own_Go p.tables e below (own_K s below Q kc ks) (T.setTop (mkF m pc Ls (w :: rest))) :=
  own_retW X hx hrt hlk (by rcases ref_cases hw with rfl | ⟨a, rfl⟩ <;> cases t <;> first | rfl | (cases ht)) (Or.inr (Or.inr (Or.inr (Or.inr ⟨rfl, ht, hw⟩)))) hd hc hs hq
theorem own_retV (X : Stand p l e R s m args below meth c T locs cells slots) (hx : p.tables.exec = Jvm.exec) {pc : Nat} {Ls : Array Slot} (hrt : meth.sig.returnType = none) (hlk : meth.locks = false)
    (hd : decode c.code pc = .ok (.return_, 1)) (hc : cells ≤ kc) (hs : slots ≤ ks) (hq : Q none T.heap locs) :
    own_Go p.tables e below (own_K s below Q kc ks) (T.setTop (mkF m pc Ls [])) := by
  obtain ⟨fs, hr, hrun, hended, hW, hsame⟩ := X.leave (v := none) (fun _ => rfl) hlk
  exact ⟨_, X.returnOut hx hrt hd hr, none, locs, hrun, hended, hq, ⟨_, rfl⟩, hW, hsame.mono hc hs⟩
theorem own_retB (X : Stand p l e R s m args below meth c T locs cells slots) (hx : p.tables.exec = Jvm.exec) {pc : Nat} {Ls : Array Slot} {z : Int32} {rest : List Value} (hrt : meth.sig.returnType = some .boolean) (hlk : meth.locks = false)
    (hd : decode c.code pc = .ok (.ireturn, 1)) (hc : cells ≤ kc) (hs : slots ≤ ks) (hq : Q (some (.int (z &&& (1 : Int32)))) T.heap locs) :
    own_Go p.tables e below (own_K s below Q kc ks) (T.setTop (mkF m pc Ls (.int z :: rest))) := by
  obtain ⟨fs, hr, hrun, hended, hW, hsame⟩ := X.leave (v := some (.int (nar .boolean z))) (fun h => by rw [hrt] at h; cases h) hlk
  exact ⟨_, retN X hx (t := .boolean) hrt (Or.inl rfl) hd hr, some (.int (nar .boolean z)), locs, hrun, hended, hq, ⟨_, rfl⟩, hW, hsame.mono hc hs⟩
end OwnRet
def own_P (r : Value) (h0 : Heap) (n0 : Nat) (v : Option Value) (h : Heap) (L : List Loc) : Prop := v = some r ∧ Fr n0 L ∧ h = h0
theorem own_selpriv {Z : State} {a0 : Array Value} {y : MethodName} {n : Nat} (wi : (Cond.instantiable y.cls n).before a0 Z = true) (wp : (Cond.privateMethod y).before a0 Z = true) (wm : (Cond.instanceMethod y).before a0 Z = true) (hy : y.cls ≠ "java/lang/invoke/MethodHandle" ∧ y.cls ≠ "java/lang/invoke/VarHandle") : (Cond.selects y.cls y y).before a0 Z = true := by
  obtain ⟨c, k, h1, h2, h3, h4, -⟩ := Cond.instantiable_spec wi
  exact selects_self_of_private h1 h2 (Bool.or_eq_false_iff.mp h4).1 (Cond.privateMethod_at wp) wm hy
theorem own_old_le {Z : State} {n0 : Nat} {h : Heap} (O : Old Z n0 h) : n0 ≤ h.size := by rw [← O.1]; exact O.2.1

def own_PV (h0 : Heap) (n0 : Nat) (v : Option Value) (h : Heap) (L : List Loc) : Prop := v = none ∧ Fr n0 L ∧ h = h0

abbrev own_S := (List (Option Nat)) × (List Int32) × (List Int32) × (List Int32) × (List Int32) × (List Int64) × (List Int32) × (List Int32) × (List Int32) × (List Int64) × (List Int32) × (List Int32) × Int64 × Int32
def own_F (u : own_S) : List (Option Nat) := u.1
def own_ki (u : own_S) : List Int32 := u.2.1
def own_pa (u : own_S) : List Int32 := u.2.2.1
def own_ho (u : own_S) : List Int32 := u.2.2.2.1
def own_fi (u : own_S) : List Int32 := u.2.2.2.2.1
def own_vi (u : own_S) : List Int64 := u.2.2.2.2.2.1
def own_pt (u : own_S) : List Int32 := u.2.2.2.2.2.2.1
def own_va (u : own_S) : List Int32 := u.2.2.2.2.2.2.2.1
def own_ow (u : own_S) : List Int32 := u.2.2.2.2.2.2.2.2.1
def own_sc (u : own_S) : List Int64 := u.2.2.2.2.2.2.2.2.2.1
def own_nx (u : own_S) : List Int32 := u.2.2.2.2.2.2.2.2.2.2.1
def own_ff (u : own_S) : List Int32 := u.2.2.2.2.2.2.2.2.2.2.2.1
def own_se (u : own_S) : Int64 := u.2.2.2.2.2.2.2.2.2.2.2.2.1
def own_ro (u : own_S) : Int32 := u.2.2.2.2.2.2.2.2.2.2.2.2.2
def own_F_set (u : own_S) (z : List (Option Nat)) : own_S := (z, own_ki u, own_pa u, own_ho u, own_fi u, own_vi u, own_pt u, own_va u, own_ow u, own_sc u, own_nx u, own_ff u, own_se u, own_ro u)
def own_ki_set (u : own_S) (z : List Int32) : own_S := (own_F u, z, own_pa u, own_ho u, own_fi u, own_vi u, own_pt u, own_va u, own_ow u, own_sc u, own_nx u, own_ff u, own_se u, own_ro u)
def own_pa_set (u : own_S) (z : List Int32) : own_S := (own_F u, own_ki u, z, own_ho u, own_fi u, own_vi u, own_pt u, own_va u, own_ow u, own_sc u, own_nx u, own_ff u, own_se u, own_ro u)
def own_ho_set (u : own_S) (z : List Int32) : own_S := (own_F u, own_ki u, own_pa u, z, own_fi u, own_vi u, own_pt u, own_va u, own_ow u, own_sc u, own_nx u, own_ff u, own_se u, own_ro u)
def own_fi_set (u : own_S) (z : List Int32) : own_S := (own_F u, own_ki u, own_pa u, own_ho u, z, own_vi u, own_pt u, own_va u, own_ow u, own_sc u, own_nx u, own_ff u, own_se u, own_ro u)
def own_vi_set (u : own_S) (z : List Int64) : own_S := (own_F u, own_ki u, own_pa u, own_ho u, own_fi u, z, own_pt u, own_va u, own_ow u, own_sc u, own_nx u, own_ff u, own_se u, own_ro u)
def own_pt_set (u : own_S) (z : List Int32) : own_S := (own_F u, own_ki u, own_pa u, own_ho u, own_fi u, own_vi u, z, own_va u, own_ow u, own_sc u, own_nx u, own_ff u, own_se u, own_ro u)
def own_va_set (u : own_S) (z : List Int32) : own_S := (own_F u, own_ki u, own_pa u, own_ho u, own_fi u, own_vi u, own_pt u, z, own_ow u, own_sc u, own_nx u, own_ff u, own_se u, own_ro u)
def own_ow_set (u : own_S) (z : List Int32) : own_S := (own_F u, own_ki u, own_pa u, own_ho u, own_fi u, own_vi u, own_pt u, own_va u, z, own_sc u, own_nx u, own_ff u, own_se u, own_ro u)
def own_sc_set (u : own_S) (z : List Int64) : own_S := (own_F u, own_ki u, own_pa u, own_ho u, own_fi u, own_vi u, own_pt u, own_va u, own_ow u, z, own_nx u, own_ff u, own_se u, own_ro u)
def own_nx_set (u : own_S) (z : List Int32) : own_S := (own_F u, own_ki u, own_pa u, own_ho u, own_fi u, own_vi u, own_pt u, own_va u, own_ow u, own_sc u, z, own_ff u, own_se u, own_ro u)
def own_ff_set (u : own_S) (z : List Int32) : own_S := (own_F u, own_ki u, own_pa u, own_ho u, own_fi u, own_vi u, own_pt u, own_va u, own_ow u, own_sc u, own_nx u, z, own_se u, own_ro u)
def own_se_set (u : own_S) (z : Int64) : own_S := (own_F u, own_ki u, own_pa u, own_ho u, own_fi u, own_vi u, own_pt u, own_va u, own_ow u, own_sc u, own_nx u, own_ff u, z, own_ro u)
def own_ro_set (u : own_S) (z : Int32) : own_S := (own_F u, own_ki u, own_pa u, own_ho u, own_fi u, own_vi u, own_pt u, own_va u, own_ow u, own_sc u, own_nx u, own_ff u, own_se u, z)
def own_geti (L : List Int32) (j : Int32) : Option Int32 := if j < 0 then none else L[j.toNatClampNeg]?
def own_seti (L : List Int32) (j w : Int32) : Option (List Int32) := if j < 0 then none else if j.toNatClampNeg < L.length then some (L.set j.toNatClampNeg w) else none
def own_getj (L : List Int64) (j : Int32) : Option Int64 := if j < 0 then none else L[j.toNatClampNeg]?
def own_setj (L : List Int64) (j : Int32) (w : Int64) : Option (List Int64) := if j < 0 then none else if j.toNatClampNeg < L.length then some (L.set j.toNatClampNeg w) else none
def own_getF (L : List (Option Nat)) (j : Int32) : Option Nat := if j < 0 then none else (L[j.toNatClampNeg]?).bind id
def own_setF (L : List (Option Nat)) (j : Int32) (w : Nat) : Option (List (Option Nat)) := if j < 0 then none else if j.toNatClampNeg < L.length then some (L.set j.toNatClampNeg (some w)) else none
def own_rv (CA : Nat → Nat) : Option Nat → Value
  | none => .null
  | some i => .ref (CA i)
def own_IA (Z : State) (h : Heap) (a : Nat) (k : ClassId) (ty : FieldType) (z : Int32) (L : List Int32) : Prop := Arv Z h a k ty z (L.map Value.int) (.int 0) ∧ L.length = z.toNatClampNeg
def own_JA (Z : State) (h : Heap) (a : Nat) (k : ClassId) (z : Int32) (L : List Int64) : Prop := Arv Z h a k .long z (L.map Value.long) (.long 0) ∧ L.length = z.toNatClampNeg
def own_FA (Z : State) (h : Heap) (a : Nat) (k : ClassId) (z : Int32) (CA : Nat → Nat) (L : List (Option Nat)) : Prop := Arv Z h a k (.array .int) z (L.map (own_rv CA)) .null ∧ L.length = z.toNatClampNeg ∧ OvrA Z k .int "[I"
theorem own_bind {α β : Type} {x : Option α} {f : α → Option β} {b : β} (h : x.bind f = some b) : ∃ a, x = some a ∧ f a = some b := Option.bind_eq_some_iff.mp h
theorem own_inb {L : Nat} {z j : Int32} {c : Cell} (S : c.slots.size = z.toNatClampNeg) (hl : L = z.toNatClampNeg) (hj : ¬ j < 0) (hlt : j.toNatClampNeg < L) : ¬ (j < 0 ∨ c.slots.size ≤ j.toNatClampNeg) := by
  rintro (q | q)
  · exact hj q
  · omega
theorem own_getDm {α : Type} (f : α → Value) (d : Value) (L : List α) (i : Nat) (w : α) (h : L[i]? = some w) : (L.map f).getD i d = f w := by
  rw [List.getD_eq_getElem?_getD, List.getElem?_map, h]; rfl
section OwnSteps
variable {p : Program} {l : Launch} {e : Env} {R : Room} {s : State} {m : MethodId} {args : Array Value} {below : List Frame} {meth : Method} {c : Code} {T : State} {locs : List Loc} {cells slots : Nat} {Z : State} {h : Heap} {a : Nat} {k : ClassId} {z j : Int32} {g : JFrame} {rest : List Value}
theorem own_lenI (X : Stand p l e R s m args below meth c T locs cells slots) (hx : p.tables.exec = Jvm.exec) (hZ : Z.Warmed39 s.vm) (eT : T.heap = h) {ty : FieldType} {L : List Int32} (V : own_IA Z h a k ty z L) (hg : g.method = m) (hs : g.stack = .ref a :: rest) (hd : decode c.code g.pc = .ok (.arraylength, 1)) (t : State)
    (q : Steps p.tables e below (T.setTop { g with pc := g.pc + 1, stack := .int z :: rest }) t) : Steps p.tables e below (T.setTop g) t := by
  obtain ⟨⟨cl, Ar, q1, S, Nn, H, G⟩, hl⟩ := V
  exact X.arraylength hx (by rw [eT]; exact Ar.1) (State.isArrayOf_alike hZ.alike Ar.2.1) hg hs hd t (by rw [len_of S Nn]; exact q)
theorem own_ldI (X : Stand p l e R s m args below meth c T locs cells slots) (hx : p.tables.exec = Jvm.exec) (hZ : Z.Warmed39 s.vm) (eT : T.heap = h) {L : List Int32} {w : Int32} (V : own_IA Z h a k .int z L) (hw : own_geti L j = some w) (hg : g.method = m) (hs : g.stack = .int j :: .ref a :: rest) (hd : decode c.code g.pc = .ok (.iaload, 1)) (t : State)
    (q : Steps p.tables e below (T.setTop { g with pc := g.pc + 1, stack := .int w :: rest }) t) : Steps p.tables e below (T.setTop g) t := by
  unfold own_geti at hw
  obtain ⟨⟨cl, Ar, q1, S, Nn, H, G⟩, hl⟩ := V
  by_cases hj : j < 0
  · rw [if_pos hj] at hw; cases hw
  · rw [if_neg hj] at hw
    have hin := own_inb S hl hj (List.getElem?_eq_some_iff.mp hw).1
    exact X.iaload hx (j := j) (v := .int w) (by rw [eT]; exact Ar.1) (State.isArrayOf_alike hZ.alike Ar.2.1) Ar.2.2 hin (H.at hin (own_getDm _ _ _ _ _ hw)) hg hs hd t q
theorem own_ldZ (X : Stand p l e R s m args below meth c T locs cells slots) (hx : p.tables.exec = Jvm.exec) (hZ : Z.Warmed39 s.vm) (eT : T.heap = h) {L : List Int32} {w : Int32} (V : own_IA Z h a k .boolean z L) (hw : own_geti L j = some w) (hg : g.method = m) (hs : g.stack = .int j :: .ref a :: rest) (hd : decode c.code g.pc = .ok (.baload, 1)) (t : State)
    (q : Steps p.tables e below (T.setTop { g with pc := g.pc + 1, stack := .int w :: rest }) t) : Steps p.tables e below (T.setTop g) t := by
  unfold own_geti at hw
  obtain ⟨⟨cl, Ar, q1, S, Nn, H, G⟩, hl⟩ := V
  by_cases hj : j < 0
  · rw [if_pos hj] at hw; cases hw
  · rw [if_neg hj] at hw
    have hin := own_inb S hl hj (List.getElem?_eq_some_iff.mp hw).1
    exact X.baloadBooleans hx (j := j) (v := .int w) (by rw [eT]; exact Ar.1) (State.isArrayOf_alike hZ.alike Ar.2.1) Ar.2.2 hin (H.at hin (own_getDm _ _ _ _ _ hw)) hg hs hd t q
theorem own_ldJ (X : Stand p l e R s m args below meth c T locs cells slots) (hx : p.tables.exec = Jvm.exec) (hZ : Z.Warmed39 s.vm) (eT : T.heap = h) {L : List Int64} {w : Int64} (V : own_JA Z h a k z L) (hw : own_getj L j = some w) (hg : g.method = m) (hs : g.stack = .int j :: .ref a :: rest) (hd : decode c.code g.pc = .ok (.laload, 1)) (t : State)
    (q : Steps p.tables e below (T.setTop { g with pc := g.pc + 1, stack := .long w :: rest }) t) : Steps p.tables e below (T.setTop g) t := by
  unfold own_getj at hw
  obtain ⟨⟨cl, Ar, q1, S, Nn, H, G⟩, hl⟩ := V
  by_cases hj : j < 0
  · rw [if_pos hj] at hw; cases hw
  · rw [if_neg hj] at hw
    have hin := own_inb S hl hj (List.getElem?_eq_some_iff.mp hw).1
    exact X.laload hx (j := j) (v := .long w) (by rw [eT]; exact Ar.1) (State.isArrayOf_alike hZ.alike Ar.2.1) Ar.2.2 hin (H.at hin (own_getDm _ _ _ _ _ hw)) hg hs hd t q
theorem own_ldF (X : Stand p l e R s m args below meth c T locs cells slots) (hx : p.tables.exec = Jvm.exec) (hZ : Z.Warmed39 s.vm) (eT : T.heap = h) {CA : Nat → Nat} {L : List (Option Nat)} {w : Nat} (V : own_FA Z h a k z CA L) (hw : own_getF L j = some w) (hg : g.method = m) (hs : g.stack = .int j :: .ref a :: rest) (hd : decode c.code g.pc = .ok (.aaload, 1)) (t : State)
    (q : Steps p.tables e below (T.setTop { g with pc := g.pc + 1, stack := .ref (CA w) :: rest }) t) : Steps p.tables e below (T.setTop g) t := by
  unfold own_getF at hw
  obtain ⟨⟨cl, Ar, q1, S, Nn, H, G⟩, hl, -⟩ := V
  by_cases hj : j < 0
  · rw [if_pos hj] at hw; cases hw
  · rw [if_neg hj] at hw
    obtain ⟨x, hx1, hx2⟩ := own_bind hw
    have hx3 : x = some w := hx2
    subst hx3
    have hin := own_inb S hl hj (List.getElem?_eq_some_iff.mp hx1).1
    exact X.aaload hx (j := j) (v := .ref (CA w)) (by rw [eT]; exact Ar.1) (State.isArrayOf_alike hZ.alike Ar.2.1) rfl Ar.2.2 hin (H.at hin (own_getDm (own_rv CA) _ _ _ _ hx1)) hg hs hd t q
theorem own_setm {α : Type} (f : α → Value) (L : List α) (i : Nat) (w : α) : (L.map f).set i (f w) = (L.set i w).map f := List.map_set.symm
theorem own_stI (X : Stand p l e R s m args below meth c T locs cells slots) (hx : p.tables.exec = Jvm.exec) (hZ : Z.Warmed39 s.vm) (eT : T.heap = h) {L L' : List Int32} {w : Int32} (V : own_IA Z h a k .int z L) (hw : own_seti L j w = some L') (hg : g.method = m) (hs : g.stack = .int w :: .int j :: .ref a :: rest) (hd : decode c.code g.pc = .ok (.iastore, 1)) :
    ∃ T' h', Stand p l e R s m args below meth c T' (locs ++ [⟨a, j.toNatClampNeg⟩]) cells slots ∧ T'.heap = h' ∧ Wr h h' a j.toNatClampNeg (.int w) ∧ own_IA Z h' a k .int z L' ∧ ∀ target, Steps p.tables e below (T'.setTop { g with pc := g.pc + 1, stack := rest }) target → Steps p.tables e below (T.setTop g) target := by
  unfold own_seti at hw
  obtain ⟨⟨cl, Ar, q1, S, Nn, H, G⟩, hl⟩ := V
  by_cases hj : j < 0
  · rw [if_pos hj] at hw; cases hw
  · rw [if_neg hj] at hw
    by_cases hlt : j.toNatClampNeg < L.length
    · rw [if_pos hlt] at hw
      obtain rfl := Option.some.inj hw
      have hin := own_inb S hl hj hlt
      obtain ⟨T', h', X', e', W, st⟩ := stI X hx hZ eT Ar (j := j) hin hg hs hd
      have V' := Arv.set Ar q1 S Nn H G (v := .int w) rfl W j.toNatClampNeg rfl (by rw [List.length_map]; exact hlt)
      exact ⟨T', h', X', e', W, ⟨by rw [← own_setm]; exact V', by rw [List.length_set]; exact hl⟩, st⟩
    · rw [if_neg hlt] at hw; cases hw
theorem own_stZ (X : Stand p l e R s m args below meth c T locs cells slots) (hx : p.tables.exec = Jvm.exec) (hZ : Z.Warmed39 s.vm) (eT : T.heap = h) {L L' : List Int32} (V : own_IA Z h a k .boolean z L) (hw : own_seti L j 1 = some L') (hg : g.method = m) (hs : g.stack = .int 1 :: .int j :: .ref a :: rest) (hd : decode c.code g.pc = .ok (.bastore, 1)) :
    ∃ T' h', Stand p l e R s m args below meth c T' (locs ++ [⟨a, j.toNatClampNeg⟩]) cells slots ∧ T'.heap = h' ∧ Wr h h' a j.toNatClampNeg (.int 1) ∧ own_IA Z h' a k .boolean z L' ∧ ∀ target, Steps p.tables e below (T'.setTop { g with pc := g.pc + 1, stack := rest }) target → Steps p.tables e below (T.setTop g) target := by
  unfold own_seti at hw
  obtain ⟨⟨cl, Ar, q1, S, Nn, H, G⟩, hl⟩ := V
  by_cases hj : j < 0
  · rw [if_pos hj] at hw; cases hw
  · rw [if_neg hj] at hw
    by_cases hlt : j.toNatClampNeg < L.length
    · rw [if_pos hlt] at hw
      obtain rfl := Option.some.inj hw
      have hin := own_inb S hl hj hlt
      obtain ⟨T', h', X', e', W, st⟩ := stZ X hx hZ eT Ar (j := j) hin hg hs hd
      have V' := Arv.set Ar q1 S Nn H G (v := .int 1) rfl W j.toNatClampNeg rfl (by rw [List.length_map]; exact hlt)
      exact ⟨T', h', X', e', W, ⟨by rw [← own_setm]; exact V', by rw [List.length_set]; exact hl⟩, st⟩
    · rw [if_neg hlt] at hw; cases hw
theorem own_stJ (X : Stand p l e R s m args below meth c T locs cells slots) (hx : p.tables.exec = Jvm.exec) (hZ : Z.Warmed39 s.vm) (eT : T.heap = h) {L L' : List Int64} {w : Int64} (V : own_JA Z h a k z L) (hw : own_setj L j w = some L') (hg : g.method = m) (hs : g.stack = .long w :: .int j :: .ref a :: rest) (hd : decode c.code g.pc = .ok (.lastore, 1)) :
    ∃ T' h', Stand p l e R s m args below meth c T' (locs ++ [⟨a, j.toNatClampNeg⟩]) cells slots ∧ T'.heap = h' ∧ Wr h h' a j.toNatClampNeg (.long w) ∧ own_JA Z h' a k z L' ∧ ∀ target, Steps p.tables e below (T'.setTop { g with pc := g.pc + 1, stack := rest }) target → Steps p.tables e below (T.setTop g) target := by
  unfold own_setj at hw
  obtain ⟨⟨cl, Ar, q1, S, Nn, H, G⟩, hl⟩ := V
  by_cases hj : j < 0
  · rw [if_pos hj] at hw; cases hw
  · rw [if_neg hj] at hw
    by_cases hlt : j.toNatClampNeg < L.length
    · rw [if_pos hlt] at hw
      obtain rfl := Option.some.inj hw
      have hin := own_inb S hl hj hlt
      obtain ⟨T', h', X', e', W, st⟩ := stJ X hx hZ eT Ar (j := j) hin hg hs hd
      have V' := Arv.set Ar q1 S Nn H G (v := .long w) rfl W j.toNatClampNeg rfl (by rw [List.length_map]; exact hlt)
      exact ⟨T', h', X', e', W, ⟨by rw [← own_setm]; exact V', by rw [List.length_set]; exact hl⟩, st⟩
    · rw [if_neg hlt] at hw; cases hw
theorem own_stF (X : Stand p l e R s m args below meth c T locs cells slots) (hx : p.tables.exec = Jvm.exec) (hZ : Z.Warmed39 s.vm) (eT : T.heap = h) {CA : Nat → Nat} {L L' : List (Option Nat)} {w : Nat} (V : own_FA Z h a k z CA L) (E : Exa Z h (CA w) "[I") (hw : own_setF L j w = some L') (hg : g.method = m) (hs : g.stack = .ref (CA w) :: .int j :: .ref a :: rest) (hd : decode c.code g.pc = .ok (.aastore, 1)) :
    ∃ T' h', Stand p l e R s m args below meth c T' (locs ++ [⟨a, j.toNatClampNeg⟩]) cells slots ∧ T'.heap = h' ∧ Wr h h' a j.toNatClampNeg (.ref (CA w)) ∧ own_FA Z h' a k z CA L' ∧ ∀ target, Steps p.tables e below (T'.setTop { g with pc := g.pc + 1, stack := rest }) target → Steps p.tables e below (T.setTop g) target := by
  unfold own_setF at hw
  obtain ⟨⟨cl, Ar, q1, S, Nn, H, G⟩, hl, ov⟩ := V
  by_cases hj : j < 0
  · rw [if_pos hj] at hw; cases hw
  · rw [if_neg hj] at hw
    by_cases hlt : j.toNatClampNeg < L.length
    · rw [if_pos hlt] at hw
      obtain rfl := Option.some.inj hw
      have hin := own_inb S hl hj hlt
      obtain ⟨T', h', X', e', W, st⟩ := stR X hx hZ eT Ar (j := j) (v := .ref (CA w)) hin rfl (Sto.ofVA Ar q1 ov (Ins.self E)) hg hs hd
      have V' := Arv.set Ar q1 S Nn H G (v := .ref (CA w)) rfl W j.toNatClampNeg rfl (by rw [List.length_map]; exact hlt)
      exact ⟨T', h', X', e', W, ⟨by rw [← own_setm (own_rv CA) L _ (some w)]; exact V', by rw [List.length_set]; exact hl, ov⟩, st⟩
    · rw [if_neg hlt] at hw; cases hw
end OwnSteps
theorem own_IA.keep {Z : State} {h h' : Heap} {a : Nat} {k : ClassId} {ty : FieldType} {z : Int32} {L : List Int32} {ws : List Addr} (F : own_IA Z h a k ty z L) (K : Keep h h' ws) (q : a ∉ ws) : own_IA Z h' a k ty z L := ⟨F.1.keep K q, F.2⟩
theorem own_IA.ext {Z : State} {h h' : Heap} {a : Nat} {k : ClassId} {ty : FieldType} {z : Int32} {L : List Int32} (F : own_IA Z h a k ty z L) (E : Ext h h') : own_IA Z h' a k ty z L := ⟨F.1.ext E, F.2⟩
theorem own_IA.other {Z : State} {h h' : Heap} {a b : Nat} {k : ClassId} {ty : FieldType} {z : Int32} {L : List Int32} {sl : Nat} {v : Value} (F : own_IA Z h b k ty z L) (W : Wr h h' a sl v) (q : b ≠ a) : own_IA Z h' b k ty z L := ⟨F.1.other W q, F.2⟩
theorem own_JA.other {Z : State} {h h' : Heap} {a b : Nat} {k : ClassId} {z : Int32} {L : List Int64} {sl : Nat} {v : Value} (F : own_JA Z h b k z L) (W : Wr h h' a sl v) (q : b ≠ a) : own_JA Z h' b k z L := ⟨F.1.other W q, F.2⟩
theorem own_FA.other {Z : State} {h h' : Heap} {a b : Nat} {k : ClassId} {z : Int32} {CA : Nat → Nat} {L : List (Option Nat)} {sl : Nat} {v : Value} (F : own_FA Z h b k z CA L) (W : Wr h h' a sl v) (q : b ≠ a) : own_FA Z h' b k z CA L := ⟨F.1.other W q, F.2⟩
def own_ld_F (u : own_S) (j : Int32) : Option Nat := own_getF (own_F u) j
def own_st_F (u : own_S) (j : Int32) (w : Nat) : Option own_S := (own_setF (own_F u) j w).map (own_F_set u)
def own_ld_ki (u : own_S) (j : Int32) : Option Int32 := own_geti (own_ki u) j
def own_st_ki (u : own_S) (j : Int32) (w : Int32) : Option own_S := (own_seti (own_ki u) j w).map (own_ki_set u)
def own_ld_pa (u : own_S) (j : Int32) : Option Int32 := own_geti (own_pa u) j
def own_st_pa (u : own_S) (j : Int32) (w : Int32) : Option own_S := (own_seti (own_pa u) j w).map (own_pa_set u)
def own_ld_ho (u : own_S) (j : Int32) : Option Int32 := own_geti (own_ho u) j
def own_st_ho (u : own_S) (j : Int32) (w : Int32) : Option own_S := (own_seti (own_ho u) j w).map (own_ho_set u)
def own_ld_fi (u : own_S) (j : Int32) : Option Int32 := own_geti (own_fi u) j
def own_st_fi (u : own_S) (j : Int32) (w : Int32) : Option own_S := (own_seti (own_fi u) j w).map (own_fi_set u)
def own_ld_vi (u : own_S) (j : Int32) : Option Int64 := own_getj (own_vi u) j
def own_st_vi (u : own_S) (j : Int32) (w : Int64) : Option own_S := (own_setj (own_vi u) j w).map (own_vi_set u)
def own_ld_pt (u : own_S) (j : Int32) : Option Int32 := own_geti (own_pt u) j
def own_st_pt (u : own_S) (j : Int32) (w : Int32) : Option own_S := (own_seti (own_pt u) j w).map (own_pt_set u)
def own_ld_va (u : own_S) (j : Int32) : Option Int32 := own_geti (own_va u) j
def own_st_va (u : own_S) (j : Int32) (w : Int32) : Option own_S := (own_seti (own_va u) j w).map (own_va_set u)
def own_ld_ow (u : own_S) (j : Int32) : Option Int32 := own_geti (own_ow u) j
def own_st_ow (u : own_S) (j : Int32) (w : Int32) : Option own_S := (own_seti (own_ow u) j w).map (own_ow_set u)
def own_ld_sc (u : own_S) (j : Int32) : Option Int64 := own_getj (own_sc u) j
def own_st_sc (u : own_S) (j : Int32) (w : Int64) : Option own_S := (own_setj (own_sc u) j w).map (own_sc_set u)
def own_ld_nx (u : own_S) (j : Int32) : Option Int32 := own_geti (own_nx u) j
def own_st_nx (u : own_S) (j : Int32) (w : Int32) : Option own_S := (own_seti (own_nx u) j w).map (own_nx_set u)
def own_ld_ff (u : own_S) (j : Int32) : Option Int32 := own_geti (own_ff u) j
def own_st_ff (u : own_S) (j : Int32) (w : Int32) : Option own_S := (own_seti (own_ff u) j w).map (own_ff_set u)
def own_PS (Z : State) (h : Heap) (n0 : Nat) (A : Nat → Nat) (K : Nat → ClassId) (zr zc : Int32) (CA : Nat → Nat) (CK : Nat → ClassId) (CL : List (List Int32)) (u : own_S) : Prop := (n0 ≤ A 0) ∧ (A 0 < A 1) ∧ (A 1 < A 2) ∧ (A 2 < A 3) ∧ (A 3 < A 4) ∧ (A 4 < A 5) ∧ (A 5 < A 6) ∧ (A 6 < A 7) ∧ (A 7 < A 8) ∧ (A 8 < A 9) ∧ (A 9 < A 10) ∧ (A 10 < A 11) ∧ (A 11 < A 12) ∧ (Exa Z h (A 0) "com/example/document_pattern_rules/documentpatternrules/pattern/Pairing") ∧ (Fld Z h (A 0) "com/example/document_pattern_rules/documentpatternrules/pattern/Pairing" "fits" "[[I" (.ref (A 1))) ∧ (Fld Z h (A 0) "com/example/document_pattern_rules/documentpatternrules/pattern/Pairing" "kind" "[I" (.ref (A 2))) ∧ (Fld Z h (A 0) "com/example/document_pattern_rules/documentpatternrules/pattern/Pairing" "partner" "[I" (.ref (A 3))) ∧ (Fld Z h (A 0) "com/example/document_pattern_rules/documentpatternrules/pattern/Pairing" "holder" "[I" (.ref (A 4))) ∧ (Fld Z h (A 0) "com/example/document_pattern_rules/documentpatternrules/pattern/Pairing" "fixed" "[Z" (.ref (A 5))) ∧ (Fld Z h (A 0) "com/example/document_pattern_rules/documentpatternrules/pattern/Pairing" "visited" "[J" (.ref (A 6))) ∧ (Fld Z h (A 0) "com/example/document_pattern_rules/documentpatternrules/pattern/Pairing" "path" "[I" (.ref (A 7))) ∧ (Fld Z h (A 0) "com/example/document_pattern_rules/documentpatternrules/pattern/Pairing" "via" "[I" (.ref (A 8))) ∧ (Fld Z h (A 0) "com/example/document_pattern_rules/documentpatternrules/pattern/Pairing" "ownFrom" "[I" (.ref (A 9))) ∧ (Fld Z h (A 0) "com/example/document_pattern_rules/documentpatternrules/pattern/Pairing" "scanned" "[J" (.ref (A 10))) ∧ (Fld Z h (A 0) "com/example/document_pattern_rules/documentpatternrules/pattern/Pairing" "next" "[I" (.ref (A 11))) ∧ (Fld Z h (A 0) "com/example/document_pattern_rules/documentpatternrules/pattern/Pairing" "fixedFrom" "[I" (.ref (A 12))) ∧ (Fld Z h (A 0) "com/example/document_pattern_rules/documentpatternrules/pattern/Pairing" "searches" "J" (.long (own_se u))) ∧ (Fld Z h (A 0) "com/example/document_pattern_rules/documentpatternrules/pattern/Pairing" "rows" "I" (.int (own_ro u))) ∧ (own_FA Z h (A 1) (K 1) zr CA (own_F u)) ∧ (own_IA Z h (A 2) (K 2) .int zr (own_ki u)) ∧ (own_IA Z h (A 3) (K 3) .int zr (own_pa u)) ∧ (own_IA Z h (A 4) (K 4) .int zc (own_ho u)) ∧ (own_IA Z h (A 5) (K 5) .boolean zr (own_fi u)) ∧ (own_JA Z h (A 6) (K 6) zc (own_vi u)) ∧ (own_IA Z h (A 7) (K 7) .int zr (own_pt u)) ∧ (own_IA Z h (A 8) (K 8) .int zr (own_va u)) ∧ (own_IA Z h (A 9) (K 9) .int zr (own_ow u)) ∧ (own_JA Z h (A 10) (K 10) zr (own_sc u)) ∧ (own_IA Z h (A 11) (K 11) .int zr (own_nx u)) ∧ (own_IA Z h (A 12) (K 12) .int zr (own_ff u)) ∧ (∀ i L, CL[i]? = some L → own_IA Z h (CA i) (CK i) .int (Int32.ofNat L.length) L ∧ Exa Z h (CA i) "[I" ∧ CA i < A 0)
theorem own_PS_g0 {Z : State} {h : Heap} {n0 : Nat} {A : Nat → Nat} {K : Nat → ClassId} {zr zc : Int32} {CA : Nat → Nat} {CK : Nat → ClassId} {CL : List (List Int32)} {u : own_S} (P : own_PS Z h n0 A K zr zc CA CK CL u) : n0 ≤ A 0 := by obtain ⟨g0, o0, o1, o2, o3, o4, o5, o6, o7, o8, o9, o10, o11, E, f1, f2, f3, f4, f5, f6, f7, f8, f9, f10, f11, f12, fse, fro, v1, v2, v3, v4, v5, v6, v7, v8, v9, v10, v11, v12, cc⟩ := P; exact g0
theorem own_PS_o0 {Z : State} {h : Heap} {n0 : Nat} {A : Nat → Nat} {K : Nat → ClassId} {zr zc : Int32} {CA : Nat → Nat} {CK : Nat → ClassId} {CL : List (List Int32)} {u : own_S} (P : own_PS Z h n0 A K zr zc CA CK CL u) : A 0 < A 1 := by obtain ⟨g0, o0, o1, o2, o3, o4, o5, o6, o7, o8, o9, o10, o11, E, f1, f2, f3, f4, f5, f6, f7, f8, f9, f10, f11, f12, fse, fro, v1, v2, v3, v4, v5, v6, v7, v8, v9, v10, v11, v12, cc⟩ := P; exact o0
theorem own_PS_o1 {Z : State} {h : Heap} {n0 : Nat} {A : Nat → Nat} {K : Nat → ClassId} {zr zc : Int32} {CA : Nat → Nat} {CK : Nat → ClassId} {CL : List (List Int32)} {u : own_S} (P : own_PS Z h n0 A K zr zc CA CK CL u) : A 1 < A 2 := by obtain ⟨g0, o0, o1, o2, o3, o4, o5, o6, o7, o8, o9, o10, o11, E, f1, f2, f3, f4, f5, f6, f7, f8, f9, f10, f11, f12, fse, fro, v1, v2, v3, v4, v5, v6, v7, v8, v9, v10, v11, v12, cc⟩ := P; exact o1
theorem own_PS_o2 {Z : State} {h : Heap} {n0 : Nat} {A : Nat → Nat} {K : Nat → ClassId} {zr zc : Int32} {CA : Nat → Nat} {CK : Nat → ClassId} {CL : List (List Int32)} {u : own_S} (P : own_PS Z h n0 A K zr zc CA CK CL u) : A 2 < A 3 := by obtain ⟨g0, o0, o1, o2, o3, o4, o5, o6, o7, o8, o9, o10, o11, E, f1, f2, f3, f4, f5, f6, f7, f8, f9, f10, f11, f12, fse, fro, v1, v2, v3, v4, v5, v6, v7, v8, v9, v10, v11, v12, cc⟩ := P; exact o2
theorem own_PS_o3 {Z : State} {h : Heap} {n0 : Nat} {A : Nat → Nat} {K : Nat → ClassId} {zr zc : Int32} {CA : Nat → Nat} {CK : Nat → ClassId} {CL : List (List Int32)} {u : own_S} (P : own_PS Z h n0 A K zr zc CA CK CL u) : A 3 < A 4 := by obtain ⟨g0, o0, o1, o2, o3, o4, o5, o6, o7, o8, o9, o10, o11, E, f1, f2, f3, f4, f5, f6, f7, f8, f9, f10, f11, f12, fse, fro, v1, v2, v3, v4, v5, v6, v7, v8, v9, v10, v11, v12, cc⟩ := P; exact o3
theorem own_PS_o4 {Z : State} {h : Heap} {n0 : Nat} {A : Nat → Nat} {K : Nat → ClassId} {zr zc : Int32} {CA : Nat → Nat} {CK : Nat → ClassId} {CL : List (List Int32)} {u : own_S} (P : own_PS Z h n0 A K zr zc CA CK CL u) : A 4 < A 5 := by obtain ⟨g0, o0, o1, o2, o3, o4, o5, o6, o7, o8, o9, o10, o11, E, f1, f2, f3, f4, f5, f6, f7, f8, f9, f10, f11, f12, fse, fro, v1, v2, v3, v4, v5, v6, v7, v8, v9, v10, v11, v12, cc⟩ := P; exact o4
theorem own_PS_o5 {Z : State} {h : Heap} {n0 : Nat} {A : Nat → Nat} {K : Nat → ClassId} {zr zc : Int32} {CA : Nat → Nat} {CK : Nat → ClassId} {CL : List (List Int32)} {u : own_S} (P : own_PS Z h n0 A K zr zc CA CK CL u) : A 5 < A 6 := by obtain ⟨g0, o0, o1, o2, o3, o4, o5, o6, o7, o8, o9, o10, o11, E, f1, f2, f3, f4, f5, f6, f7, f8, f9, f10, f11, f12, fse, fro, v1, v2, v3, v4, v5, v6, v7, v8, v9, v10, v11, v12, cc⟩ := P; exact o5
theorem own_PS_o6 {Z : State} {h : Heap} {n0 : Nat} {A : Nat → Nat} {K : Nat → ClassId} {zr zc : Int32} {CA : Nat → Nat} {CK : Nat → ClassId} {CL : List (List Int32)} {u : own_S} (P : own_PS Z h n0 A K zr zc CA CK CL u) : A 6 < A 7 := by obtain ⟨g0, o0, o1, o2, o3, o4, o5, o6, o7, o8, o9, o10, o11, E, f1, f2, f3, f4, f5, f6, f7, f8, f9, f10, f11, f12, fse, fro, v1, v2, v3, v4, v5, v6, v7, v8, v9, v10, v11, v12, cc⟩ := P; exact o6
theorem own_PS_o7 {Z : State} {h : Heap} {n0 : Nat} {A : Nat → Nat} {K : Nat → ClassId} {zr zc : Int32} {CA : Nat → Nat} {CK : Nat → ClassId} {CL : List (List Int32)} {u : own_S} (P : own_PS Z h n0 A K zr zc CA CK CL u) : A 7 < A 8 := by obtain ⟨g0, o0, o1, o2, o3, o4, o5, o6, o7, o8, o9, o10, o11, E, f1, f2, f3, f4, f5, f6, f7, f8, f9, f10, f11, f12, fse, fro, v1, v2, v3, v4, v5, v6, v7, v8, v9, v10, v11, v12, cc⟩ := P; exact o7
theorem own_PS_o8 {Z : State} {h : Heap} {n0 : Nat} {A : Nat → Nat} {K : Nat → ClassId} {zr zc : Int32} {CA : Nat → Nat} {CK : Nat → ClassId} {CL : List (List Int32)} {u : own_S} (P : own_PS Z h n0 A K zr zc CA CK CL u) : A 8 < A 9 := by obtain ⟨g0, o0, o1, o2, o3, o4, o5, o6, o7, o8, o9, o10, o11, E, f1, f2, f3, f4, f5, f6, f7, f8, f9, f10, f11, f12, fse, fro, v1, v2, v3, v4, v5, v6, v7, v8, v9, v10, v11, v12, cc⟩ := P; exact o8
theorem own_PS_o9 {Z : State} {h : Heap} {n0 : Nat} {A : Nat → Nat} {K : Nat → ClassId} {zr zc : Int32} {CA : Nat → Nat} {CK : Nat → ClassId} {CL : List (List Int32)} {u : own_S} (P : own_PS Z h n0 A K zr zc CA CK CL u) : A 9 < A 10 := by obtain ⟨g0, o0, o1, o2, o3, o4, o5, o6, o7, o8, o9, o10, o11, E, f1, f2, f3, f4, f5, f6, f7, f8, f9, f10, f11, f12, fse, fro, v1, v2, v3, v4, v5, v6, v7, v8, v9, v10, v11, v12, cc⟩ := P; exact o9
theorem own_PS_o10 {Z : State} {h : Heap} {n0 : Nat} {A : Nat → Nat} {K : Nat → ClassId} {zr zc : Int32} {CA : Nat → Nat} {CK : Nat → ClassId} {CL : List (List Int32)} {u : own_S} (P : own_PS Z h n0 A K zr zc CA CK CL u) : A 10 < A 11 := by obtain ⟨g0, o0, o1, o2, o3, o4, o5, o6, o7, o8, o9, o10, o11, E, f1, f2, f3, f4, f5, f6, f7, f8, f9, f10, f11, f12, fse, fro, v1, v2, v3, v4, v5, v6, v7, v8, v9, v10, v11, v12, cc⟩ := P; exact o10
theorem own_PS_o11 {Z : State} {h : Heap} {n0 : Nat} {A : Nat → Nat} {K : Nat → ClassId} {zr zc : Int32} {CA : Nat → Nat} {CK : Nat → ClassId} {CL : List (List Int32)} {u : own_S} (P : own_PS Z h n0 A K zr zc CA CK CL u) : A 11 < A 12 := by obtain ⟨g0, o0, o1, o2, o3, o4, o5, o6, o7, o8, o9, o10, o11, E, f1, f2, f3, f4, f5, f6, f7, f8, f9, f10, f11, f12, fse, fro, v1, v2, v3, v4, v5, v6, v7, v8, v9, v10, v11, v12, cc⟩ := P; exact o11
theorem own_PS_E {Z : State} {h : Heap} {n0 : Nat} {A : Nat → Nat} {K : Nat → ClassId} {zr zc : Int32} {CA : Nat → Nat} {CK : Nat → ClassId} {CL : List (List Int32)} {u : own_S} (P : own_PS Z h n0 A K zr zc CA CK CL u) : Exa Z h (A 0) "com/example/document_pattern_rules/documentpatternrules/pattern/Pairing" := by obtain ⟨g0, o0, o1, o2, o3, o4, o5, o6, o7, o8, o9, o10, o11, E, f1, f2, f3, f4, f5, f6, f7, f8, f9, f10, f11, f12, fse, fro, v1, v2, v3, v4, v5, v6, v7, v8, v9, v10, v11, v12, cc⟩ := P; exact E
theorem own_PS_f1 {Z : State} {h : Heap} {n0 : Nat} {A : Nat → Nat} {K : Nat → ClassId} {zr zc : Int32} {CA : Nat → Nat} {CK : Nat → ClassId} {CL : List (List Int32)} {u : own_S} (P : own_PS Z h n0 A K zr zc CA CK CL u) : Fld Z h (A 0) "com/example/document_pattern_rules/documentpatternrules/pattern/Pairing" "fits" "[[I" (.ref (A 1)) := by obtain ⟨g0, o0, o1, o2, o3, o4, o5, o6, o7, o8, o9, o10, o11, E, f1, f2, f3, f4, f5, f6, f7, f8, f9, f10, f11, f12, fse, fro, v1, v2, v3, v4, v5, v6, v7, v8, v9, v10, v11, v12, cc⟩ := P; exact f1
theorem own_PS_f2 {Z : State} {h : Heap} {n0 : Nat} {A : Nat → Nat} {K : Nat → ClassId} {zr zc : Int32} {CA : Nat → Nat} {CK : Nat → ClassId} {CL : List (List Int32)} {u : own_S} (P : own_PS Z h n0 A K zr zc CA CK CL u) : Fld Z h (A 0) "com/example/document_pattern_rules/documentpatternrules/pattern/Pairing" "kind" "[I" (.ref (A 2)) := by obtain ⟨g0, o0, o1, o2, o3, o4, o5, o6, o7, o8, o9, o10, o11, E, f1, f2, f3, f4, f5, f6, f7, f8, f9, f10, f11, f12, fse, fro, v1, v2, v3, v4, v5, v6, v7, v8, v9, v10, v11, v12, cc⟩ := P; exact f2
theorem own_PS_f3 {Z : State} {h : Heap} {n0 : Nat} {A : Nat → Nat} {K : Nat → ClassId} {zr zc : Int32} {CA : Nat → Nat} {CK : Nat → ClassId} {CL : List (List Int32)} {u : own_S} (P : own_PS Z h n0 A K zr zc CA CK CL u) : Fld Z h (A 0) "com/example/document_pattern_rules/documentpatternrules/pattern/Pairing" "partner" "[I" (.ref (A 3)) := by obtain ⟨g0, o0, o1, o2, o3, o4, o5, o6, o7, o8, o9, o10, o11, E, f1, f2, f3, f4, f5, f6, f7, f8, f9, f10, f11, f12, fse, fro, v1, v2, v3, v4, v5, v6, v7, v8, v9, v10, v11, v12, cc⟩ := P; exact f3
theorem own_PS_f4 {Z : State} {h : Heap} {n0 : Nat} {A : Nat → Nat} {K : Nat → ClassId} {zr zc : Int32} {CA : Nat → Nat} {CK : Nat → ClassId} {CL : List (List Int32)} {u : own_S} (P : own_PS Z h n0 A K zr zc CA CK CL u) : Fld Z h (A 0) "com/example/document_pattern_rules/documentpatternrules/pattern/Pairing" "holder" "[I" (.ref (A 4)) := by obtain ⟨g0, o0, o1, o2, o3, o4, o5, o6, o7, o8, o9, o10, o11, E, f1, f2, f3, f4, f5, f6, f7, f8, f9, f10, f11, f12, fse, fro, v1, v2, v3, v4, v5, v6, v7, v8, v9, v10, v11, v12, cc⟩ := P; exact f4
theorem own_PS_f5 {Z : State} {h : Heap} {n0 : Nat} {A : Nat → Nat} {K : Nat → ClassId} {zr zc : Int32} {CA : Nat → Nat} {CK : Nat → ClassId} {CL : List (List Int32)} {u : own_S} (P : own_PS Z h n0 A K zr zc CA CK CL u) : Fld Z h (A 0) "com/example/document_pattern_rules/documentpatternrules/pattern/Pairing" "fixed" "[Z" (.ref (A 5)) := by obtain ⟨g0, o0, o1, o2, o3, o4, o5, o6, o7, o8, o9, o10, o11, E, f1, f2, f3, f4, f5, f6, f7, f8, f9, f10, f11, f12, fse, fro, v1, v2, v3, v4, v5, v6, v7, v8, v9, v10, v11, v12, cc⟩ := P; exact f5
theorem own_PS_f6 {Z : State} {h : Heap} {n0 : Nat} {A : Nat → Nat} {K : Nat → ClassId} {zr zc : Int32} {CA : Nat → Nat} {CK : Nat → ClassId} {CL : List (List Int32)} {u : own_S} (P : own_PS Z h n0 A K zr zc CA CK CL u) : Fld Z h (A 0) "com/example/document_pattern_rules/documentpatternrules/pattern/Pairing" "visited" "[J" (.ref (A 6)) := by obtain ⟨g0, o0, o1, o2, o3, o4, o5, o6, o7, o8, o9, o10, o11, E, f1, f2, f3, f4, f5, f6, f7, f8, f9, f10, f11, f12, fse, fro, v1, v2, v3, v4, v5, v6, v7, v8, v9, v10, v11, v12, cc⟩ := P; exact f6
theorem own_PS_f7 {Z : State} {h : Heap} {n0 : Nat} {A : Nat → Nat} {K : Nat → ClassId} {zr zc : Int32} {CA : Nat → Nat} {CK : Nat → ClassId} {CL : List (List Int32)} {u : own_S} (P : own_PS Z h n0 A K zr zc CA CK CL u) : Fld Z h (A 0) "com/example/document_pattern_rules/documentpatternrules/pattern/Pairing" "path" "[I" (.ref (A 7)) := by obtain ⟨g0, o0, o1, o2, o3, o4, o5, o6, o7, o8, o9, o10, o11, E, f1, f2, f3, f4, f5, f6, f7, f8, f9, f10, f11, f12, fse, fro, v1, v2, v3, v4, v5, v6, v7, v8, v9, v10, v11, v12, cc⟩ := P; exact f7
theorem own_PS_f8 {Z : State} {h : Heap} {n0 : Nat} {A : Nat → Nat} {K : Nat → ClassId} {zr zc : Int32} {CA : Nat → Nat} {CK : Nat → ClassId} {CL : List (List Int32)} {u : own_S} (P : own_PS Z h n0 A K zr zc CA CK CL u) : Fld Z h (A 0) "com/example/document_pattern_rules/documentpatternrules/pattern/Pairing" "via" "[I" (.ref (A 8)) := by obtain ⟨g0, o0, o1, o2, o3, o4, o5, o6, o7, o8, o9, o10, o11, E, f1, f2, f3, f4, f5, f6, f7, f8, f9, f10, f11, f12, fse, fro, v1, v2, v3, v4, v5, v6, v7, v8, v9, v10, v11, v12, cc⟩ := P; exact f8
theorem own_PS_f9 {Z : State} {h : Heap} {n0 : Nat} {A : Nat → Nat} {K : Nat → ClassId} {zr zc : Int32} {CA : Nat → Nat} {CK : Nat → ClassId} {CL : List (List Int32)} {u : own_S} (P : own_PS Z h n0 A K zr zc CA CK CL u) : Fld Z h (A 0) "com/example/document_pattern_rules/documentpatternrules/pattern/Pairing" "ownFrom" "[I" (.ref (A 9)) := by obtain ⟨g0, o0, o1, o2, o3, o4, o5, o6, o7, o8, o9, o10, o11, E, f1, f2, f3, f4, f5, f6, f7, f8, f9, f10, f11, f12, fse, fro, v1, v2, v3, v4, v5, v6, v7, v8, v9, v10, v11, v12, cc⟩ := P; exact f9
theorem own_PS_f10 {Z : State} {h : Heap} {n0 : Nat} {A : Nat → Nat} {K : Nat → ClassId} {zr zc : Int32} {CA : Nat → Nat} {CK : Nat → ClassId} {CL : List (List Int32)} {u : own_S} (P : own_PS Z h n0 A K zr zc CA CK CL u) : Fld Z h (A 0) "com/example/document_pattern_rules/documentpatternrules/pattern/Pairing" "scanned" "[J" (.ref (A 10)) := by obtain ⟨g0, o0, o1, o2, o3, o4, o5, o6, o7, o8, o9, o10, o11, E, f1, f2, f3, f4, f5, f6, f7, f8, f9, f10, f11, f12, fse, fro, v1, v2, v3, v4, v5, v6, v7, v8, v9, v10, v11, v12, cc⟩ := P; exact f10
theorem own_PS_f11 {Z : State} {h : Heap} {n0 : Nat} {A : Nat → Nat} {K : Nat → ClassId} {zr zc : Int32} {CA : Nat → Nat} {CK : Nat → ClassId} {CL : List (List Int32)} {u : own_S} (P : own_PS Z h n0 A K zr zc CA CK CL u) : Fld Z h (A 0) "com/example/document_pattern_rules/documentpatternrules/pattern/Pairing" "next" "[I" (.ref (A 11)) := by obtain ⟨g0, o0, o1, o2, o3, o4, o5, o6, o7, o8, o9, o10, o11, E, f1, f2, f3, f4, f5, f6, f7, f8, f9, f10, f11, f12, fse, fro, v1, v2, v3, v4, v5, v6, v7, v8, v9, v10, v11, v12, cc⟩ := P; exact f11
theorem own_PS_f12 {Z : State} {h : Heap} {n0 : Nat} {A : Nat → Nat} {K : Nat → ClassId} {zr zc : Int32} {CA : Nat → Nat} {CK : Nat → ClassId} {CL : List (List Int32)} {u : own_S} (P : own_PS Z h n0 A K zr zc CA CK CL u) : Fld Z h (A 0) "com/example/document_pattern_rules/documentpatternrules/pattern/Pairing" "fixedFrom" "[I" (.ref (A 12)) := by obtain ⟨g0, o0, o1, o2, o3, o4, o5, o6, o7, o8, o9, o10, o11, E, f1, f2, f3, f4, f5, f6, f7, f8, f9, f10, f11, f12, fse, fro, v1, v2, v3, v4, v5, v6, v7, v8, v9, v10, v11, v12, cc⟩ := P; exact f12
theorem own_PS_fse {Z : State} {h : Heap} {n0 : Nat} {A : Nat → Nat} {K : Nat → ClassId} {zr zc : Int32} {CA : Nat → Nat} {CK : Nat → ClassId} {CL : List (List Int32)} {u : own_S} (P : own_PS Z h n0 A K zr zc CA CK CL u) : Fld Z h (A 0) "com/example/document_pattern_rules/documentpatternrules/pattern/Pairing" "searches" "J" (.long (own_se u)) := by obtain ⟨g0, o0, o1, o2, o3, o4, o5, o6, o7, o8, o9, o10, o11, E, f1, f2, f3, f4, f5, f6, f7, f8, f9, f10, f11, f12, fse, fro, v1, v2, v3, v4, v5, v6, v7, v8, v9, v10, v11, v12, cc⟩ := P; exact fse
theorem own_PS_fro {Z : State} {h : Heap} {n0 : Nat} {A : Nat → Nat} {K : Nat → ClassId} {zr zc : Int32} {CA : Nat → Nat} {CK : Nat → ClassId} {CL : List (List Int32)} {u : own_S} (P : own_PS Z h n0 A K zr zc CA CK CL u) : Fld Z h (A 0) "com/example/document_pattern_rules/documentpatternrules/pattern/Pairing" "rows" "I" (.int (own_ro u)) := by obtain ⟨g0, o0, o1, o2, o3, o4, o5, o6, o7, o8, o9, o10, o11, E, f1, f2, f3, f4, f5, f6, f7, f8, f9, f10, f11, f12, fse, fro, v1, v2, v3, v4, v5, v6, v7, v8, v9, v10, v11, v12, cc⟩ := P; exact fro
theorem own_PS_v1 {Z : State} {h : Heap} {n0 : Nat} {A : Nat → Nat} {K : Nat → ClassId} {zr zc : Int32} {CA : Nat → Nat} {CK : Nat → ClassId} {CL : List (List Int32)} {u : own_S} (P : own_PS Z h n0 A K zr zc CA CK CL u) : own_FA Z h (A 1) (K 1) zr CA (own_F u) := by obtain ⟨g0, o0, o1, o2, o3, o4, o5, o6, o7, o8, o9, o10, o11, E, f1, f2, f3, f4, f5, f6, f7, f8, f9, f10, f11, f12, fse, fro, v1, v2, v3, v4, v5, v6, v7, v8, v9, v10, v11, v12, cc⟩ := P; exact v1
theorem own_PS_v2 {Z : State} {h : Heap} {n0 : Nat} {A : Nat → Nat} {K : Nat → ClassId} {zr zc : Int32} {CA : Nat → Nat} {CK : Nat → ClassId} {CL : List (List Int32)} {u : own_S} (P : own_PS Z h n0 A K zr zc CA CK CL u) : own_IA Z h (A 2) (K 2) .int zr (own_ki u) := by obtain ⟨g0, o0, o1, o2, o3, o4, o5, o6, o7, o8, o9, o10, o11, E, f1, f2, f3, f4, f5, f6, f7, f8, f9, f10, f11, f12, fse, fro, v1, v2, v3, v4, v5, v6, v7, v8, v9, v10, v11, v12, cc⟩ := P; exact v2
theorem own_PS_v3 {Z : State} {h : Heap} {n0 : Nat} {A : Nat → Nat} {K : Nat → ClassId} {zr zc : Int32} {CA : Nat → Nat} {CK : Nat → ClassId} {CL : List (List Int32)} {u : own_S} (P : own_PS Z h n0 A K zr zc CA CK CL u) : own_IA Z h (A 3) (K 3) .int zr (own_pa u) := by obtain ⟨g0, o0, o1, o2, o3, o4, o5, o6, o7, o8, o9, o10, o11, E, f1, f2, f3, f4, f5, f6, f7, f8, f9, f10, f11, f12, fse, fro, v1, v2, v3, v4, v5, v6, v7, v8, v9, v10, v11, v12, cc⟩ := P; exact v3
theorem own_PS_v4 {Z : State} {h : Heap} {n0 : Nat} {A : Nat → Nat} {K : Nat → ClassId} {zr zc : Int32} {CA : Nat → Nat} {CK : Nat → ClassId} {CL : List (List Int32)} {u : own_S} (P : own_PS Z h n0 A K zr zc CA CK CL u) : own_IA Z h (A 4) (K 4) .int zc (own_ho u) := by obtain ⟨g0, o0, o1, o2, o3, o4, o5, o6, o7, o8, o9, o10, o11, E, f1, f2, f3, f4, f5, f6, f7, f8, f9, f10, f11, f12, fse, fro, v1, v2, v3, v4, v5, v6, v7, v8, v9, v10, v11, v12, cc⟩ := P; exact v4
theorem own_PS_v5 {Z : State} {h : Heap} {n0 : Nat} {A : Nat → Nat} {K : Nat → ClassId} {zr zc : Int32} {CA : Nat → Nat} {CK : Nat → ClassId} {CL : List (List Int32)} {u : own_S} (P : own_PS Z h n0 A K zr zc CA CK CL u) : own_IA Z h (A 5) (K 5) .boolean zr (own_fi u) := by obtain ⟨g0, o0, o1, o2, o3, o4, o5, o6, o7, o8, o9, o10, o11, E, f1, f2, f3, f4, f5, f6, f7, f8, f9, f10, f11, f12, fse, fro, v1, v2, v3, v4, v5, v6, v7, v8, v9, v10, v11, v12, cc⟩ := P; exact v5
theorem own_PS_v6 {Z : State} {h : Heap} {n0 : Nat} {A : Nat → Nat} {K : Nat → ClassId} {zr zc : Int32} {CA : Nat → Nat} {CK : Nat → ClassId} {CL : List (List Int32)} {u : own_S} (P : own_PS Z h n0 A K zr zc CA CK CL u) : own_JA Z h (A 6) (K 6) zc (own_vi u) := by obtain ⟨g0, o0, o1, o2, o3, o4, o5, o6, o7, o8, o9, o10, o11, E, f1, f2, f3, f4, f5, f6, f7, f8, f9, f10, f11, f12, fse, fro, v1, v2, v3, v4, v5, v6, v7, v8, v9, v10, v11, v12, cc⟩ := P; exact v6
theorem own_PS_v7 {Z : State} {h : Heap} {n0 : Nat} {A : Nat → Nat} {K : Nat → ClassId} {zr zc : Int32} {CA : Nat → Nat} {CK : Nat → ClassId} {CL : List (List Int32)} {u : own_S} (P : own_PS Z h n0 A K zr zc CA CK CL u) : own_IA Z h (A 7) (K 7) .int zr (own_pt u) := by obtain ⟨g0, o0, o1, o2, o3, o4, o5, o6, o7, o8, o9, o10, o11, E, f1, f2, f3, f4, f5, f6, f7, f8, f9, f10, f11, f12, fse, fro, v1, v2, v3, v4, v5, v6, v7, v8, v9, v10, v11, v12, cc⟩ := P; exact v7
theorem own_PS_v8 {Z : State} {h : Heap} {n0 : Nat} {A : Nat → Nat} {K : Nat → ClassId} {zr zc : Int32} {CA : Nat → Nat} {CK : Nat → ClassId} {CL : List (List Int32)} {u : own_S} (P : own_PS Z h n0 A K zr zc CA CK CL u) : own_IA Z h (A 8) (K 8) .int zr (own_va u) := by obtain ⟨g0, o0, o1, o2, o3, o4, o5, o6, o7, o8, o9, o10, o11, E, f1, f2, f3, f4, f5, f6, f7, f8, f9, f10, f11, f12, fse, fro, v1, v2, v3, v4, v5, v6, v7, v8, v9, v10, v11, v12, cc⟩ := P; exact v8
theorem own_PS_v9 {Z : State} {h : Heap} {n0 : Nat} {A : Nat → Nat} {K : Nat → ClassId} {zr zc : Int32} {CA : Nat → Nat} {CK : Nat → ClassId} {CL : List (List Int32)} {u : own_S} (P : own_PS Z h n0 A K zr zc CA CK CL u) : own_IA Z h (A 9) (K 9) .int zr (own_ow u) := by obtain ⟨g0, o0, o1, o2, o3, o4, o5, o6, o7, o8, o9, o10, o11, E, f1, f2, f3, f4, f5, f6, f7, f8, f9, f10, f11, f12, fse, fro, v1, v2, v3, v4, v5, v6, v7, v8, v9, v10, v11, v12, cc⟩ := P; exact v9
theorem own_PS_v10 {Z : State} {h : Heap} {n0 : Nat} {A : Nat → Nat} {K : Nat → ClassId} {zr zc : Int32} {CA : Nat → Nat} {CK : Nat → ClassId} {CL : List (List Int32)} {u : own_S} (P : own_PS Z h n0 A K zr zc CA CK CL u) : own_JA Z h (A 10) (K 10) zr (own_sc u) := by obtain ⟨g0, o0, o1, o2, o3, o4, o5, o6, o7, o8, o9, o10, o11, E, f1, f2, f3, f4, f5, f6, f7, f8, f9, f10, f11, f12, fse, fro, v1, v2, v3, v4, v5, v6, v7, v8, v9, v10, v11, v12, cc⟩ := P; exact v10
theorem own_PS_v11 {Z : State} {h : Heap} {n0 : Nat} {A : Nat → Nat} {K : Nat → ClassId} {zr zc : Int32} {CA : Nat → Nat} {CK : Nat → ClassId} {CL : List (List Int32)} {u : own_S} (P : own_PS Z h n0 A K zr zc CA CK CL u) : own_IA Z h (A 11) (K 11) .int zr (own_nx u) := by obtain ⟨g0, o0, o1, o2, o3, o4, o5, o6, o7, o8, o9, o10, o11, E, f1, f2, f3, f4, f5, f6, f7, f8, f9, f10, f11, f12, fse, fro, v1, v2, v3, v4, v5, v6, v7, v8, v9, v10, v11, v12, cc⟩ := P; exact v11
theorem own_PS_v12 {Z : State} {h : Heap} {n0 : Nat} {A : Nat → Nat} {K : Nat → ClassId} {zr zc : Int32} {CA : Nat → Nat} {CK : Nat → ClassId} {CL : List (List Int32)} {u : own_S} (P : own_PS Z h n0 A K zr zc CA CK CL u) : own_IA Z h (A 12) (K 12) .int zr (own_ff u) := by obtain ⟨g0, o0, o1, o2, o3, o4, o5, o6, o7, o8, o9, o10, o11, E, f1, f2, f3, f4, f5, f6, f7, f8, f9, f10, f11, f12, fse, fro, v1, v2, v3, v4, v5, v6, v7, v8, v9, v10, v11, v12, cc⟩ := P; exact v12
theorem own_PS_cc {Z : State} {h : Heap} {n0 : Nat} {A : Nat → Nat} {K : Nat → ClassId} {zr zc : Int32} {CA : Nat → Nat} {CK : Nat → ClassId} {CL : List (List Int32)} {u : own_S} (P : own_PS Z h n0 A K zr zc CA CK CL u) : ∀ i L, CL[i]? = some L → own_IA Z h (CA i) (CK i) .int (Int32.ofNat L.length) L ∧ Exa Z h (CA i) "[I" ∧ CA i < A 0 := by obtain ⟨g0, o0, o1, o2, o3, o4, o5, o6, o7, o8, o9, o10, o11, E, f1, f2, f3, f4, f5, f6, f7, f8, f9, f10, f11, f12, fse, fro, v1, v2, v3, v4, v5, v6, v7, v8, v9, v10, v11, v12, cc⟩ := P; exact cc
theorem own_PS_gn {Z : State} {h : Heap} {n0 : Nat} {A : Nat → Nat} {K : Nat → ClassId} {zr zc : Int32} {CA : Nat → Nat} {CK : Nat → ClassId} {CL : List (List Int32)} {u : own_S} (P : own_PS Z h n0 A K zr zc CA CK CL u) : n0 ≤ A 0 ∧ n0 ≤ A 1 ∧ n0 ≤ A 2 ∧ n0 ≤ A 3 ∧ n0 ≤ A 4 ∧ n0 ≤ A 5 ∧ n0 ≤ A 6 ∧ n0 ≤ A 7 ∧ n0 ≤ A 8 ∧ n0 ≤ A 9 ∧ n0 ≤ A 10 ∧ n0 ≤ A 11 ∧ n0 ≤ A 12 := by obtain ⟨g0, o0, o1, o2, o3, o4, o5, o6, o7, o8, o9, o10, o11, E, f1, f2, f3, f4, f5, f6, f7, f8, f9, f10, f11, f12, fse, fro, v1, v2, v3, v4, v5, v6, v7, v8, v9, v10, v11, v12, cc⟩ := P; omega
theorem own_w_F {Z : State} {h : Heap} {n0 : Nat} {A : Nat → Nat} {K : Nat → ClassId} {zr zc : Int32} {CA : Nat → Nat} {CK : Nat → ClassId} {CL : List (List Int32)} {u : own_S} (P : own_PS Z h n0 A K zr zc CA CK CL u) {h' : Heap} {sl : Nat} {v : Value} {z : List (Option Nat)} (W : Wr h h' (A 1) sl v) (V : own_FA Z h' (A 1) (K 1) zr CA z) : own_PS Z h' n0 A K zr zc CA CK CL (own_F_set u z) := by
  obtain ⟨g0, o0, o1, o2, o3, o4, o5, o6, o7, o8, o9, o10, o11, E, f1, f2, f3, f4, f5, f6, f7, f8, f9, f10, f11, f12, fse, fro, v1, v2, v3, v4, v5, v6, v7, v8, v9, v10, v11, v12, cc⟩ := P
  exact ⟨g0, o0, o1, o2, o3, o4, o5, o6, o7, o8, o9, o10, o11, E.wr W, f1.other W (Or.inl (Nat.ne_of_lt (by omega))), f2.other W (Or.inl (Nat.ne_of_lt (by omega))), f3.other W (Or.inl (Nat.ne_of_lt (by omega))), f4.other W (Or.inl (Nat.ne_of_lt (by omega))), f5.other W (Or.inl (Nat.ne_of_lt (by omega))), f6.other W (Or.inl (Nat.ne_of_lt (by omega))), f7.other W (Or.inl (Nat.ne_of_lt (by omega))), f8.other W (Or.inl (Nat.ne_of_lt (by omega))), f9.other W (Or.inl (Nat.ne_of_lt (by omega))), f10.other W (Or.inl (Nat.ne_of_lt (by omega))), f11.other W (Or.inl (Nat.ne_of_lt (by omega))), f12.other W (Or.inl (Nat.ne_of_lt (by omega))), fse.other W (Or.inl (Nat.ne_of_lt (by omega))), fro.other W (Or.inl (Nat.ne_of_lt (by omega))), V, v2.other W (Nat.ne_of_gt (by omega)), v3.other W (Nat.ne_of_gt (by omega)), v4.other W (Nat.ne_of_gt (by omega)), v5.other W (Nat.ne_of_gt (by omega)), v6.other W (Nat.ne_of_gt (by omega)), v7.other W (Nat.ne_of_gt (by omega)), v8.other W (Nat.ne_of_gt (by omega)), v9.other W (Nat.ne_of_gt (by omega)), v10.other W (Nat.ne_of_gt (by omega)), v11.other W (Nat.ne_of_gt (by omega)), v12.other W (Nat.ne_of_gt (by omega)), fun i L hi => by obtain ⟨x1, x2, x3⟩ := cc i L hi; exact ⟨x1.other W (Nat.ne_of_lt (by omega)), x2.wr W, x3⟩⟩
theorem own_w_ki {Z : State} {h : Heap} {n0 : Nat} {A : Nat → Nat} {K : Nat → ClassId} {zr zc : Int32} {CA : Nat → Nat} {CK : Nat → ClassId} {CL : List (List Int32)} {u : own_S} (P : own_PS Z h n0 A K zr zc CA CK CL u) {h' : Heap} {sl : Nat} {v : Value} {z : List Int32} (W : Wr h h' (A 2) sl v) (V : own_IA Z h' (A 2) (K 2) .int zr z) : own_PS Z h' n0 A K zr zc CA CK CL (own_ki_set u z) := by
  obtain ⟨g0, o0, o1, o2, o3, o4, o5, o6, o7, o8, o9, o10, o11, E, f1, f2, f3, f4, f5, f6, f7, f8, f9, f10, f11, f12, fse, fro, v1, v2, v3, v4, v5, v6, v7, v8, v9, v10, v11, v12, cc⟩ := P
  exact ⟨g0, o0, o1, o2, o3, o4, o5, o6, o7, o8, o9, o10, o11, E.wr W, f1.other W (Or.inl (Nat.ne_of_lt (by omega))), f2.other W (Or.inl (Nat.ne_of_lt (by omega))), f3.other W (Or.inl (Nat.ne_of_lt (by omega))), f4.other W (Or.inl (Nat.ne_of_lt (by omega))), f5.other W (Or.inl (Nat.ne_of_lt (by omega))), f6.other W (Or.inl (Nat.ne_of_lt (by omega))), f7.other W (Or.inl (Nat.ne_of_lt (by omega))), f8.other W (Or.inl (Nat.ne_of_lt (by omega))), f9.other W (Or.inl (Nat.ne_of_lt (by omega))), f10.other W (Or.inl (Nat.ne_of_lt (by omega))), f11.other W (Or.inl (Nat.ne_of_lt (by omega))), f12.other W (Or.inl (Nat.ne_of_lt (by omega))), fse.other W (Or.inl (Nat.ne_of_lt (by omega))), fro.other W (Or.inl (Nat.ne_of_lt (by omega))), v1.other W (Nat.ne_of_lt (by omega)), V, v3.other W (Nat.ne_of_gt (by omega)), v4.other W (Nat.ne_of_gt (by omega)), v5.other W (Nat.ne_of_gt (by omega)), v6.other W (Nat.ne_of_gt (by omega)), v7.other W (Nat.ne_of_gt (by omega)), v8.other W (Nat.ne_of_gt (by omega)), v9.other W (Nat.ne_of_gt (by omega)), v10.other W (Nat.ne_of_gt (by omega)), v11.other W (Nat.ne_of_gt (by omega)), v12.other W (Nat.ne_of_gt (by omega)), fun i L hi => by obtain ⟨x1, x2, x3⟩ := cc i L hi; exact ⟨x1.other W (Nat.ne_of_lt (by omega)), x2.wr W, x3⟩⟩
theorem own_w_pa {Z : State} {h : Heap} {n0 : Nat} {A : Nat → Nat} {K : Nat → ClassId} {zr zc : Int32} {CA : Nat → Nat} {CK : Nat → ClassId} {CL : List (List Int32)} {u : own_S} (P : own_PS Z h n0 A K zr zc CA CK CL u) {h' : Heap} {sl : Nat} {v : Value} {z : List Int32} (W : Wr h h' (A 3) sl v) (V : own_IA Z h' (A 3) (K 3) .int zr z) : own_PS Z h' n0 A K zr zc CA CK CL (own_pa_set u z) := by
  obtain ⟨g0, o0, o1, o2, o3, o4, o5, o6, o7, o8, o9, o10, o11, E, f1, f2, f3, f4, f5, f6, f7, f8, f9, f10, f11, f12, fse, fro, v1, v2, v3, v4, v5, v6, v7, v8, v9, v10, v11, v12, cc⟩ := P
  exact ⟨g0, o0, o1, o2, o3, o4, o5, o6, o7, o8, o9, o10, o11, E.wr W, f1.other W (Or.inl (Nat.ne_of_lt (by omega))), f2.other W (Or.inl (Nat.ne_of_lt (by omega))), f3.other W (Or.inl (Nat.ne_of_lt (by omega))), f4.other W (Or.inl (Nat.ne_of_lt (by omega))), f5.other W (Or.inl (Nat.ne_of_lt (by omega))), f6.other W (Or.inl (Nat.ne_of_lt (by omega))), f7.other W (Or.inl (Nat.ne_of_lt (by omega))), f8.other W (Or.inl (Nat.ne_of_lt (by omega))), f9.other W (Or.inl (Nat.ne_of_lt (by omega))), f10.other W (Or.inl (Nat.ne_of_lt (by omega))), f11.other W (Or.inl (Nat.ne_of_lt (by omega))), f12.other W (Or.inl (Nat.ne_of_lt (by omega))), fse.other W (Or.inl (Nat.ne_of_lt (by omega))), fro.other W (Or.inl (Nat.ne_of_lt (by omega))), v1.other W (Nat.ne_of_lt (by omega)), v2.other W (Nat.ne_of_lt (by omega)), V, v4.other W (Nat.ne_of_gt (by omega)), v5.other W (Nat.ne_of_gt (by omega)), v6.other W (Nat.ne_of_gt (by omega)), v7.other W (Nat.ne_of_gt (by omega)), v8.other W (Nat.ne_of_gt (by omega)), v9.other W (Nat.ne_of_gt (by omega)), v10.other W (Nat.ne_of_gt (by omega)), v11.other W (Nat.ne_of_gt (by omega)), v12.other W (Nat.ne_of_gt (by omega)), fun i L hi => by obtain ⟨x1, x2, x3⟩ := cc i L hi; exact ⟨x1.other W (Nat.ne_of_lt (by omega)), x2.wr W, x3⟩⟩
theorem own_w_ho {Z : State} {h : Heap} {n0 : Nat} {A : Nat → Nat} {K : Nat → ClassId} {zr zc : Int32} {CA : Nat → Nat} {CK : Nat → ClassId} {CL : List (List Int32)} {u : own_S} (P : own_PS Z h n0 A K zr zc CA CK CL u) {h' : Heap} {sl : Nat} {v : Value} {z : List Int32} (W : Wr h h' (A 4) sl v) (V : own_IA Z h' (A 4) (K 4) .int zc z) : own_PS Z h' n0 A K zr zc CA CK CL (own_ho_set u z) := by
  obtain ⟨g0, o0, o1, o2, o3, o4, o5, o6, o7, o8, o9, o10, o11, E, f1, f2, f3, f4, f5, f6, f7, f8, f9, f10, f11, f12, fse, fro, v1, v2, v3, v4, v5, v6, v7, v8, v9, v10, v11, v12, cc⟩ := P
  exact ⟨g0, o0, o1, o2, o3, o4, o5, o6, o7, o8, o9, o10, o11, E.wr W, f1.other W (Or.inl (Nat.ne_of_lt (by omega))), f2.other W (Or.inl (Nat.ne_of_lt (by omega))), f3.other W (Or.inl (Nat.ne_of_lt (by omega))), f4.other W (Or.inl (Nat.ne_of_lt (by omega))), f5.other W (Or.inl (Nat.ne_of_lt (by omega))), f6.other W (Or.inl (Nat.ne_of_lt (by omega))), f7.other W (Or.inl (Nat.ne_of_lt (by omega))), f8.other W (Or.inl (Nat.ne_of_lt (by omega))), f9.other W (Or.inl (Nat.ne_of_lt (by omega))), f10.other W (Or.inl (Nat.ne_of_lt (by omega))), f11.other W (Or.inl (Nat.ne_of_lt (by omega))), f12.other W (Or.inl (Nat.ne_of_lt (by omega))), fse.other W (Or.inl (Nat.ne_of_lt (by omega))), fro.other W (Or.inl (Nat.ne_of_lt (by omega))), v1.other W (Nat.ne_of_lt (by omega)), v2.other W (Nat.ne_of_lt (by omega)), v3.other W (Nat.ne_of_lt (by omega)), V, v5.other W (Nat.ne_of_gt (by omega)), v6.other W (Nat.ne_of_gt (by omega)), v7.other W (Nat.ne_of_gt (by omega)), v8.other W (Nat.ne_of_gt (by omega)), v9.other W (Nat.ne_of_gt (by omega)), v10.other W (Nat.ne_of_gt (by omega)), v11.other W (Nat.ne_of_gt (by omega)), v12.other W (Nat.ne_of_gt (by omega)), fun i L hi => by obtain ⟨x1, x2, x3⟩ := cc i L hi; exact ⟨x1.other W (Nat.ne_of_lt (by omega)), x2.wr W, x3⟩⟩
theorem own_w_fi {Z : State} {h : Heap} {n0 : Nat} {A : Nat → Nat} {K : Nat → ClassId} {zr zc : Int32} {CA : Nat → Nat} {CK : Nat → ClassId} {CL : List (List Int32)} {u : own_S} (P : own_PS Z h n0 A K zr zc CA CK CL u) {h' : Heap} {sl : Nat} {v : Value} {z : List Int32} (W : Wr h h' (A 5) sl v) (V : own_IA Z h' (A 5) (K 5) .boolean zr z) : own_PS Z h' n0 A K zr zc CA CK CL (own_fi_set u z) := by
  obtain ⟨g0, o0, o1, o2, o3, o4, o5, o6, o7, o8, o9, o10, o11, E, f1, f2, f3, f4, f5, f6, f7, f8, f9, f10, f11, f12, fse, fro, v1, v2, v3, v4, v5, v6, v7, v8, v9, v10, v11, v12, cc⟩ := P
  exact ⟨g0, o0, o1, o2, o3, o4, o5, o6, o7, o8, o9, o10, o11, E.wr W, f1.other W (Or.inl (Nat.ne_of_lt (by omega))), f2.other W (Or.inl (Nat.ne_of_lt (by omega))), f3.other W (Or.inl (Nat.ne_of_lt (by omega))), f4.other W (Or.inl (Nat.ne_of_lt (by omega))), f5.other W (Or.inl (Nat.ne_of_lt (by omega))), f6.other W (Or.inl (Nat.ne_of_lt (by omega))), f7.other W (Or.inl (Nat.ne_of_lt (by omega))), f8.other W (Or.inl (Nat.ne_of_lt (by omega))), f9.other W (Or.inl (Nat.ne_of_lt (by omega))), f10.other W (Or.inl (Nat.ne_of_lt (by omega))), f11.other W (Or.inl (Nat.ne_of_lt (by omega))), f12.other W (Or.inl (Nat.ne_of_lt (by omega))), fse.other W (Or.inl (Nat.ne_of_lt (by omega))), fro.other W (Or.inl (Nat.ne_of_lt (by omega))), v1.other W (Nat.ne_of_lt (by omega)), v2.other W (Nat.ne_of_lt (by omega)), v3.other W (Nat.ne_of_lt (by omega)), v4.other W (Nat.ne_of_lt (by omega)), V, v6.other W (Nat.ne_of_gt (by omega)), v7.other W (Nat.ne_of_gt (by omega)), v8.other W (Nat.ne_of_gt (by omega)), v9.other W (Nat.ne_of_gt (by omega)), v10.other W (Nat.ne_of_gt (by omega)), v11.other W (Nat.ne_of_gt (by omega)), v12.other W (Nat.ne_of_gt (by omega)), fun i L hi => by obtain ⟨x1, x2, x3⟩ := cc i L hi; exact ⟨x1.other W (Nat.ne_of_lt (by omega)), x2.wr W, x3⟩⟩
theorem own_w_vi {Z : State} {h : Heap} {n0 : Nat} {A : Nat → Nat} {K : Nat → ClassId} {zr zc : Int32} {CA : Nat → Nat} {CK : Nat → ClassId} {CL : List (List Int32)} {u : own_S} (P : own_PS Z h n0 A K zr zc CA CK CL u) {h' : Heap} {sl : Nat} {v : Value} {z : List Int64} (W : Wr h h' (A 6) sl v) (V : own_JA Z h' (A 6) (K 6) zc z) : own_PS Z h' n0 A K zr zc CA CK CL (own_vi_set u z) := by
  obtain ⟨g0, o0, o1, o2, o3, o4, o5, o6, o7, o8, o9, o10, o11, E, f1, f2, f3, f4, f5, f6, f7, f8, f9, f10, f11, f12, fse, fro, v1, v2, v3, v4, v5, v6, v7, v8, v9, v10, v11, v12, cc⟩ := P
  exact ⟨g0, o0, o1, o2, o3, o4, o5, o6, o7, o8, o9, o10, o11, E.wr W, f1.other W (Or.inl (Nat.ne_of_lt (by omega))), f2.other W (Or.inl (Nat.ne_of_lt (by omega))), f3.other W (Or.inl (Nat.ne_of_lt (by omega))), f4.other W (Or.inl (Nat.ne_of_lt (by omega))), f5.other W (Or.inl (Nat.ne_of_lt (by omega))), f6.other W (Or.inl (Nat.ne_of_lt (by omega))), f7.other W (Or.inl (Nat.ne_of_lt (by omega))), f8.other W (Or.inl (Nat.ne_of_lt (by omega))), f9.other W (Or.inl (Nat.ne_of_lt (by omega))), f10.other W (Or.inl (Nat.ne_of_lt (by omega))), f11.other W (Or.inl (Nat.ne_of_lt (by omega))), f12.other W (Or.inl (Nat.ne_of_lt (by omega))), fse.other W (Or.inl (Nat.ne_of_lt (by omega))), fro.other W (Or.inl (Nat.ne_of_lt (by omega))), v1.other W (Nat.ne_of_lt (by omega)), v2.other W (Nat.ne_of_lt (by omega)), v3.other W (Nat.ne_of_lt (by omega)), v4.other W (Nat.ne_of_lt (by omega)), v5.other W (Nat.ne_of_lt (by omega)), V, v7.other W (Nat.ne_of_gt (by omega)), v8.other W (Nat.ne_of_gt (by omega)), v9.other W (Nat.ne_of_gt (by omega)), v10.other W (Nat.ne_of_gt (by omega)), v11.other W (Nat.ne_of_gt (by omega)), v12.other W (Nat.ne_of_gt (by omega)), fun i L hi => by obtain ⟨x1, x2, x3⟩ := cc i L hi; exact ⟨x1.other W (Nat.ne_of_lt (by omega)), x2.wr W, x3⟩⟩
theorem own_w_pt {Z : State} {h : Heap} {n0 : Nat} {A : Nat → Nat} {K : Nat → ClassId} {zr zc : Int32} {CA : Nat → Nat} {CK : Nat → ClassId} {CL : List (List Int32)} {u : own_S} (P : own_PS Z h n0 A K zr zc CA CK CL u) {h' : Heap} {sl : Nat} {v : Value} {z : List Int32} (W : Wr h h' (A 7) sl v) (V : own_IA Z h' (A 7) (K 7) .int zr z) : own_PS Z h' n0 A K zr zc CA CK CL (own_pt_set u z) := by
  obtain ⟨g0, o0, o1, o2, o3, o4, o5, o6, o7, o8, o9, o10, o11, E, f1, f2, f3, f4, f5, f6, f7, f8, f9, f10, f11, f12, fse, fro, v1, v2, v3, v4, v5, v6, v7, v8, v9, v10, v11, v12, cc⟩ := P
  exact ⟨g0, o0, o1, o2, o3, o4, o5, o6, o7, o8, o9, o10, o11, E.wr W, f1.other W (Or.inl (Nat.ne_of_lt (by omega))), f2.other W (Or.inl (Nat.ne_of_lt (by omega))), f3.other W (Or.inl (Nat.ne_of_lt (by omega))), f4.other W (Or.inl (Nat.ne_of_lt (by omega))), f5.other W (Or.inl (Nat.ne_of_lt (by omega))), f6.other W (Or.inl (Nat.ne_of_lt (by omega))), f7.other W (Or.inl (Nat.ne_of_lt (by omega))), f8.other W (Or.inl (Nat.ne_of_lt (by omega))), f9.other W (Or.inl (Nat.ne_of_lt (by omega))), f10.other W (Or.inl (Nat.ne_of_lt (by omega))), f11.other W (Or.inl (Nat.ne_of_lt (by omega))), f12.other W (Or.inl (Nat.ne_of_lt (by omega))), fse.other W (Or.inl (Nat.ne_of_lt (by omega))), fro.other W (Or.inl (Nat.ne_of_lt (by omega))), v1.other W (Nat.ne_of_lt (by omega)), v2.other W (Nat.ne_of_lt (by omega)), v3.other W (Nat.ne_of_lt (by omega)), v4.other W (Nat.ne_of_lt (by omega)), v5.other W (Nat.ne_of_lt (by omega)), v6.other W (Nat.ne_of_lt (by omega)), V, v8.other W (Nat.ne_of_gt (by omega)), v9.other W (Nat.ne_of_gt (by omega)), v10.other W (Nat.ne_of_gt (by omega)), v11.other W (Nat.ne_of_gt (by omega)), v12.other W (Nat.ne_of_gt (by omega)), fun i L hi => by obtain ⟨x1, x2, x3⟩ := cc i L hi; exact ⟨x1.other W (Nat.ne_of_lt (by omega)), x2.wr W, x3⟩⟩
theorem own_w_va {Z : State} {h : Heap} {n0 : Nat} {A : Nat → Nat} {K : Nat → ClassId} {zr zc : Int32} {CA : Nat → Nat} {CK : Nat → ClassId} {CL : List (List Int32)} {u : own_S} (P : own_PS Z h n0 A K zr zc CA CK CL u) {h' : Heap} {sl : Nat} {v : Value} {z : List Int32} (W : Wr h h' (A 8) sl v) (V : own_IA Z h' (A 8) (K 8) .int zr z) : own_PS Z h' n0 A K zr zc CA CK CL (own_va_set u z) := by
  obtain ⟨g0, o0, o1, o2, o3, o4, o5, o6, o7, o8, o9, o10, o11, E, f1, f2, f3, f4, f5, f6, f7, f8, f9, f10, f11, f12, fse, fro, v1, v2, v3, v4, v5, v6, v7, v8, v9, v10, v11, v12, cc⟩ := P
  exact ⟨g0, o0, o1, o2, o3, o4, o5, o6, o7, o8, o9, o10, o11, E.wr W, f1.other W (Or.inl (Nat.ne_of_lt (by omega))), f2.other W (Or.inl (Nat.ne_of_lt (by omega))), f3.other W (Or.inl (Nat.ne_of_lt (by omega))), f4.other W (Or.inl (Nat.ne_of_lt (by omega))), f5.other W (Or.inl (Nat.ne_of_lt (by omega))), f6.other W (Or.inl (Nat.ne_of_lt (by omega))), f7.other W (Or.inl (Nat.ne_of_lt (by omega))), f8.other W (Or.inl (Nat.ne_of_lt (by omega))), f9.other W (Or.inl (Nat.ne_of_lt (by omega))), f10.other W (Or.inl (Nat.ne_of_lt (by omega))), f11.other W (Or.inl (Nat.ne_of_lt (by omega))), f12.other W (Or.inl (Nat.ne_of_lt (by omega))), fse.other W (Or.inl (Nat.ne_of_lt (by omega))), fro.other W (Or.inl (Nat.ne_of_lt (by omega))), v1.other W (Nat.ne_of_lt (by omega)), v2.other W (Nat.ne_of_lt (by omega)), v3.other W (Nat.ne_of_lt (by omega)), v4.other W (Nat.ne_of_lt (by omega)), v5.other W (Nat.ne_of_lt (by omega)), v6.other W (Nat.ne_of_lt (by omega)), v7.other W (Nat.ne_of_lt (by omega)), V, v9.other W (Nat.ne_of_gt (by omega)), v10.other W (Nat.ne_of_gt (by omega)), v11.other W (Nat.ne_of_gt (by omega)), v12.other W (Nat.ne_of_gt (by omega)), fun i L hi => by obtain ⟨x1, x2, x3⟩ := cc i L hi; exact ⟨x1.other W (Nat.ne_of_lt (by omega)), x2.wr W, x3⟩⟩
theorem own_w_ow {Z : State} {h : Heap} {n0 : Nat} {A : Nat → Nat} {K : Nat → ClassId} {zr zc : Int32} {CA : Nat → Nat} {CK : Nat → ClassId} {CL : List (List Int32)} {u : own_S} (P : own_PS Z h n0 A K zr zc CA CK CL u) {h' : Heap} {sl : Nat} {v : Value} {z : List Int32} (W : Wr h h' (A 9) sl v) (V : own_IA Z h' (A 9) (K 9) .int zr z) : own_PS Z h' n0 A K zr zc CA CK CL (own_ow_set u z) := by
  obtain ⟨g0, o0, o1, o2, o3, o4, o5, o6, o7, o8, o9, o10, o11, E, f1, f2, f3, f4, f5, f6, f7, f8, f9, f10, f11, f12, fse, fro, v1, v2, v3, v4, v5, v6, v7, v8, v9, v10, v11, v12, cc⟩ := P
  exact ⟨g0, o0, o1, o2, o3, o4, o5, o6, o7, o8, o9, o10, o11, E.wr W, f1.other W (Or.inl (Nat.ne_of_lt (by omega))), f2.other W (Or.inl (Nat.ne_of_lt (by omega))), f3.other W (Or.inl (Nat.ne_of_lt (by omega))), f4.other W (Or.inl (Nat.ne_of_lt (by omega))), f5.other W (Or.inl (Nat.ne_of_lt (by omega))), f6.other W (Or.inl (Nat.ne_of_lt (by omega))), f7.other W (Or.inl (Nat.ne_of_lt (by omega))), f8.other W (Or.inl (Nat.ne_of_lt (by omega))), f9.other W (Or.inl (Nat.ne_of_lt (by omega))), f10.other W (Or.inl (Nat.ne_of_lt (by omega))), f11.other W (Or.inl (Nat.ne_of_lt (by omega))), f12.other W (Or.inl (Nat.ne_of_lt (by omega))), fse.other W (Or.inl (Nat.ne_of_lt (by omega))), fro.other W (Or.inl (Nat.ne_of_lt (by omega))), v1.other W (Nat.ne_of_lt (by omega)), v2.other W (Nat.ne_of_lt (by omega)), v3.other W (Nat.ne_of_lt (by omega)), v4.other W (Nat.ne_of_lt (by omega)), v5.other W (Nat.ne_of_lt (by omega)), v6.other W (Nat.ne_of_lt (by omega)), v7.other W (Nat.ne_of_lt (by omega)), v8.other W (Nat.ne_of_lt (by omega)), V, v10.other W (Nat.ne_of_gt (by omega)), v11.other W (Nat.ne_of_gt (by omega)), v12.other W (Nat.ne_of_gt (by omega)), fun i L hi => by obtain ⟨x1, x2, x3⟩ := cc i L hi; exact ⟨x1.other W (Nat.ne_of_lt (by omega)), x2.wr W, x3⟩⟩
theorem own_w_sc {Z : State} {h : Heap} {n0 : Nat} {A : Nat → Nat} {K : Nat → ClassId} {zr zc : Int32} {CA : Nat → Nat} {CK : Nat → ClassId} {CL : List (List Int32)} {u : own_S} (P : own_PS Z h n0 A K zr zc CA CK CL u) {h' : Heap} {sl : Nat} {v : Value} {z : List Int64} (W : Wr h h' (A 10) sl v) (V : own_JA Z h' (A 10) (K 10) zr z) : own_PS Z h' n0 A K zr zc CA CK CL (own_sc_set u z) := by
  obtain ⟨g0, o0, o1, o2, o3, o4, o5, o6, o7, o8, o9, o10, o11, E, f1, f2, f3, f4, f5, f6, f7, f8, f9, f10, f11, f12, fse, fro, v1, v2, v3, v4, v5, v6, v7, v8, v9, v10, v11, v12, cc⟩ := P
  exact ⟨g0, o0, o1, o2, o3, o4, o5, o6, o7, o8, o9, o10, o11, E.wr W, f1.other W (Or.inl (Nat.ne_of_lt (by omega))), f2.other W (Or.inl (Nat.ne_of_lt (by omega))), f3.other W (Or.inl (Nat.ne_of_lt (by omega))), f4.other W (Or.inl (Nat.ne_of_lt (by omega))), f5.other W (Or.inl (Nat.ne_of_lt (by omega))), f6.other W (Or.inl (Nat.ne_of_lt (by omega))), f7.other W (Or.inl (Nat.ne_of_lt (by omega))), f8.other W (Or.inl (Nat.ne_of_lt (by omega))), f9.other W (Or.inl (Nat.ne_of_lt (by omega))), f10.other W (Or.inl (Nat.ne_of_lt (by omega))), f11.other W (Or.inl (Nat.ne_of_lt (by omega))), f12.other W (Or.inl (Nat.ne_of_lt (by omega))), fse.other W (Or.inl (Nat.ne_of_lt (by omega))), fro.other W (Or.inl (Nat.ne_of_lt (by omega))), v1.other W (Nat.ne_of_lt (by omega)), v2.other W (Nat.ne_of_lt (by omega)), v3.other W (Nat.ne_of_lt (by omega)), v4.other W (Nat.ne_of_lt (by omega)), v5.other W (Nat.ne_of_lt (by omega)), v6.other W (Nat.ne_of_lt (by omega)), v7.other W (Nat.ne_of_lt (by omega)), v8.other W (Nat.ne_of_lt (by omega)), v9.other W (Nat.ne_of_lt (by omega)), V, v11.other W (Nat.ne_of_gt (by omega)), v12.other W (Nat.ne_of_gt (by omega)), fun i L hi => by obtain ⟨x1, x2, x3⟩ := cc i L hi; exact ⟨x1.other W (Nat.ne_of_lt (by omega)), x2.wr W, x3⟩⟩
theorem own_w_nx {Z : State} {h : Heap} {n0 : Nat} {A : Nat → Nat} {K : Nat → ClassId} {zr zc : Int32} {CA : Nat → Nat} {CK : Nat → ClassId} {CL : List (List Int32)} {u : own_S} (P : own_PS Z h n0 A K zr zc CA CK CL u) {h' : Heap} {sl : Nat} {v : Value} {z : List Int32} (W : Wr h h' (A 11) sl v) (V : own_IA Z h' (A 11) (K 11) .int zr z) : own_PS Z h' n0 A K zr zc CA CK CL (own_nx_set u z) := by
  obtain ⟨g0, o0, o1, o2, o3, o4, o5, o6, o7, o8, o9, o10, o11, E, f1, f2, f3, f4, f5, f6, f7, f8, f9, f10, f11, f12, fse, fro, v1, v2, v3, v4, v5, v6, v7, v8, v9, v10, v11, v12, cc⟩ := P
  exact ⟨g0, o0, o1, o2, o3, o4, o5, o6, o7, o8, o9, o10, o11, E.wr W, f1.other W (Or.inl (Nat.ne_of_lt (by omega))), f2.other W (Or.inl (Nat.ne_of_lt (by omega))), f3.other W (Or.inl (Nat.ne_of_lt (by omega))), f4.other W (Or.inl (Nat.ne_of_lt (by omega))), f5.other W (Or.inl (Nat.ne_of_lt (by omega))), f6.other W (Or.inl (Nat.ne_of_lt (by omega))), f7.other W (Or.inl (Nat.ne_of_lt (by omega))), f8.other W (Or.inl (Nat.ne_of_lt (by omega))), f9.other W (Or.inl (Nat.ne_of_lt (by omega))), f10.other W (Or.inl (Nat.ne_of_lt (by omega))), f11.other W (Or.inl (Nat.ne_of_lt (by omega))), f12.other W (Or.inl (Nat.ne_of_lt (by omega))), fse.other W (Or.inl (Nat.ne_of_lt (by omega))), fro.other W (Or.inl (Nat.ne_of_lt (by omega))), v1.other W (Nat.ne_of_lt (by omega)), v2.other W (Nat.ne_of_lt (by omega)), v3.other W (Nat.ne_of_lt (by omega)), v4.other W (Nat.ne_of_lt (by omega)), v5.other W (Nat.ne_of_lt (by omega)), v6.other W (Nat.ne_of_lt (by omega)), v7.other W (Nat.ne_of_lt (by omega)), v8.other W (Nat.ne_of_lt (by omega)), v9.other W (Nat.ne_of_lt (by omega)), v10.other W (Nat.ne_of_lt (by omega)), V, v12.other W (Nat.ne_of_gt (by omega)), fun i L hi => by obtain ⟨x1, x2, x3⟩ := cc i L hi; exact ⟨x1.other W (Nat.ne_of_lt (by omega)), x2.wr W, x3⟩⟩
theorem own_w_ff {Z : State} {h : Heap} {n0 : Nat} {A : Nat → Nat} {K : Nat → ClassId} {zr zc : Int32} {CA : Nat → Nat} {CK : Nat → ClassId} {CL : List (List Int32)} {u : own_S} (P : own_PS Z h n0 A K zr zc CA CK CL u) {h' : Heap} {sl : Nat} {v : Value} {z : List Int32} (W : Wr h h' (A 12) sl v) (V : own_IA Z h' (A 12) (K 12) .int zr z) : own_PS Z h' n0 A K zr zc CA CK CL (own_ff_set u z) := by
  obtain ⟨g0, o0, o1, o2, o3, o4, o5, o6, o7, o8, o9, o10, o11, E, f1, f2, f3, f4, f5, f6, f7, f8, f9, f10, f11, f12, fse, fro, v1, v2, v3, v4, v5, v6, v7, v8, v9, v10, v11, v12, cc⟩ := P
  exact ⟨g0, o0, o1, o2, o3, o4, o5, o6, o7, o8, o9, o10, o11, E.wr W, f1.other W (Or.inl (Nat.ne_of_lt (by omega))), f2.other W (Or.inl (Nat.ne_of_lt (by omega))), f3.other W (Or.inl (Nat.ne_of_lt (by omega))), f4.other W (Or.inl (Nat.ne_of_lt (by omega))), f5.other W (Or.inl (Nat.ne_of_lt (by omega))), f6.other W (Or.inl (Nat.ne_of_lt (by omega))), f7.other W (Or.inl (Nat.ne_of_lt (by omega))), f8.other W (Or.inl (Nat.ne_of_lt (by omega))), f9.other W (Or.inl (Nat.ne_of_lt (by omega))), f10.other W (Or.inl (Nat.ne_of_lt (by omega))), f11.other W (Or.inl (Nat.ne_of_lt (by omega))), f12.other W (Or.inl (Nat.ne_of_lt (by omega))), fse.other W (Or.inl (Nat.ne_of_lt (by omega))), fro.other W (Or.inl (Nat.ne_of_lt (by omega))), v1.other W (Nat.ne_of_lt (by omega)), v2.other W (Nat.ne_of_lt (by omega)), v3.other W (Nat.ne_of_lt (by omega)), v4.other W (Nat.ne_of_lt (by omega)), v5.other W (Nat.ne_of_lt (by omega)), v6.other W (Nat.ne_of_lt (by omega)), v7.other W (Nat.ne_of_lt (by omega)), v8.other W (Nat.ne_of_lt (by omega)), v9.other W (Nat.ne_of_lt (by omega)), v10.other W (Nat.ne_of_lt (by omega)), v11.other W (Nat.ne_of_lt (by omega)), V, fun i L hi => by obtain ⟨x1, x2, x3⟩ := cc i L hi; exact ⟨x1.other W (Nat.ne_of_lt (by omega)), x2.wr W, x3⟩⟩
theorem own_w_se {Z : State} {h : Heap} {n0 : Nat} {A : Nat → Nat} {K : Nat → ClassId} {zr zc : Int32} {CA : Nat → Nat} {CK : Nat → ClassId} {CL : List (List Int32)} {u : own_S} (P : own_PS Z h n0 A K zr zc CA CK CL u) {a0 : Array Value} (hw : ∀ d ∈ tables_1, d.before a0 Z = true) {h' : Heap} {z : Int64} (W : Wr h h' (A 0) (Jvm.RoadKit.slotOf Z "com/example/document_pattern_rules/documentpatternrules/pattern/Pairing" "searches" "J") (.long z)) : own_PS Z h' n0 A K zr zc CA CK CL (own_se_set u z) := by
  obtain ⟨g0, o0, o1, o2, o3, o4, o5, o6, o7, o8, o9, o10, o11, E, f1, f2, f3, f4, f5, f6, f7, f8, f9, f10, f11, f12, fse, fro, v1, v2, v3, v4, v5, v6, v7, v8, v9, v10, v11, v12, cc⟩ := P
  exact ⟨g0, o0, o1, o2, o3, o4, o5, o6, o7, o8, o9, o10, o11, E.wr W, f1.other W (Or.inr (slot_ne (Or.inr (hw _ (List.mem_of_getElem? (i := 17) rfl))) (Or.inl (hw _ (List.mem_of_getElem? (i := 65) rfl))) (by decide) (t := (.array (.array .int))) (t' := .long) (by decide) (by decide))), f2.other W (Or.inr (slot_ne (Or.inr (hw _ (List.mem_of_getElem? (i := 19) rfl))) (Or.inl (hw _ (List.mem_of_getElem? (i := 65) rfl))) (by decide) (t := (.array .int)) (t' := .long) (by decide) (by decide))), f3.other W (Or.inr (slot_ne (Or.inr (hw _ (List.mem_of_getElem? (i := 21) rfl))) (Or.inl (hw _ (List.mem_of_getElem? (i := 65) rfl))) (by decide) (t := (.array .int)) (t' := .long) (by decide) (by decide))), f4.other W (Or.inr (slot_ne (Or.inr (hw _ (List.mem_of_getElem? (i := 23) rfl))) (Or.inl (hw _ (List.mem_of_getElem? (i := 65) rfl))) (by decide) (t := (.array .int)) (t' := .long) (by decide) (by decide))), f5.other W (Or.inr (slot_ne (Or.inr (hw _ (List.mem_of_getElem? (i := 26) rfl))) (Or.inl (hw _ (List.mem_of_getElem? (i := 65) rfl))) (by decide) (t := (.array .boolean)) (t' := .long) (by decide) (by decide))), f6.other W (Or.inr (slot_ne (Or.inr (hw _ (List.mem_of_getElem? (i := 29) rfl))) (Or.inl (hw _ (List.mem_of_getElem? (i := 65) rfl))) (by decide) (t := (.array .long)) (t' := .long) (by decide) (by decide))), f7.other W (Or.inr (slot_ne (Or.inr (hw _ (List.mem_of_getElem? (i := 31) rfl))) (Or.inl (hw _ (List.mem_of_getElem? (i := 65) rfl))) (by decide) (t := (.array .int)) (t' := .long) (by decide) (by decide))), f8.other W (Or.inr (slot_ne (Or.inr (hw _ (List.mem_of_getElem? (i := 33) rfl))) (Or.inl (hw _ (List.mem_of_getElem? (i := 65) rfl))) (by decide) (t := (.array .int)) (t' := .long) (by decide) (by decide))), f9.other W (Or.inr (slot_ne (Or.inr (hw _ (List.mem_of_getElem? (i := 35) rfl))) (Or.inl (hw _ (List.mem_of_getElem? (i := 65) rfl))) (by decide) (t := (.array .int)) (t' := .long) (by decide) (by decide))), f10.other W (Or.inr (slot_ne (Or.inr (hw _ (List.mem_of_getElem? (i := 37) rfl))) (Or.inl (hw _ (List.mem_of_getElem? (i := 65) rfl))) (by decide) (t := (.array .long)) (t' := .long) (by decide) (by decide))), f11.other W (Or.inr (slot_ne (Or.inr (hw _ (List.mem_of_getElem? (i := 39) rfl))) (Or.inl (hw _ (List.mem_of_getElem? (i := 65) rfl))) (by decide) (t := (.array .int)) (t' := .long) (by decide) (by decide))), f12.other W (Or.inr (slot_ne (Or.inr (hw _ (List.mem_of_getElem? (i := 41) rfl))) (Or.inl (hw _ (List.mem_of_getElem? (i := 65) rfl))) (by decide) (t := (.array .int)) (t' := .long) (by decide) (by decide))), fse.same W, fro.other W (Or.inr (slot_ne (Or.inl (hw _ (List.mem_of_getElem? (i := 52) rfl))) (Or.inl (hw _ (List.mem_of_getElem? (i := 65) rfl))) (by decide) (t := .int) (t' := .long) (by decide) (by decide))), v1.other W (Nat.ne_of_gt (by omega)), v2.other W (Nat.ne_of_gt (by omega)), v3.other W (Nat.ne_of_gt (by omega)), v4.other W (Nat.ne_of_gt (by omega)), v5.other W (Nat.ne_of_gt (by omega)), v6.other W (Nat.ne_of_gt (by omega)), v7.other W (Nat.ne_of_gt (by omega)), v8.other W (Nat.ne_of_gt (by omega)), v9.other W (Nat.ne_of_gt (by omega)), v10.other W (Nat.ne_of_gt (by omega)), v11.other W (Nat.ne_of_gt (by omega)), v12.other W (Nat.ne_of_gt (by omega)), fun i L hi => by obtain ⟨x1, x2, x3⟩ := cc i L hi; exact ⟨x1.other W (Nat.ne_of_lt (by omega)), x2.wr W, x3⟩⟩
theorem own_w_ro {Z : State} {h : Heap} {n0 : Nat} {A : Nat → Nat} {K : Nat → ClassId} {zr zc : Int32} {CA : Nat → Nat} {CK : Nat → ClassId} {CL : List (List Int32)} {u : own_S} (P : own_PS Z h n0 A K zr zc CA CK CL u) {a0 : Array Value} (hw : ∀ d ∈ tables_1, d.before a0 Z = true) {h' : Heap} {z : Int32} (W : Wr h h' (A 0) (Jvm.RoadKit.slotOf Z "com/example/document_pattern_rules/documentpatternrules/pattern/Pairing" "rows" "I") (.int z)) : own_PS Z h' n0 A K zr zc CA CK CL (own_ro_set u z) := by
  obtain ⟨g0, o0, o1, o2, o3, o4, o5, o6, o7, o8, o9, o10, o11, E, f1, f2, f3, f4, f5, f6, f7, f8, f9, f10, f11, f12, fse, fro, v1, v2, v3, v4, v5, v6, v7, v8, v9, v10, v11, v12, cc⟩ := P
  exact ⟨g0, o0, o1, o2, o3, o4, o5, o6, o7, o8, o9, o10, o11, E.wr W, f1.other W (Or.inr (slot_ne (Or.inr (hw _ (List.mem_of_getElem? (i := 17) rfl))) (Or.inl (hw _ (List.mem_of_getElem? (i := 52) rfl))) (by decide) (t := (.array (.array .int))) (t' := .int) (by decide) (by decide))), f2.other W (Or.inr (slot_ne (Or.inr (hw _ (List.mem_of_getElem? (i := 19) rfl))) (Or.inl (hw _ (List.mem_of_getElem? (i := 52) rfl))) (by decide) (t := (.array .int)) (t' := .int) (by decide) (by decide))), f3.other W (Or.inr (slot_ne (Or.inr (hw _ (List.mem_of_getElem? (i := 21) rfl))) (Or.inl (hw _ (List.mem_of_getElem? (i := 52) rfl))) (by decide) (t := (.array .int)) (t' := .int) (by decide) (by decide))), f4.other W (Or.inr (slot_ne (Or.inr (hw _ (List.mem_of_getElem? (i := 23) rfl))) (Or.inl (hw _ (List.mem_of_getElem? (i := 52) rfl))) (by decide) (t := (.array .int)) (t' := .int) (by decide) (by decide))), f5.other W (Or.inr (slot_ne (Or.inr (hw _ (List.mem_of_getElem? (i := 26) rfl))) (Or.inl (hw _ (List.mem_of_getElem? (i := 52) rfl))) (by decide) (t := (.array .boolean)) (t' := .int) (by decide) (by decide))), f6.other W (Or.inr (slot_ne (Or.inr (hw _ (List.mem_of_getElem? (i := 29) rfl))) (Or.inl (hw _ (List.mem_of_getElem? (i := 52) rfl))) (by decide) (t := (.array .long)) (t' := .int) (by decide) (by decide))), f7.other W (Or.inr (slot_ne (Or.inr (hw _ (List.mem_of_getElem? (i := 31) rfl))) (Or.inl (hw _ (List.mem_of_getElem? (i := 52) rfl))) (by decide) (t := (.array .int)) (t' := .int) (by decide) (by decide))), f8.other W (Or.inr (slot_ne (Or.inr (hw _ (List.mem_of_getElem? (i := 33) rfl))) (Or.inl (hw _ (List.mem_of_getElem? (i := 52) rfl))) (by decide) (t := (.array .int)) (t' := .int) (by decide) (by decide))), f9.other W (Or.inr (slot_ne (Or.inr (hw _ (List.mem_of_getElem? (i := 35) rfl))) (Or.inl (hw _ (List.mem_of_getElem? (i := 52) rfl))) (by decide) (t := (.array .int)) (t' := .int) (by decide) (by decide))), f10.other W (Or.inr (slot_ne (Or.inr (hw _ (List.mem_of_getElem? (i := 37) rfl))) (Or.inl (hw _ (List.mem_of_getElem? (i := 52) rfl))) (by decide) (t := (.array .long)) (t' := .int) (by decide) (by decide))), f11.other W (Or.inr (slot_ne (Or.inr (hw _ (List.mem_of_getElem? (i := 39) rfl))) (Or.inl (hw _ (List.mem_of_getElem? (i := 52) rfl))) (by decide) (t := (.array .int)) (t' := .int) (by decide) (by decide))), f12.other W (Or.inr (slot_ne (Or.inr (hw _ (List.mem_of_getElem? (i := 41) rfl))) (Or.inl (hw _ (List.mem_of_getElem? (i := 52) rfl))) (by decide) (t := (.array .int)) (t' := .int) (by decide) (by decide))), fse.other W (Or.inr (slot_ne (Or.inl (hw _ (List.mem_of_getElem? (i := 65) rfl))) (Or.inl (hw _ (List.mem_of_getElem? (i := 52) rfl))) (by decide) (t := .long) (t' := .int) (by decide) (by decide))), fro.same W, v1.other W (Nat.ne_of_gt (by omega)), v2.other W (Nat.ne_of_gt (by omega)), v3.other W (Nat.ne_of_gt (by omega)), v4.other W (Nat.ne_of_gt (by omega)), v5.other W (Nat.ne_of_gt (by omega)), v6.other W (Nat.ne_of_gt (by omega)), v7.other W (Nat.ne_of_gt (by omega)), v8.other W (Nat.ne_of_gt (by omega)), v9.other W (Nat.ne_of_gt (by omega)), v10.other W (Nat.ne_of_gt (by omega)), v11.other W (Nat.ne_of_gt (by omega)), v12.other W (Nat.ne_of_gt (by omega)), fun i L hi => by obtain ⟨x1, x2, x3⟩ := cc i L hi; exact ⟨x1.other W (Nat.ne_of_lt (by omega)), x2.wr W, x3⟩⟩

def own_QPr (Z : State) (ru : Int32 × own_S) (n0 : Nat) (A : Nat → Nat) (K : Nat → ClassId) (zr zc : Int32) (CA : Nat → Nat) (CK : Nat → ClassId) (CL : List (List Int32)) (v : Option Value) (h : Heap) (L : List Loc) : Prop := v = some (.int ru.1) ∧ Fr n0 L ∧ own_PS Z h n0 A K zr zc CA CK CL ru.2
def own_QPv (Z : State) (ru : own_S) (n0 : Nat) (A : Nat → Nat) (K : Nat → ClassId) (zr zc : Int32) (CA : Nat → Nat) (CK : Nat → ClassId) (CL : List (List Int32)) (v : Option Value) (h : Heap) (L : List Loc) : Prop := v = none ∧ Fr n0 L ∧ own_PS Z h n0 A K zr zc CA CK CL ru

def own_hold (CL : List (List Int32)) (u0 : own_S) (ux uy : Int32) : Option own_S := (own_ld_ho u0 uy).bind fun w2 => if w2 = (-1 : Int32) then ((own_st_ho u0 uy ux).bind fun u5 => (own_st_pa u5 ux uy).bind fun u7 => some u7) else (none)

theorem d10_0 : decode prog_77_method_11_code 0 = .ok (.aload_n 0, 1) := by decide +kernel
theorem d10_1 : decode prog_77_method_11_code 1 = .ok (.getfield 21, 3) := by decide +kernel
theorem d10_4 : decode prog_77_method_11_code 4 = .ok (.iload_n 2, 1) := by decide +kernel
theorem d10_5 : decode prog_77_method_11_code 5 = .ok (.iaload, 1) := by decide +kernel
theorem d10_6 : decode prog_77_method_11_code 6 = .ok (.iconst (-1), 1) := by decide +kernel
theorem d10_7 : decode prog_77_method_11_code 7 = .ok (.if_icmp .eq 14, 3) := by decide +kernel
theorem d10_21 : decode prog_77_method_11_code 21 = .ok (.aload_n 0, 1) := by decide +kernel
theorem d10_22 : decode prog_77_method_11_code 22 = .ok (.getfield 21, 3) := by decide +kernel
theorem d10_25 : decode prog_77_method_11_code 25 = .ok (.iload_n 2, 1) := by decide +kernel
theorem d10_26 : decode prog_77_method_11_code 26 = .ok (.iload_n 1, 1) := by decide +kernel
theorem d10_27 : decode prog_77_method_11_code 27 = .ok (.iastore, 1) := by decide +kernel
theorem d10_28 : decode prog_77_method_11_code 28 = .ok (.aload_n 0, 1) := by decide +kernel
theorem d10_29 : decode prog_77_method_11_code 29 = .ok (.getfield 18, 3) := by decide +kernel
theorem d10_32 : decode prog_77_method_11_code 32 = .ok (.iload_n 1, 1) := by decide +kernel
theorem d10_33 : decode prog_77_method_11_code 33 = .ok (.iload_n 2, 1) := by decide +kernel
theorem d10_34 : decode prog_77_method_11_code 34 = .ok (.iastore, 1) := by decide +kernel
theorem d10_35 : decode prog_77_method_11_code 35 = .ok (.return_, 1) := by decide +kernel
theorem pn_rm_hold : plainFor (⟨"com/example/document_pattern_rules/documentpatternrules/pattern/Pairing", "hold", "(II)V"⟩ : MethodName) = true := by first | exact plainFor_of_name (by first | (simp [plainName, overriddenIn]; done) | decide +kernel) | exact Jvm.Free.JP.mathPlain rfl (by decide +kernel) | decide +kernel
theorem ef_rm_hold (m : MethodId) (x0 : Nat) (x1 : Int32) (x2 : Int32) : entryFrame m #[(.ref x0), (.int x1), (.int x2)] 3 = mkF m 0 #[.val (.ref x0), .val (.int x1), .val (.int x2)] [] := by first | (simp [entryFrame, mkF, argsToLocals, Value.category]; done) | rfl
set_option maxRecDepth 65536 in
set_option maxHeartbeats 40000000 in
theorem rm_hold (l : Launch) (Z : State) (a0 : Array Value) (hw : ∀ d ∈ tables_1, d.before a0 Z = true) (ws : List Jvm.Cond) (A : Nat → Nat) (K : Nat → ClassId) (zr zc : Int32) (CA : Nat → Nat) (CK : Nat → ClassId) (CL : List (List Int32)) (u0 : own_S) (ru : own_S) (ux uy : Int32) (h0 : Heap) (n0 : Nat) (Z0 : n0 ≤ h0.size) (P0 : own_PS Z h0 n0 A K zr zc CA CK CL u0) (hF : own_hold CL u0 ux uy = some ru) :
    MetFree l (⟨"com/example/document_pattern_rules/documentpatternrules/pattern/Pairing", "hold", "(II)V"⟩ : MethodName) (head1 (Jvm.Cond.code (⟨"com/example/document_pattern_rules/documentpatternrules/pattern/Pairing", "hold", "(II)V"⟩ : MethodName) prog_77_method_11_code 3 none :: ws) ({ frames := 0, cells := 0, slots := 0, locals := 0 } : Room)) (fun a U => a = #[(.ref (A 0)), (.int ux), (.int uy)] ∧ Z.Warmed39 U.vm ∧ U.heap = h0) (fun _ _ _ _ _ => True) (fun _ U o U' => ∃ v L, o = .returned v ∧ (own_QPv Z ru n0 A K zr zc CA CK CL) v U'.heap L ∧ FrameEnd U o U' L 0 0) := by
  refine MetFree.of_bodySF pn_rm_hold hisR ?_
  intro p e s m args below meth c s₁ Bd hml0 hP hK
  obtain ⟨rfl, hZ, hh⟩ := hP
  have hx := Bd.exec
  have hby := Bd.bytes
  have hml : c.maxLocals = 3 := hml0
  have hown : s.vm.findClass "com/example/document_pattern_rules/documentpatternrules/pattern/Pairing" = some m.cls := findClass_of_methodNamed Bd.named
  have hnm := (name_of_methodNamed Bd.named Bd.method).1
  have hrt := Bd.returns
  have hlk := Bd.notSynchronized
  have X0 : Stand p l e ({ frames := 0, cells := 0, slots := 0, locals := 0 } : Room) s m #[(.ref (A 0)), (.int ux), (.int uy)] below meth c s₁ [] 0 0 := Stand.of_body Bd
  have e0 : s₁.heap = h0 := by rw [← hh, Bd.state]; rfl
  have N0 := Fr.nil n0
  unfold own_hold at hF
  refine own_done (B := s₁.setTop (mkF m 0 #[.val (.ref (A 0)), .val (.int ux), .val (.int uy)] [])) (fun t k => castTop (ef_rm_hold m (A 0) ux uy) k) ?_
  refine own_by (B := s₁.setTop (mkF m 1 #[.val (.ref (A 0)), .val (.int ux), .val (.int uy)] [(.ref (A 0))])) (fun _ k => XS.aloadN X0.here hx rfl (hb hby d10_0) rfl rfl  k) ?_
  obtain ⟨T1, X1, e1, st1⟩ := getF X0 hx hZ hown (host := "") (Or.inl (hw _ (List.mem_of_getElem? (i := 22) rfl))) Via.refl e0 (own_PS_f4 P0) (g := (mkF m 1 #[.val (.ref (A 0)), .val (.int ux), .val (.int uy)] [(.ref (A 0))])) rfl rfl (hb hby d10_1)
  refine own_by (B := T1.setTop (mkF m 4 #[.val (.ref (A 0)), .val (.int ux), .val (.int uy)] [(.ref (A 4))])) st1 ?_
  refine own_by (B := T1.setTop (mkF m 5 #[.val (.ref (A 0)), .val (.int ux), .val (.int uy)] [(.int uy), (.ref (A 4))])) (fun _ k => XS.iloadN X1.here hx rfl (hb hby d10_4) rfl  k) ?_
  obtain ⟨w2, hw2, hF⟩ := own_bind hF
  refine own_by (B := T1.setTop (mkF m 6 #[.val (.ref (A 0)), .val (.int ux), .val (.int uy)] [(.int w2)])) (own_ldI X1 hx hZ e1 (own_PS_v4 P0) hw2 (g := (mkF m 5 #[.val (.ref (A 0)), .val (.int ux), .val (.int uy)] [(.int uy), (.ref (A 4))])) rfl rfl (hb hby d10_5)) ?_
  refine own_by (B := T1.setTop (mkF m 7 #[.val (.ref (A 0)), .val (.int ux), .val (.int uy)] [(.int (-1 : Int32)), (.int w2)])) (fun _ k => XS.iconst X1.here hx rfl (hb hby d10_6) k) ?_
  by_cases hc3 : w2 = (-1 : Int32)
  · rw [if_pos hc3] at hF
    refine own_by (B := T1.setTop (mkF m 21 #[.val (.ref (A 0)), .val (.int ux), .val (.int uy)] [])) (fun _ k => XS.icmpYes X1.here hx rfl (pc0 := 7) (pc' := 21) rfl (hb hby d10_7) rfl (XT.ii_eq_t hc3) (by decide) (by decide) k) ?_
    refine own_by (B := T1.setTop (mkF m 22 #[.val (.ref (A 0)), .val (.int ux), .val (.int uy)] [(.ref (A 0))])) (fun _ k => XS.aloadN X1.here hx rfl (hb hby d10_21) rfl rfl  k) ?_
    obtain ⟨T4, X4, e4, st4⟩ := getF X1 hx hZ hown (host := "") (Or.inl (hw _ (List.mem_of_getElem? (i := 22) rfl))) Via.refl e1 (own_PS_f4 P0) (g := (mkF m 22 #[.val (.ref (A 0)), .val (.int ux), .val (.int uy)] [(.ref (A 0))])) rfl rfl (hb hby d10_22)
    refine own_by (B := T4.setTop (mkF m 25 #[.val (.ref (A 0)), .val (.int ux), .val (.int uy)] [(.ref (A 4))])) st4 ?_
    refine own_by (B := T4.setTop (mkF m 26 #[.val (.ref (A 0)), .val (.int ux), .val (.int uy)] [(.int uy), (.ref (A 4))])) (fun _ k => XS.iloadN X4.here hx rfl (hb hby d10_25) rfl  k) ?_
    refine own_by (B := T4.setTop (mkF m 27 #[.val (.ref (A 0)), .val (.int ux), .val (.int uy)] [(.int ux), (.int uy), (.ref (A 4))])) (fun _ k => XS.iloadN X4.here hx rfl (hb hby d10_26) rfl  k) ?_
    obtain ⟨u5, hu5, hF⟩ := own_bind hF
    obtain ⟨zl5, hz5, hu5'⟩ := Option.map_eq_some_iff.mp hu5
    obtain ⟨T5, h5, X5, e5, W5, V5, st5⟩ := own_stI X4 hx hZ e4 (own_PS_v4 P0) hz5 (g := (mkF m 27 #[.val (.ref (A 0)), .val (.int ux), .val (.int uy)] [(.int ux), (.int uy), (.ref (A 4))])) rfl rfl (hb hby d10_27)
    have P5 : own_PS Z h5 n0 A K zr zc CA CK CL u5 := hu5' ▸ own_w_ho P0 W5 V5
    have N5 := Fr.snoc X5 N0 (own_PS_gn P0).2.2.2.2.1
    refine own_by (B := T5.setTop (mkF m 28 #[.val (.ref (A 0)), .val (.int ux), .val (.int uy)] [])) st5 ?_
    refine own_by (B := T5.setTop (mkF m 29 #[.val (.ref (A 0)), .val (.int ux), .val (.int uy)] [(.ref (A 0))])) (fun _ k => XS.aloadN X5.here hx rfl (hb hby d10_28) rfl rfl  k) ?_
    obtain ⟨T6, X6, e6, st6⟩ := getF X5 hx hZ hown (host := "") (Or.inl (hw _ (List.mem_of_getElem? (i := 20) rfl))) Via.refl e5 (own_PS_f3 P5) (g := (mkF m 29 #[.val (.ref (A 0)), .val (.int ux), .val (.int uy)] [(.ref (A 0))])) rfl rfl (hb hby d10_29)
    refine own_by (B := T6.setTop (mkF m 32 #[.val (.ref (A 0)), .val (.int ux), .val (.int uy)] [(.ref (A 3))])) st6 ?_
    refine own_by (B := T6.setTop (mkF m 33 #[.val (.ref (A 0)), .val (.int ux), .val (.int uy)] [(.int ux), (.ref (A 3))])) (fun _ k => XS.iloadN X6.here hx rfl (hb hby d10_32) rfl  k) ?_
    refine own_by (B := T6.setTop (mkF m 34 #[.val (.ref (A 0)), .val (.int ux), .val (.int uy)] [(.int uy), (.int ux), (.ref (A 3))])) (fun _ k => XS.iloadN X6.here hx rfl (hb hby d10_33) rfl  k) ?_
    obtain ⟨u7, hu7, hF⟩ := own_bind hF
    obtain ⟨zl7, hz7, hu7'⟩ := Option.map_eq_some_iff.mp hu7
    obtain ⟨T7, h7, X7, e7, W7, V7, st7⟩ := own_stI X6 hx hZ e6 (own_PS_v3 P5) hz7 (g := (mkF m 34 #[.val (.ref (A 0)), .val (.int ux), .val (.int uy)] [(.int uy), (.int ux), (.ref (A 3))])) rfl rfl (hb hby d10_34)
    have P7 : own_PS Z h7 n0 A K zr zc CA CK CL u7 := hu7' ▸ own_w_pa P5 W7 V7
    have N7 := Fr.snoc X7 N5 (own_PS_gn P5).2.2.2.1
    refine own_by (B := T7.setTop (mkF m 35 #[.val (.ref (A 0)), .val (.int ux), .val (.int uy)] [])) st7 ?_
    obtain rfl := Option.some.inj hF
    exact own_retV X7 hx hrt hlk (hb hby d10_35) (by decide) (by decide) (by show own_QPv Z (u7) n0 A K zr zc CA CK CL _ T7.heap _; rw [e7]; exact ⟨rfl, N7, P7⟩)
  · rw [if_neg hc3] at hF
    refine own_by (B := T1.setTop (mkF m 10 #[.val (.ref (A 0)), .val (.int ux), .val (.int uy)] [])) (fun _ k => XS.icmpNo X1.here hx rfl (hb hby d10_7) rfl (XT.ii_eq_f hc3) k) ?_
    cases hF

def own_nextColumn_L28 (CL : List (List Int32)) : Nat → Int32 → List Int32 → Int32 → own_S → Option (Int32 × own_S)
  | 0, _, _, _, _ => none
  | fuel + 1, ux, Lc8, v3, uh11 => if v3 < (Int32.ofNat Lc8.length) then ((own_geti Lc8 v3).bind fun w14 => (own_ld_ho uh11 w14).bind fun w15 => if w15 = (-1 : Int32) then (some (v3, uh11)) else ((own_geti Lc8 v3).bind fun w19 => (own_ld_ho uh11 w19).bind fun w20 => (own_ld_ki uh11 w20).bind fun w21 => if w21 = ux then (own_nextColumn_L28 CL fuel ux Lc8 (v3 + (1 : Int32)) uh11) else (some (v3, uh11)))) else (some (v3, uh11))
def own_nextColumn (CL : List (List Int32)) (u0 : own_S) (ux : Int32) : Option (Int32 × own_S) := (own_ld_sc u0 ux).bind fun w2 => if w2 = (own_se u0) then ((own_ld_nx u0 ux).bind fun w6 => some (w6, u0)) else ((own_ld_F u0 ux).bind fun i8 => ((CL[i8]? : Option (List Int32))).bind fun Lc8 => (own_ld_ow u0 ux).bind fun w10 => (own_nextColumn_L28 CL 8 ux Lc8 w10 u0).bind fun q23 => (own_st_ow (q23.2) ux (q23.1)).bind fun u26 => (own_st_sc u26 ux (own_se u26)).bind fun u29 => (own_st_nx u29 ux (q23.1)).bind fun u31 => (own_ld_nx u31 ux).bind fun w33 => some (w33, u31))

theorem d9_0 : decode prog_77_method_10_code 0 = .ok (.aload_n 0, 1) := by decide +kernel
theorem d9_1 : decode prog_77_method_10_code 1 = .ok (.getfield 41, 3) := by decide +kernel
theorem d9_4 : decode prog_77_method_10_code 4 = .ok (.iload_n 1, 1) := by decide +kernel
theorem d9_5 : decode prog_77_method_10_code 5 = .ok (.laload, 1) := by decide +kernel
theorem d9_6 : decode prog_77_method_10_code 6 = .ok (.aload_n 0, 1) := by decide +kernel
theorem d9_7 : decode prog_77_method_10_code 7 = .ok (.getfield 64, 3) := by decide +kernel
theorem d9_10 : decode prog_77_method_10_code 10 = .ok (.lcmp, 1) := by decide +kernel
theorem d9_11 : decode prog_77_method_10_code 11 = .ok (.ifCond .eq 82, 3) := by decide +kernel
theorem d9_14 : decode prog_77_method_10_code 14 = .ok (.aload_n 0, 1) := by decide +kernel
theorem d9_15 : decode prog_77_method_10_code 15 = .ok (.getfield 9, 3) := by decide +kernel
theorem d9_18 : decode prog_77_method_10_code 18 = .ok (.iload_n 1, 1) := by decide +kernel
theorem d9_19 : decode prog_77_method_10_code 19 = .ok (.aaload, 1) := by decide +kernel
theorem d9_20 : decode prog_77_method_10_code 20 = .ok (.astore_n 2, 1) := by decide +kernel
theorem d9_21 : decode prog_77_method_10_code 21 = .ok (.aload_n 0, 1) := by decide +kernel
theorem d9_22 : decode prog_77_method_10_code 22 = .ok (.getfield 38, 3) := by decide +kernel
theorem d9_25 : decode prog_77_method_10_code 25 = .ok (.iload_n 1, 1) := by decide +kernel
theorem d9_26 : decode prog_77_method_10_code 26 = .ok (.iaload, 1) := by decide +kernel
theorem d9_27 : decode prog_77_method_10_code 27 = .ok (.istore_n 3, 1) := by decide +kernel
theorem d9_28 : decode prog_77_method_10_code 28 = .ok (.iload_n 3, 1) := by decide +kernel
theorem d9_29 : decode prog_77_method_10_code 29 = .ok (.aload_n 2, 1) := by decide +kernel
theorem d9_30 : decode prog_77_method_10_code 30 = .ok (.arraylength, 1) := by decide +kernel
theorem d9_31 : decode prog_77_method_10_code 31 = .ok (.if_icmp .ge 38, 3) := by decide +kernel
theorem d9_34 : decode prog_77_method_10_code 34 = .ok (.aload_n 0, 1) := by decide +kernel
theorem d9_35 : decode prog_77_method_10_code 35 = .ok (.getfield 21, 3) := by decide +kernel
theorem d9_38 : decode prog_77_method_10_code 38 = .ok (.aload_n 2, 1) := by decide +kernel
theorem d9_39 : decode prog_77_method_10_code 39 = .ok (.iload_n 3, 1) := by decide +kernel
theorem d9_40 : decode prog_77_method_10_code 40 = .ok (.iaload, 1) := by decide +kernel
theorem d9_41 : decode prog_77_method_10_code 41 = .ok (.iaload, 1) := by decide +kernel
theorem d9_42 : decode prog_77_method_10_code 42 = .ok (.iconst (-1), 1) := by decide +kernel
theorem d9_43 : decode prog_77_method_10_code 43 = .ok (.if_icmp .eq 26, 3) := by decide +kernel
theorem d9_46 : decode prog_77_method_10_code 46 = .ok (.aload_n 0, 1) := by decide +kernel
theorem d9_47 : decode prog_77_method_10_code 47 = .ok (.getfield 15, 3) := by decide +kernel
theorem d9_50 : decode prog_77_method_10_code 50 = .ok (.aload_n 0, 1) := by decide +kernel
theorem d9_51 : decode prog_77_method_10_code 51 = .ok (.getfield 21, 3) := by decide +kernel
theorem d9_54 : decode prog_77_method_10_code 54 = .ok (.aload_n 2, 1) := by decide +kernel
theorem d9_55 : decode prog_77_method_10_code 55 = .ok (.iload_n 3, 1) := by decide +kernel
theorem d9_56 : decode prog_77_method_10_code 56 = .ok (.iaload, 1) := by decide +kernel
theorem d9_57 : decode prog_77_method_10_code 57 = .ok (.iaload, 1) := by decide +kernel
theorem d9_58 : decode prog_77_method_10_code 58 = .ok (.iaload, 1) := by decide +kernel
theorem d9_59 : decode prog_77_method_10_code 59 = .ok (.iload_n 1, 1) := by decide +kernel
theorem d9_60 : decode prog_77_method_10_code 60 = .ok (.if_icmp .ne 9, 3) := by decide +kernel
theorem d9_63 : decode prog_77_method_10_code 63 = .ok (.iinc 3 1, 3) := by decide +kernel
theorem d9_66 : decode prog_77_method_10_code 66 = .ok (.goto (-38), 3) := by decide +kernel
theorem d9_69 : decode prog_77_method_10_code 69 = .ok (.aload_n 0, 1) := by decide +kernel
theorem d9_70 : decode prog_77_method_10_code 70 = .ok (.getfield 38, 3) := by decide +kernel
theorem d9_73 : decode prog_77_method_10_code 73 = .ok (.iload_n 1, 1) := by decide +kernel
theorem d9_74 : decode prog_77_method_10_code 74 = .ok (.iload_n 3, 1) := by decide +kernel
theorem d9_75 : decode prog_77_method_10_code 75 = .ok (.iastore, 1) := by decide +kernel
theorem d9_76 : decode prog_77_method_10_code 76 = .ok (.aload_n 0, 1) := by decide +kernel
theorem d9_77 : decode prog_77_method_10_code 77 = .ok (.getfield 41, 3) := by decide +kernel
theorem d9_80 : decode prog_77_method_10_code 80 = .ok (.iload_n 1, 1) := by decide +kernel
theorem d9_81 : decode prog_77_method_10_code 81 = .ok (.aload_n 0, 1) := by decide +kernel
theorem d9_82 : decode prog_77_method_10_code 82 = .ok (.getfield 64, 3) := by decide +kernel
theorem d9_85 : decode prog_77_method_10_code 85 = .ok (.lastore, 1) := by decide +kernel
theorem d9_86 : decode prog_77_method_10_code 86 = .ok (.aload_n 0, 1) := by decide +kernel
theorem d9_87 : decode prog_77_method_10_code 87 = .ok (.getfield 44, 3) := by decide +kernel
theorem d9_90 : decode prog_77_method_10_code 90 = .ok (.iload_n 1, 1) := by decide +kernel
theorem d9_91 : decode prog_77_method_10_code 91 = .ok (.iload_n 3, 1) := by decide +kernel
theorem d9_92 : decode prog_77_method_10_code 92 = .ok (.iastore, 1) := by decide +kernel
theorem d9_93 : decode prog_77_method_10_code 93 = .ok (.aload_n 0, 1) := by decide +kernel
theorem d9_94 : decode prog_77_method_10_code 94 = .ok (.getfield 44, 3) := by decide +kernel
theorem d9_97 : decode prog_77_method_10_code 97 = .ok (.iload_n 1, 1) := by decide +kernel
theorem d9_98 : decode prog_77_method_10_code 98 = .ok (.iaload, 1) := by decide +kernel
theorem d9_99 : decode prog_77_method_10_code 99 = .ok (.ireturn, 1) := by decide +kernel
theorem pn_rm_nextColumn : plainFor (⟨"com/example/document_pattern_rules/documentpatternrules/pattern/Pairing", "nextColumn", "(I)I"⟩ : MethodName) = true := by first | exact plainFor_of_name (by first | (simp [plainName, overriddenIn]; done) | decide +kernel) | exact Jvm.Free.JP.mathPlain rfl (by decide +kernel) | decide +kernel
theorem ef_rm_nextColumn (m : MethodId) (x0 : Nat) (x1 : Int32) : entryFrame m #[(.ref x0), (.int x1)] 4 = mkF m 0 #[.val (.ref x0), .val (.int x1), .unset, .unset] [] := by first | (simp [entryFrame, mkF, argsToLocals, Value.category]; done) | rfl
set_option maxRecDepth 65536 in
set_option maxHeartbeats 40000000 in
theorem rm_nextColumn (l : Launch) (Z : State) (a0 : Array Value) (hw : ∀ d ∈ tables_1, d.before a0 Z = true) (ws : List Jvm.Cond) (A : Nat → Nat) (K : Nat → ClassId) (zr zc : Int32) (CA : Nat → Nat) (CK : Nat → ClassId) (CL : List (List Int32)) (u0 : own_S) (ru : Int32 × own_S) (ux : Int32) (h0 : Heap) (n0 : Nat) (Z0 : n0 ≤ h0.size) (P0 : own_PS Z h0 n0 A K zr zc CA CK CL u0) (hF : own_nextColumn CL u0 ux = some ru) :
    MetFree l (⟨"com/example/document_pattern_rules/documentpatternrules/pattern/Pairing", "nextColumn", "(I)I"⟩ : MethodName) (head1 (Jvm.Cond.code (⟨"com/example/document_pattern_rules/documentpatternrules/pattern/Pairing", "nextColumn", "(I)I"⟩ : MethodName) prog_77_method_10_code 4 (some .int) :: ws) ({ frames := 0, cells := 0, slots := 0, locals := 0 } : Room)) (fun a U => a = #[(.ref (A 0)), (.int ux)] ∧ Z.Warmed39 U.vm ∧ U.heap = h0) (fun _ _ _ _ _ => True) (fun _ U o U' => ∃ v L, o = .returned v ∧ (own_QPr Z ru n0 A K zr zc CA CK CL) v U'.heap L ∧ FrameEnd U o U' L 0 0) := by
  refine MetFree.of_bodySF pn_rm_nextColumn hisR ?_
  intro p e s m args below meth c s₁ Bd hml0 hP hK
  obtain ⟨rfl, hZ, hh⟩ := hP
  have hx := Bd.exec
  have hby := Bd.bytes
  have hml : c.maxLocals = 4 := hml0
  have hown : s.vm.findClass "com/example/document_pattern_rules/documentpatternrules/pattern/Pairing" = some m.cls := findClass_of_methodNamed Bd.named
  have hnm := (name_of_methodNamed Bd.named Bd.method).1
  have hrt := Bd.returns
  have hlk := Bd.notSynchronized
  have X0 : Stand p l e ({ frames := 0, cells := 0, slots := 0, locals := 0 } : Room) s m #[(.ref (A 0)), (.int ux)] below meth c s₁ [] 0 0 := Stand.of_body Bd
  have e0 : s₁.heap = h0 := by rw [← hh, Bd.state]; rfl
  have N0 := Fr.nil n0
  unfold own_nextColumn at hF
  refine own_done (B := s₁.setTop (mkF m 0 #[.val (.ref (A 0)), .val (.int ux), .unset, .unset] [])) (fun t k => castTop (ef_rm_nextColumn m (A 0) ux) k) ?_
  refine own_by (B := s₁.setTop (mkF m 1 #[.val (.ref (A 0)), .val (.int ux), .unset, .unset] [(.ref (A 0))])) (fun _ k => XS.aloadN X0.here hx rfl (hb hby d9_0) rfl rfl  k) ?_
  obtain ⟨T1, X1, e1, st1⟩ := getF X0 hx hZ hown (host := "") (Or.inl (hw _ (List.mem_of_getElem? (i := 36) rfl))) Via.refl e0 (own_PS_f10 P0) (g := (mkF m 1 #[.val (.ref (A 0)), .val (.int ux), .unset, .unset] [(.ref (A 0))])) rfl rfl (hb hby d9_1)
  refine own_by (B := T1.setTop (mkF m 4 #[.val (.ref (A 0)), .val (.int ux), .unset, .unset] [(.ref (A 10))])) st1 ?_
  refine own_by (B := T1.setTop (mkF m 5 #[.val (.ref (A 0)), .val (.int ux), .unset, .unset] [(.int ux), (.ref (A 10))])) (fun _ k => XS.iloadN X1.here hx rfl (hb hby d9_4) rfl  k) ?_
  obtain ⟨w2, hw2, hF⟩ := own_bind hF
  refine own_by (B := T1.setTop (mkF m 6 #[.val (.ref (A 0)), .val (.int ux), .unset, .unset] [(.long w2)])) (own_ldJ X1 hx hZ e1 (own_PS_v10 P0) hw2 (g := (mkF m 5 #[.val (.ref (A 0)), .val (.int ux), .unset, .unset] [(.int ux), (.ref (A 10))])) rfl rfl (hb hby d9_5)) ?_
  refine own_by (B := T1.setTop (mkF m 7 #[.val (.ref (A 0)), .val (.int ux), .unset, .unset] [(.ref (A 0)), (.long w2)])) (fun _ k => XS.aloadN X1.here hx rfl (hb hby d9_6) rfl rfl  k) ?_
  obtain ⟨T3, X3, e3, st3⟩ := getF X1 hx hZ hown (host := "") (Or.inl (hw _ (List.mem_of_getElem? (i := 64) rfl))) Via.refl e1 (own_PS_fse P0) (g := (mkF m 7 #[.val (.ref (A 0)), .val (.int ux), .unset, .unset] [(.ref (A 0)), (.long w2)])) rfl rfl (hb hby d9_7)
  refine own_by (B := T3.setTop (mkF m 10 #[.val (.ref (A 0)), .val (.int ux), .unset, .unset] [(.long (own_se u0)), (.long w2)])) st3 ?_
  refine own_by (B := T3.setTop (mkF m 11 #[.val (.ref (A 0)), .val (.int ux), .unset, .unset] [(.int (XT.cmpL w2 (own_se u0)))])) (fun _ k => XT.lcmp X3.here hx rfl (hb hby d9_10) rfl k) ?_
  by_cases hc4 : w2 = (own_se u0)
  · rw [if_pos hc4] at hF
    refine own_by (B := T3.setTop (mkF m 93 #[.val (.ref (A 0)), .val (.int ux), .unset, .unset] [])) (fun _ k => XS.ifYes X3.here hx rfl (pc0 := 11) (pc' := 93) rfl (hb hby d9_11) rfl (XT.ll_eq_t hc4) (by decide) (by decide) k) ?_
    refine own_by (B := T3.setTop (mkF m 94 #[.val (.ref (A 0)), .val (.int ux), .unset, .unset] [(.ref (A 0))])) (fun _ k => XS.aloadN X3.here hx rfl (hb hby d9_93) rfl rfl  k) ?_
    obtain ⟨T5, X5, e5, st5⟩ := getF X3 hx hZ hown (host := "") (Or.inl (hw _ (List.mem_of_getElem? (i := 38) rfl))) Via.refl e3 (own_PS_f11 P0) (g := (mkF m 94 #[.val (.ref (A 0)), .val (.int ux), .unset, .unset] [(.ref (A 0))])) rfl rfl (hb hby d9_94)
    refine own_by (B := T5.setTop (mkF m 97 #[.val (.ref (A 0)), .val (.int ux), .unset, .unset] [(.ref (A 11))])) st5 ?_
    refine own_by (B := T5.setTop (mkF m 98 #[.val (.ref (A 0)), .val (.int ux), .unset, .unset] [(.int ux), (.ref (A 11))])) (fun _ k => XS.iloadN X5.here hx rfl (hb hby d9_97) rfl  k) ?_
    obtain ⟨w6, hw6, hF⟩ := own_bind hF
    refine own_by (B := T5.setTop (mkF m 99 #[.val (.ref (A 0)), .val (.int ux), .unset, .unset] [(.int w6)])) (own_ldI X5 hx hZ e5 (own_PS_v11 P0) hw6 (g := (mkF m 98 #[.val (.ref (A 0)), .val (.int ux), .unset, .unset] [(.int ux), (.ref (A 11))])) rfl rfl (hb hby d9_98)) ?_
    obtain rfl := Option.some.inj hF
    exact own_retI X5 hx hrt hlk (hb hby d9_99) (by decide) (by decide) (by show own_QPr Z ((w6, u0)) n0 A K zr zc CA CK CL _ T5.heap _; rw [e5]; exact ⟨rfl, N0, P0⟩)
  · rw [if_neg hc4] at hF
    refine own_by (B := T3.setTop (mkF m 14 #[.val (.ref (A 0)), .val (.int ux), .unset, .unset] [])) (fun _ k => XS.ifNo X3.here hx rfl (hb hby d9_11) rfl (XT.ll_eq_f hc4) k) ?_
    refine own_by (B := T3.setTop (mkF m 15 #[.val (.ref (A 0)), .val (.int ux), .unset, .unset] [(.ref (A 0))])) (fun _ k => XS.aloadN X3.here hx rfl (hb hby d9_14) rfl rfl  k) ?_
    obtain ⟨T7, X7, e7, st7⟩ := getF X3 hx hZ hown (host := "") (Or.inl (hw _ (List.mem_of_getElem? (i := 16) rfl))) Via.refl e3 (own_PS_f1 P0) (g := (mkF m 15 #[.val (.ref (A 0)), .val (.int ux), .unset, .unset] [(.ref (A 0))])) rfl rfl (hb hby d9_15)
    refine own_by (B := T7.setTop (mkF m 18 #[.val (.ref (A 0)), .val (.int ux), .unset, .unset] [(.ref (A 1))])) st7 ?_
    refine own_by (B := T7.setTop (mkF m 19 #[.val (.ref (A 0)), .val (.int ux), .unset, .unset] [(.int ux), (.ref (A 1))])) (fun _ k => XS.iloadN X7.here hx rfl (hb hby d9_18) rfl  k) ?_
    obtain ⟨i8, hi8, hF⟩ := own_bind hF
    obtain ⟨Lc8, hLc8, hF⟩ := own_bind hF
    refine own_by (B := T7.setTop (mkF m 20 #[.val (.ref (A 0)), .val (.int ux), .unset, .unset] [(.ref (CA i8))])) (own_ldF X7 hx hZ e7 (own_PS_v1 P0) hi8 (g := (mkF m 19 #[.val (.ref (A 0)), .val (.int ux), .unset, .unset] [(.int ux), (.ref (A 1))])) rfl rfl (hb hby d9_19)) ?_
    refine own_by (B := T7.setTop (mkF m 21 #[.val (.ref (A 0)), .val (.int ux), .val (.ref (CA i8)), .unset] [])) (fun _ k => XS.astoreN X7.here hx rfl (hb hby d9_20) rfl rfl (l' := #[.val (.ref (A 0)), .val (.int ux), .val (.ref (CA i8)), .unset]) rfl k) ?_
    refine own_by (B := T7.setTop (mkF m 22 #[.val (.ref (A 0)), .val (.int ux), .val (.ref (CA i8)), .unset] [(.ref (A 0))])) (fun _ k => XS.aloadN X7.here hx rfl (hb hby d9_21) rfl rfl  k) ?_
    obtain ⟨T9, X9, e9, st9⟩ := getF X7 hx hZ hown (host := "") (Or.inl (hw _ (List.mem_of_getElem? (i := 34) rfl))) Via.refl e7 (own_PS_f9 P0) (g := (mkF m 22 #[.val (.ref (A 0)), .val (.int ux), .val (.ref (CA i8)), .unset] [(.ref (A 0))])) rfl rfl (hb hby d9_22)
    refine own_by (B := T9.setTop (mkF m 25 #[.val (.ref (A 0)), .val (.int ux), .val (.ref (CA i8)), .unset] [(.ref (A 9))])) st9 ?_
    refine own_by (B := T9.setTop (mkF m 26 #[.val (.ref (A 0)), .val (.int ux), .val (.ref (CA i8)), .unset] [(.int ux), (.ref (A 9))])) (fun _ k => XS.iloadN X9.here hx rfl (hb hby d9_25) rfl  k) ?_
    obtain ⟨w10, hw10, hF⟩ := own_bind hF
    refine own_by (B := T9.setTop (mkF m 27 #[.val (.ref (A 0)), .val (.int ux), .val (.ref (CA i8)), .unset] [(.int w10)])) (own_ldI X9 hx hZ e9 (own_PS_v9 P0) hw10 (g := (mkF m 26 #[.val (.ref (A 0)), .val (.int ux), .val (.ref (CA i8)), .unset] [(.int ux), (.ref (A 9))])) rfl rfl (hb hby d9_26)) ?_
    refine own_by (B := T9.setTop (mkF m 28 #[.val (.ref (A 0)), .val (.int ux), .val (.ref (CA i8)), .val (.int w10)] [])) (fun _ k => XS.istoreN X9.here hx rfl (hb hby d9_27) rfl (l' := #[.val (.ref (A 0)), .val (.int ux), .val (.ref (CA i8)), .val (.int w10)]) rfl k) ?_
    have hloop28 : ∀ (fuel : Nat) (v3 : Int32) (uh11 : own_S) (q11 : Int32 × own_S), own_nextColumn_L28 CL fuel ux Lc8 v3 uh11 = some q11 → ∀ (T1 : State) (lc1 : List Loc) (X1 : Stand p l e ({ frames := 0, cells := 0, slots := 0, locals := 0 } : Room) s m #[(.ref (A 0)), (.int ux)] below meth c T1 lc1 0 0) (N1 : Fr n0 lc1) (h1 : Heap) (e1 : T1.heap = h1) (P1 : own_PS Z h1 n0 A K zr zc CA CK CL uh11), (∀ (T2 : State) (lc2 : List Loc) (X2 : Stand p l e ({ frames := 0, cells := 0, slots := 0, locals := 0 } : Room) s m #[(.ref (A 0)), (.int ux)] below meth c T2 lc2 0 0) (N2 : Fr n0 lc2) (h2 : Heap) (e2 : T2.heap = h2) (P2 : own_PS Z h2 n0 A K zr zc CA CK CL (q11.2)), own_Go p.tables e below (own_K s below (own_QPr Z ru n0 A K zr zc CA CK CL) 0 0) (T2.setTop (mkF m 69 #[.val (.ref (A 0)), .val (.int ux), .val (.ref (CA i8)), .val (.int (q11.1))] []))) → own_Go p.tables e below (own_K s below (own_QPr Z ru n0 A K zr zc CA CK CL) 0 0) (T1.setTop (mkF m 28 #[.val (.ref (A 0)), .val (.int ux), .val (.ref (CA i8)), .val (.int v3)] [])) := by
      intro fuel
      induction fuel with
      | zero => intro v3 uh11 q11 hF; cases hF
      | succ fuel ih =>
        intro v3 uh11 q11 hF T1 lc1 X1 N1 h1 e1 P1 kont
        rw [own_nextColumn_L28] at hF
        refine own_by (B := T1.setTop (mkF m 29 #[.val (.ref (A 0)), .val (.int ux), .val (.ref (CA i8)), .val (.int v3)] [(.int v3)])) (fun _ k => XS.iloadN X1.here hx rfl (hb hby d9_28) rfl  k) ?_
        refine own_by (B := T1.setTop (mkF m 30 #[.val (.ref (A 0)), .val (.int ux), .val (.ref (CA i8)), .val (.int v3)] [(.ref (CA i8)), (.int v3)])) (fun _ k => XS.aloadN X1.here hx rfl (hb hby d9_29) rfl rfl  k) ?_
        refine own_by (B := T1.setTop (mkF m 31 #[.val (.ref (A 0)), .val (.int ux), .val (.ref (CA i8)), .val (.int v3)] [(.int (Int32.ofNat Lc8.length)), (.int v3)])) (own_lenI X1 hx hZ e1 ((own_PS_cc P1) _ _ hLc8).1 (g := (mkF m 30 #[.val (.ref (A 0)), .val (.int ux), .val (.ref (CA i8)), .val (.int v3)] [(.ref (CA i8)), (.int v3)])) rfl rfl (hb hby d9_30)) ?_
        by_cases hc12 : v3 < (Int32.ofNat Lc8.length)
        · rw [if_pos hc12] at hF
          refine own_by (B := T1.setTop (mkF m 34 #[.val (.ref (A 0)), .val (.int ux), .val (.ref (CA i8)), .val (.int v3)] [])) (fun _ k => XS.icmpNo X1.here hx rfl (hb hby d9_31) rfl (XT.ii_ge_f hc12) k) ?_
          refine own_by (B := T1.setTop (mkF m 35 #[.val (.ref (A 0)), .val (.int ux), .val (.ref (CA i8)), .val (.int v3)] [(.ref (A 0))])) (fun _ k => XS.aloadN X1.here hx rfl (hb hby d9_34) rfl rfl  k) ?_
          obtain ⟨T13, X13, e13, st13⟩ := getF X1 hx hZ hown (host := "") (Or.inl (hw _ (List.mem_of_getElem? (i := 22) rfl))) Via.refl e1 (own_PS_f4 P1) (g := (mkF m 35 #[.val (.ref (A 0)), .val (.int ux), .val (.ref (CA i8)), .val (.int v3)] [(.ref (A 0))])) rfl rfl (hb hby d9_35)
          refine own_by (B := T13.setTop (mkF m 38 #[.val (.ref (A 0)), .val (.int ux), .val (.ref (CA i8)), .val (.int v3)] [(.ref (A 4))])) st13 ?_
          refine own_by (B := T13.setTop (mkF m 39 #[.val (.ref (A 0)), .val (.int ux), .val (.ref (CA i8)), .val (.int v3)] [(.ref (CA i8)), (.ref (A 4))])) (fun _ k => XS.aloadN X13.here hx rfl (hb hby d9_38) rfl rfl  k) ?_
          refine own_by (B := T13.setTop (mkF m 40 #[.val (.ref (A 0)), .val (.int ux), .val (.ref (CA i8)), .val (.int v3)] [(.int v3), (.ref (CA i8)), (.ref (A 4))])) (fun _ k => XS.iloadN X13.here hx rfl (hb hby d9_39) rfl  k) ?_
          obtain ⟨w14, hw14, hF⟩ := own_bind hF
          refine own_by (B := T13.setTop (mkF m 41 #[.val (.ref (A 0)), .val (.int ux), .val (.ref (CA i8)), .val (.int v3)] [(.int w14), (.ref (A 4))])) (own_ldI X13 hx hZ e13 ((own_PS_cc P1) _ _ hLc8).1 hw14 (g := (mkF m 40 #[.val (.ref (A 0)), .val (.int ux), .val (.ref (CA i8)), .val (.int v3)] [(.int v3), (.ref (CA i8)), (.ref (A 4))])) rfl rfl (hb hby d9_40)) ?_
          obtain ⟨w15, hw15, hF⟩ := own_bind hF
          refine own_by (B := T13.setTop (mkF m 42 #[.val (.ref (A 0)), .val (.int ux), .val (.ref (CA i8)), .val (.int v3)] [(.int w15)])) (own_ldI X13 hx hZ e13 (own_PS_v4 P1) hw15 (g := (mkF m 41 #[.val (.ref (A 0)), .val (.int ux), .val (.ref (CA i8)), .val (.int v3)] [(.int w14), (.ref (A 4))])) rfl rfl (hb hby d9_41)) ?_
          refine own_by (B := T13.setTop (mkF m 43 #[.val (.ref (A 0)), .val (.int ux), .val (.ref (CA i8)), .val (.int v3)] [(.int (-1 : Int32)), (.int w15)])) (fun _ k => XS.iconst X13.here hx rfl (hb hby d9_42) k) ?_
          by_cases hc16 : w15 = (-1 : Int32)
          · rw [if_pos hc16] at hF
            refine own_by (B := T13.setTop (mkF m 69 #[.val (.ref (A 0)), .val (.int ux), .val (.ref (CA i8)), .val (.int v3)] [])) (fun _ k => XS.icmpYes X13.here hx rfl (pc0 := 43) (pc' := 69) rfl (hb hby d9_43) rfl (XT.ii_eq_t hc16) (by decide) (by decide) k) ?_
            obtain rfl := Option.some.inj hF
            exact kont _ _ X13 N1 _ e13 P1
          · rw [if_neg hc16] at hF
            refine own_by (B := T13.setTop (mkF m 46 #[.val (.ref (A 0)), .val (.int ux), .val (.ref (CA i8)), .val (.int v3)] [])) (fun _ k => XS.icmpNo X13.here hx rfl (hb hby d9_43) rfl (XT.ii_eq_f hc16) k) ?_
            refine own_by (B := T13.setTop (mkF m 47 #[.val (.ref (A 0)), .val (.int ux), .val (.ref (CA i8)), .val (.int v3)] [(.ref (A 0))])) (fun _ k => XS.aloadN X13.here hx rfl (hb hby d9_46) rfl rfl  k) ?_
            obtain ⟨T17, X17, e17, st17⟩ := getF X13 hx hZ hown (host := "") (Or.inl (hw _ (List.mem_of_getElem? (i := 18) rfl))) Via.refl e13 (own_PS_f2 P1) (g := (mkF m 47 #[.val (.ref (A 0)), .val (.int ux), .val (.ref (CA i8)), .val (.int v3)] [(.ref (A 0))])) rfl rfl (hb hby d9_47)
            refine own_by (B := T17.setTop (mkF m 50 #[.val (.ref (A 0)), .val (.int ux), .val (.ref (CA i8)), .val (.int v3)] [(.ref (A 2))])) st17 ?_
            refine own_by (B := T17.setTop (mkF m 51 #[.val (.ref (A 0)), .val (.int ux), .val (.ref (CA i8)), .val (.int v3)] [(.ref (A 0)), (.ref (A 2))])) (fun _ k => XS.aloadN X17.here hx rfl (hb hby d9_50) rfl rfl  k) ?_
            obtain ⟨T18, X18, e18, st18⟩ := getF X17 hx hZ hown (host := "") (Or.inl (hw _ (List.mem_of_getElem? (i := 22) rfl))) Via.refl e17 (own_PS_f4 P1) (g := (mkF m 51 #[.val (.ref (A 0)), .val (.int ux), .val (.ref (CA i8)), .val (.int v3)] [(.ref (A 0)), (.ref (A 2))])) rfl rfl (hb hby d9_51)
            refine own_by (B := T18.setTop (mkF m 54 #[.val (.ref (A 0)), .val (.int ux), .val (.ref (CA i8)), .val (.int v3)] [(.ref (A 4)), (.ref (A 2))])) st18 ?_
            refine own_by (B := T18.setTop (mkF m 55 #[.val (.ref (A 0)), .val (.int ux), .val (.ref (CA i8)), .val (.int v3)] [(.ref (CA i8)), (.ref (A 4)), (.ref (A 2))])) (fun _ k => XS.aloadN X18.here hx rfl (hb hby d9_54) rfl rfl  k) ?_
            refine own_by (B := T18.setTop (mkF m 56 #[.val (.ref (A 0)), .val (.int ux), .val (.ref (CA i8)), .val (.int v3)] [(.int v3), (.ref (CA i8)), (.ref (A 4)), (.ref (A 2))])) (fun _ k => XS.iloadN X18.here hx rfl (hb hby d9_55) rfl  k) ?_
            obtain ⟨w19, hw19, hF⟩ := own_bind hF
            refine own_by (B := T18.setTop (mkF m 57 #[.val (.ref (A 0)), .val (.int ux), .val (.ref (CA i8)), .val (.int v3)] [(.int w19), (.ref (A 4)), (.ref (A 2))])) (own_ldI X18 hx hZ e18 ((own_PS_cc P1) _ _ hLc8).1 hw19 (g := (mkF m 56 #[.val (.ref (A 0)), .val (.int ux), .val (.ref (CA i8)), .val (.int v3)] [(.int v3), (.ref (CA i8)), (.ref (A 4)), (.ref (A 2))])) rfl rfl (hb hby d9_56)) ?_
            obtain ⟨w20, hw20, hF⟩ := own_bind hF
            refine own_by (B := T18.setTop (mkF m 58 #[.val (.ref (A 0)), .val (.int ux), .val (.ref (CA i8)), .val (.int v3)] [(.int w20), (.ref (A 2))])) (own_ldI X18 hx hZ e18 (own_PS_v4 P1) hw20 (g := (mkF m 57 #[.val (.ref (A 0)), .val (.int ux), .val (.ref (CA i8)), .val (.int v3)] [(.int w19), (.ref (A 4)), (.ref (A 2))])) rfl rfl (hb hby d9_57)) ?_
            obtain ⟨w21, hw21, hF⟩ := own_bind hF
            refine own_by (B := T18.setTop (mkF m 59 #[.val (.ref (A 0)), .val (.int ux), .val (.ref (CA i8)), .val (.int v3)] [(.int w21)])) (own_ldI X18 hx hZ e18 (own_PS_v2 P1) hw21 (g := (mkF m 58 #[.val (.ref (A 0)), .val (.int ux), .val (.ref (CA i8)), .val (.int v3)] [(.int w20), (.ref (A 2))])) rfl rfl (hb hby d9_58)) ?_
            refine own_by (B := T18.setTop (mkF m 60 #[.val (.ref (A 0)), .val (.int ux), .val (.ref (CA i8)), .val (.int v3)] [(.int ux), (.int w21)])) (fun _ k => XS.iloadN X18.here hx rfl (hb hby d9_59) rfl  k) ?_
            by_cases hc22 : w21 = ux
            · rw [if_pos hc22] at hF
              refine own_by (B := T18.setTop (mkF m 63 #[.val (.ref (A 0)), .val (.int ux), .val (.ref (CA i8)), .val (.int v3)] [])) (fun _ k => XS.icmpNo X18.here hx rfl (hb hby d9_60) rfl (XT.ii_ne_f hc22) k) ?_
              refine own_by (B := T18.setTop (mkF m 66 #[.val (.ref (A 0)), .val (.int ux), .val (.ref (CA i8)), .val (.int (v3 + (1 : Int32)))] [])) (fun _ k => XS.iinc X18.here hx rfl (hb hby d9_63) rfl (l' := #[.val (.ref (A 0)), .val (.int ux), .val (.ref (CA i8)), .val (.int (v3 + (1 : Int32)))]) rfl k) ?_
              refine own_by (B := T18.setTop (mkF m 28 #[.val (.ref (A 0)), .val (.int ux), .val (.ref (CA i8)), .val (.int (v3 + (1 : Int32)))] [])) (fun _ k => XS.goto X18.here hx rfl (pc0 := 66) (pc' := 28) rfl (hb hby d9_66) (by decide) (by decide) k) ?_
              exact ih (v3 + (1 : Int32)) uh11 _ hF _ _ X18 N1 _ e18 P1 kont
            · rw [if_neg hc22] at hF
              refine own_by (B := T18.setTop (mkF m 69 #[.val (.ref (A 0)), .val (.int ux), .val (.ref (CA i8)), .val (.int v3)] [])) (fun _ k => XS.icmpYes X18.here hx rfl (pc0 := 60) (pc' := 69) rfl (hb hby d9_60) rfl (XT.ii_ne_t hc22) (by decide) (by decide) k) ?_
              obtain rfl := Option.some.inj hF
              exact kont _ _ X18 N1 _ e18 P1
        · rw [if_neg hc12] at hF
          refine own_by (B := T1.setTop (mkF m 69 #[.val (.ref (A 0)), .val (.int ux), .val (.ref (CA i8)), .val (.int v3)] [])) (fun _ k => XS.icmpYes X1.here hx rfl (pc0 := 31) (pc' := 69) rfl (hb hby d9_31) rfl (XT.ii_ge_t hc12) (by decide) (by decide) k) ?_
          obtain rfl := Option.some.inj hF
          exact kont _ _ X1 N1 _ e1 P1
    obtain ⟨q23, hq23, hF⟩ := own_bind hF
    refine hloop28 8 w10 u0 _ hq23 _ _ X9 N0 _ e9 P0 ?_
    intro T24 lc24 X24 N24 h24 e24 P24
    refine own_by (B := T24.setTop (mkF m 70 #[.val (.ref (A 0)), .val (.int ux), .val (.ref (CA i8)), .val (.int (q23.1))] [(.ref (A 0))])) (fun _ k => XS.aloadN X24.here hx rfl (hb hby d9_69) rfl rfl  k) ?_
    obtain ⟨T25, X25, e25, st25⟩ := getF X24 hx hZ hown (host := "") (Or.inl (hw _ (List.mem_of_getElem? (i := 34) rfl))) Via.refl e24 (own_PS_f9 P24) (g := (mkF m 70 #[.val (.ref (A 0)), .val (.int ux), .val (.ref (CA i8)), .val (.int (q23.1))] [(.ref (A 0))])) rfl rfl (hb hby d9_70)
    refine own_by (B := T25.setTop (mkF m 73 #[.val (.ref (A 0)), .val (.int ux), .val (.ref (CA i8)), .val (.int (q23.1))] [(.ref (A 9))])) st25 ?_
    refine own_by (B := T25.setTop (mkF m 74 #[.val (.ref (A 0)), .val (.int ux), .val (.ref (CA i8)), .val (.int (q23.1))] [(.int ux), (.ref (A 9))])) (fun _ k => XS.iloadN X25.here hx rfl (hb hby d9_73) rfl  k) ?_
    refine own_by (B := T25.setTop (mkF m 75 #[.val (.ref (A 0)), .val (.int ux), .val (.ref (CA i8)), .val (.int (q23.1))] [(.int (q23.1)), (.int ux), (.ref (A 9))])) (fun _ k => XS.iloadN X25.here hx rfl (hb hby d9_74) rfl  k) ?_
    obtain ⟨u26, hu26, hF⟩ := own_bind hF
    obtain ⟨zl26, hz26, hu26'⟩ := Option.map_eq_some_iff.mp hu26
    obtain ⟨T26, h26, X26, e26, W26, V26, st26⟩ := own_stI X25 hx hZ e25 (own_PS_v9 P24) hz26 (g := (mkF m 75 #[.val (.ref (A 0)), .val (.int ux), .val (.ref (CA i8)), .val (.int (q23.1))] [(.int (q23.1)), (.int ux), (.ref (A 9))])) rfl rfl (hb hby d9_75)
    have P26 : own_PS Z h26 n0 A K zr zc CA CK CL u26 := hu26' ▸ own_w_ow P24 W26 V26
    have N26 := Fr.snoc X26 N24 (own_PS_gn P24).2.2.2.2.2.2.2.2.2.1
    refine own_by (B := T26.setTop (mkF m 76 #[.val (.ref (A 0)), .val (.int ux), .val (.ref (CA i8)), .val (.int (q23.1))] [])) st26 ?_
    refine own_by (B := T26.setTop (mkF m 77 #[.val (.ref (A 0)), .val (.int ux), .val (.ref (CA i8)), .val (.int (q23.1))] [(.ref (A 0))])) (fun _ k => XS.aloadN X26.here hx rfl (hb hby d9_76) rfl rfl  k) ?_
    obtain ⟨T27, X27, e27, st27⟩ := getF X26 hx hZ hown (host := "") (Or.inl (hw _ (List.mem_of_getElem? (i := 36) rfl))) Via.refl e26 (own_PS_f10 P26) (g := (mkF m 77 #[.val (.ref (A 0)), .val (.int ux), .val (.ref (CA i8)), .val (.int (q23.1))] [(.ref (A 0))])) rfl rfl (hb hby d9_77)
    refine own_by (B := T27.setTop (mkF m 80 #[.val (.ref (A 0)), .val (.int ux), .val (.ref (CA i8)), .val (.int (q23.1))] [(.ref (A 10))])) st27 ?_
    refine own_by (B := T27.setTop (mkF m 81 #[.val (.ref (A 0)), .val (.int ux), .val (.ref (CA i8)), .val (.int (q23.1))] [(.int ux), (.ref (A 10))])) (fun _ k => XS.iloadN X27.here hx rfl (hb hby d9_80) rfl  k) ?_
    refine own_by (B := T27.setTop (mkF m 82 #[.val (.ref (A 0)), .val (.int ux), .val (.ref (CA i8)), .val (.int (q23.1))] [(.ref (A 0)), (.int ux), (.ref (A 10))])) (fun _ k => XS.aloadN X27.here hx rfl (hb hby d9_81) rfl rfl  k) ?_
    obtain ⟨T28, X28, e28, st28⟩ := getF X27 hx hZ hown (host := "") (Or.inl (hw _ (List.mem_of_getElem? (i := 64) rfl))) Via.refl e27 (own_PS_fse P26) (g := (mkF m 82 #[.val (.ref (A 0)), .val (.int ux), .val (.ref (CA i8)), .val (.int (q23.1))] [(.ref (A 0)), (.int ux), (.ref (A 10))])) rfl rfl (hb hby d9_82)
    refine own_by (B := T28.setTop (mkF m 85 #[.val (.ref (A 0)), .val (.int ux), .val (.ref (CA i8)), .val (.int (q23.1))] [(.long (own_se u26)), (.int ux), (.ref (A 10))])) st28 ?_
    obtain ⟨u29, hu29, hF⟩ := own_bind hF
    obtain ⟨zl29, hz29, hu29'⟩ := Option.map_eq_some_iff.mp hu29
    obtain ⟨T29, h29, X29, e29, W29, V29, st29⟩ := own_stJ X28 hx hZ e28 (own_PS_v10 P26) hz29 (g := (mkF m 85 #[.val (.ref (A 0)), .val (.int ux), .val (.ref (CA i8)), .val (.int (q23.1))] [(.long (own_se u26)), (.int ux), (.ref (A 10))])) rfl rfl (hb hby d9_85)
    have P29 : own_PS Z h29 n0 A K zr zc CA CK CL u29 := hu29' ▸ own_w_sc P26 W29 V29
    have N29 := Fr.snoc X29 N26 (own_PS_gn P26).2.2.2.2.2.2.2.2.2.2.1
    refine own_by (B := T29.setTop (mkF m 86 #[.val (.ref (A 0)), .val (.int ux), .val (.ref (CA i8)), .val (.int (q23.1))] [])) st29 ?_
    refine own_by (B := T29.setTop (mkF m 87 #[.val (.ref (A 0)), .val (.int ux), .val (.ref (CA i8)), .val (.int (q23.1))] [(.ref (A 0))])) (fun _ k => XS.aloadN X29.here hx rfl (hb hby d9_86) rfl rfl  k) ?_
    obtain ⟨T30, X30, e30, st30⟩ := getF X29 hx hZ hown (host := "") (Or.inl (hw _ (List.mem_of_getElem? (i := 38) rfl))) Via.refl e29 (own_PS_f11 P29) (g := (mkF m 87 #[.val (.ref (A 0)), .val (.int ux), .val (.ref (CA i8)), .val (.int (q23.1))] [(.ref (A 0))])) rfl rfl (hb hby d9_87)
    refine own_by (B := T30.setTop (mkF m 90 #[.val (.ref (A 0)), .val (.int ux), .val (.ref (CA i8)), .val (.int (q23.1))] [(.ref (A 11))])) st30 ?_
    refine own_by (B := T30.setTop (mkF m 91 #[.val (.ref (A 0)), .val (.int ux), .val (.ref (CA i8)), .val (.int (q23.1))] [(.int ux), (.ref (A 11))])) (fun _ k => XS.iloadN X30.here hx rfl (hb hby d9_90) rfl  k) ?_
    refine own_by (B := T30.setTop (mkF m 92 #[.val (.ref (A 0)), .val (.int ux), .val (.ref (CA i8)), .val (.int (q23.1))] [(.int (q23.1)), (.int ux), (.ref (A 11))])) (fun _ k => XS.iloadN X30.here hx rfl (hb hby d9_91) rfl  k) ?_
    obtain ⟨u31, hu31, hF⟩ := own_bind hF
    obtain ⟨zl31, hz31, hu31'⟩ := Option.map_eq_some_iff.mp hu31
    obtain ⟨T31, h31, X31, e31, W31, V31, st31⟩ := own_stI X30 hx hZ e30 (own_PS_v11 P29) hz31 (g := (mkF m 92 #[.val (.ref (A 0)), .val (.int ux), .val (.ref (CA i8)), .val (.int (q23.1))] [(.int (q23.1)), (.int ux), (.ref (A 11))])) rfl rfl (hb hby d9_92)
    have P31 : own_PS Z h31 n0 A K zr zc CA CK CL u31 := hu31' ▸ own_w_nx P29 W31 V31
    have N31 := Fr.snoc X31 N29 (own_PS_gn P29).2.2.2.2.2.2.2.2.2.2.2.1
    refine own_by (B := T31.setTop (mkF m 93 #[.val (.ref (A 0)), .val (.int ux), .val (.ref (CA i8)), .val (.int (q23.1))] [])) st31 ?_
    refine own_by (B := T31.setTop (mkF m 94 #[.val (.ref (A 0)), .val (.int ux), .val (.ref (CA i8)), .val (.int (q23.1))] [(.ref (A 0))])) (fun _ k => XS.aloadN X31.here hx rfl (hb hby d9_93) rfl rfl  k) ?_
    obtain ⟨T32, X32, e32, st32⟩ := getF X31 hx hZ hown (host := "") (Or.inl (hw _ (List.mem_of_getElem? (i := 38) rfl))) Via.refl e31 (own_PS_f11 P31) (g := (mkF m 94 #[.val (.ref (A 0)), .val (.int ux), .val (.ref (CA i8)), .val (.int (q23.1))] [(.ref (A 0))])) rfl rfl (hb hby d9_94)
    refine own_by (B := T32.setTop (mkF m 97 #[.val (.ref (A 0)), .val (.int ux), .val (.ref (CA i8)), .val (.int (q23.1))] [(.ref (A 11))])) st32 ?_
    refine own_by (B := T32.setTop (mkF m 98 #[.val (.ref (A 0)), .val (.int ux), .val (.ref (CA i8)), .val (.int (q23.1))] [(.int ux), (.ref (A 11))])) (fun _ k => XS.iloadN X32.here hx rfl (hb hby d9_97) rfl  k) ?_
    obtain ⟨w33, hw33, hF⟩ := own_bind hF
    refine own_by (B := T32.setTop (mkF m 99 #[.val (.ref (A 0)), .val (.int ux), .val (.ref (CA i8)), .val (.int (q23.1))] [(.int w33)])) (own_ldI X32 hx hZ e32 (own_PS_v11 P31) hw33 (g := (mkF m 98 #[.val (.ref (A 0)), .val (.int ux), .val (.ref (CA i8)), .val (.int (q23.1))] [(.int ux), (.ref (A 11))])) rfl rfl (hb hby d9_98)) ?_
    obtain rfl := Option.some.inj hF
    exact own_retI X32 hx hrt hlk (hb hby d9_99) (by decide) (by decide) (by show own_QPr Z ((w33, u31)) n0 A K zr zc CA CK CL _ T32.heap _; rw [e32]; exact ⟨rfl, N31, P31⟩)

def own_augment_L55 (CL : List (List Int32)) : Nat → Int32 → List Int32 → Int32 → Int32 → Int32 → own_S → Option (Int32 × Int32 × Int32 × own_S)
  | 0, _, _, _, _, _, _ => none
  | fuel + 1, w9, Lc11, v6, v7, v8, uh14 => if v7 = (-1 : Int32) then (if v6 < (Int32.ofNat Lc11.length) then ((own_geti Lc11 v6).bind fun w17 => (own_ld_vi uh14 w17).bind fun w19 => if w19 = (own_se uh14) then (own_augment_L55 CL fuel w9 Lc11 (v6 + (1 : Int32)) v7 v8 uh14) else ((own_st_vi uh14 w17 (own_se uh14)).bind fun u24 => (own_ld_ho u24 w17).bind fun w26 => if w26 = (-1 : Int32) then (own_augment_L55 CL fuel w9 Lc11 (v6 + (1 : Int32)) w17 w26 u24) else ((own_ld_fi u24 w26).bind fun w29 => if w29 = (0 : Int32) then ((own_ld_ki u24 w26).bind fun w32 => if w32 = w9 then (own_augment_L55 CL fuel w9 Lc11 (v6 + (1 : Int32)) (-1 : Int32) w26 u24) else (own_augment_L55 CL fuel w9 Lc11 (v6 + (1 : Int32)) w17 w26 u24)) else (own_augment_L55 CL fuel w9 Lc11 (v6 + (1 : Int32)) (-1 : Int32) w26 u24)))) else (some (v6, v7, v8, uh14))) else (some (v6, v7, v8, uh14))
def own_augment_L11 (CL : List (List Int32)) : Nat → Int32 → Int32 → own_S → Option (Int32 × Int32 × own_S)
  | 0, _, _, _ => none
  | fuel + 1, v2, v3, uh3 => if v2 < (0 : Int32) then (some (v2, v3, uh3)) else (if v3 = (0 : Int32) then ((own_ld_pt uh3 v2).bind fun w8 => (own_ld_ki uh3 w8).bind fun w9 => (own_ld_F uh3 w9).bind fun i11 => ((CL[i11]? : Option (List Int32))).bind fun Lc11 => (own_nextColumn CL uh3 w9).bind fun q12 => (own_augment_L55 CL 8 w9 Lc11 (q12.1) (-1 : Int32) (-1 : Int32) (q12.2)).bind fun q34 => (own_st_nx (q34.2.2.2) w9 (q34.1)).bind fun u37 => if (q34.2.1) = (-1 : Int32) then (own_augment_L11 CL fuel  (v2 + (-1 : Int32)) v3 u37) else ((own_st_va u37 v2 (q34.2.1)).bind fun u40 => if (q34.2.2.1) = (-1 : Int32) then (own_augment_L11 CL fuel  v2 (1 : Int32) u40) else ((own_st_pt u40 (v2 + (1 : Int32)) (q34.2.2.1)).bind fun u43 => own_augment_L11 CL fuel  (v2 + (1 : Int32)) (0 : Int32) u43))) else (some (v2, v3, uh3)))
def own_augment_L215 (CL : List (List Int32)) : Nat → Int32 → own_S → Option (Int32 × own_S)
  | 0, _, _ => none
  | fuel + 1, v4, uh46 => if v4 < (0 : Int32) then (some (v4, uh46)) else ((own_ld_pt uh46 v4).bind fun w49 => (own_ld_va uh46 v4).bind fun w51 => (own_hold CL uh46 w49 w51).bind fun q52 => own_augment_L215 CL fuel  (v4 + (-1 : Int32)) q52)
def own_augment (CL : List (List Int32)) (u0 : own_S) (ux : Int32) : Option (Int32 × own_S) := (own_st_pt u0 (0 : Int32) ux).bind fun u2 => (own_augment_L11 CL 16  (0 : Int32) (0 : Int32) u2).bind fun q44 => (own_augment_L215 CL 8  (q44.1) (q44.2.2)).bind fun q54 => some (((q44.2.1) &&& (1 : Int32)), (q54.2))

theorem d8_0 : decode prog_77_method_9_code 0 = .ok (.iconst 0, 1) := by decide +kernel
theorem d8_1 : decode prog_77_method_9_code 1 = .ok (.istore_n 2, 1) := by decide +kernel
theorem d8_2 : decode prog_77_method_9_code 2 = .ok (.aload_n 0, 1) := by decide +kernel
theorem d8_3 : decode prog_77_method_9_code 3 = .ok (.getfield 32, 3) := by decide +kernel
theorem d8_6 : decode prog_77_method_9_code 6 = .ok (.iconst 0, 1) := by decide +kernel
theorem d8_7 : decode prog_77_method_9_code 7 = .ok (.iload_n 1, 1) := by decide +kernel
theorem d8_8 : decode prog_77_method_9_code 8 = .ok (.iastore, 1) := by decide +kernel
theorem d8_9 : decode prog_77_method_9_code 9 = .ok (.iconst 0, 1) := by decide +kernel
theorem d8_10 : decode prog_77_method_9_code 10 = .ok (.istore_n 3, 1) := by decide +kernel
theorem d8_11 : decode prog_77_method_9_code 11 = .ok (.iload_n 2, 1) := by decide +kernel
theorem d8_12 : decode prog_77_method_9_code 12 = .ok (.ifCond .lt 200, 3) := by decide +kernel
theorem d8_15 : decode prog_77_method_9_code 15 = .ok (.iload_n 3, 1) := by decide +kernel
theorem d8_16 : decode prog_77_method_9_code 16 = .ok (.ifCond .ne 196, 3) := by decide +kernel
theorem d8_19 : decode prog_77_method_9_code 19 = .ok (.aload_n 0, 1) := by decide +kernel
theorem d8_20 : decode prog_77_method_9_code 20 = .ok (.getfield 15, 3) := by decide +kernel
theorem d8_23 : decode prog_77_method_9_code 23 = .ok (.aload_n 0, 1) := by decide +kernel
theorem d8_24 : decode prog_77_method_9_code 24 = .ok (.getfield 32, 3) := by decide +kernel
theorem d8_27 : decode prog_77_method_9_code 27 = .ok (.iload_n 2, 1) := by decide +kernel
theorem d8_28 : decode prog_77_method_9_code 28 = .ok (.iaload, 1) := by decide +kernel
theorem d8_29 : decode prog_77_method_9_code 29 = .ok (.iaload, 1) := by decide +kernel
theorem d8_30 : decode prog_77_method_9_code 30 = .ok (.istore 4, 2) := by decide +kernel
theorem d8_32 : decode prog_77_method_9_code 32 = .ok (.aload_n 0, 1) := by decide +kernel
theorem d8_33 : decode prog_77_method_9_code 33 = .ok (.getfield 9, 3) := by decide +kernel
theorem d8_36 : decode prog_77_method_9_code 36 = .ok (.iload 4, 2) := by decide +kernel
theorem d8_38 : decode prog_77_method_9_code 38 = .ok (.aaload, 1) := by decide +kernel
theorem d8_39 : decode prog_77_method_9_code 39 = .ok (.astore 5, 2) := by decide +kernel
theorem d8_41 : decode prog_77_method_9_code 41 = .ok (.aload_n 0, 1) := by decide +kernel
theorem d8_42 : decode prog_77_method_9_code 42 = .ok (.iload 4, 2) := by decide +kernel
theorem d8_44 : decode prog_77_method_9_code 44 = .ok (.invokevirtual 89, 3) := by decide +kernel
theorem d8_47 : decode prog_77_method_9_code 47 = .ok (.istore 6, 2) := by decide +kernel
theorem d8_49 : decode prog_77_method_9_code 49 = .ok (.iconst (-1), 1) := by decide +kernel
theorem d8_50 : decode prog_77_method_9_code 50 = .ok (.istore 7, 2) := by decide +kernel
theorem d8_52 : decode prog_77_method_9_code 52 = .ok (.iconst (-1), 1) := by decide +kernel
theorem d8_53 : decode prog_77_method_9_code 53 = .ok (.istore 8, 2) := by decide +kernel
theorem d8_55 : decode prog_77_method_9_code 55 = .ok (.iload 7, 2) := by decide +kernel
theorem d8_57 : decode prog_77_method_9_code 57 = .ok (.iconst (-1), 1) := by decide +kernel
theorem d8_58 : decode prog_77_method_9_code 58 = .ok (.if_icmp .ne 95, 3) := by decide +kernel
theorem d8_61 : decode prog_77_method_9_code 61 = .ok (.iload 6, 2) := by decide +kernel
theorem d8_63 : decode prog_77_method_9_code 63 = .ok (.aload 5, 2) := by decide +kernel
theorem d8_65 : decode prog_77_method_9_code 65 = .ok (.arraylength, 1) := by decide +kernel
theorem d8_66 : decode prog_77_method_9_code 66 = .ok (.if_icmp .ge 87, 3) := by decide +kernel
theorem d8_69 : decode prog_77_method_9_code 69 = .ok (.aload 5, 2) := by decide +kernel
theorem d8_71 : decode prog_77_method_9_code 71 = .ok (.iload 6, 2) := by decide +kernel
theorem d8_73 : decode prog_77_method_9_code 73 = .ok (.iinc 6 1, 3) := by decide +kernel
theorem d8_76 : decode prog_77_method_9_code 76 = .ok (.iaload, 1) := by decide +kernel
theorem d8_77 : decode prog_77_method_9_code 77 = .ok (.istore 9, 2) := by decide +kernel
theorem d8_79 : decode prog_77_method_9_code 79 = .ok (.aload_n 0, 1) := by decide +kernel
theorem d8_80 : decode prog_77_method_9_code 80 = .ok (.getfield 28, 3) := by decide +kernel
theorem d8_83 : decode prog_77_method_9_code 83 = .ok (.iload 9, 2) := by decide +kernel
theorem d8_85 : decode prog_77_method_9_code 85 = .ok (.laload, 1) := by decide +kernel
theorem d8_86 : decode prog_77_method_9_code 86 = .ok (.aload_n 0, 1) := by decide +kernel
theorem d8_87 : decode prog_77_method_9_code 87 = .ok (.getfield 64, 3) := by decide +kernel
theorem d8_90 : decode prog_77_method_9_code 90 = .ok (.lcmp, 1) := by decide +kernel
theorem d8_91 : decode prog_77_method_9_code 91 = .ok (.ifCond .eq 59, 3) := by decide +kernel
theorem d8_94 : decode prog_77_method_9_code 94 = .ok (.aload_n 0, 1) := by decide +kernel
theorem d8_95 : decode prog_77_method_9_code 95 = .ok (.getfield 28, 3) := by decide +kernel
theorem d8_98 : decode prog_77_method_9_code 98 = .ok (.iload 9, 2) := by decide +kernel
theorem d8_100 : decode prog_77_method_9_code 100 = .ok (.aload_n 0, 1) := by decide +kernel
theorem d8_101 : decode prog_77_method_9_code 101 = .ok (.getfield 64, 3) := by decide +kernel
theorem d8_104 : decode prog_77_method_9_code 104 = .ok (.lastore, 1) := by decide +kernel
theorem d8_105 : decode prog_77_method_9_code 105 = .ok (.aload_n 0, 1) := by decide +kernel
theorem d8_106 : decode prog_77_method_9_code 106 = .ok (.getfield 21, 3) := by decide +kernel
theorem d8_109 : decode prog_77_method_9_code 109 = .ok (.iload 9, 2) := by decide +kernel
theorem d8_111 : decode prog_77_method_9_code 111 = .ok (.iaload, 1) := by decide +kernel
theorem d8_112 : decode prog_77_method_9_code 112 = .ok (.istore 8, 2) := by decide +kernel
theorem d8_114 : decode prog_77_method_9_code 114 = .ok (.iload 8, 2) := by decide +kernel
theorem d8_116 : decode prog_77_method_9_code 116 = .ok (.iconst (-1), 1) := by decide +kernel
theorem d8_117 : decode prog_77_method_9_code 117 = .ok (.if_icmp .eq 25, 3) := by decide +kernel
theorem d8_120 : decode prog_77_method_9_code 120 = .ok (.aload_n 0, 1) := by decide +kernel
theorem d8_121 : decode prog_77_method_9_code 121 = .ok (.getfield 24, 3) := by decide +kernel
theorem d8_124 : decode prog_77_method_9_code 124 = .ok (.iload 8, 2) := by decide +kernel
theorem d8_126 : decode prog_77_method_9_code 126 = .ok (.baload, 1) := by decide +kernel
theorem d8_127 : decode prog_77_method_9_code 127 = .ok (.ifCond .ne 20, 3) := by decide +kernel
theorem d8_130 : decode prog_77_method_9_code 130 = .ok (.aload_n 0, 1) := by decide +kernel
theorem d8_131 : decode prog_77_method_9_code 131 = .ok (.getfield 15, 3) := by decide +kernel
theorem d8_134 : decode prog_77_method_9_code 134 = .ok (.iload 8, 2) := by decide +kernel
theorem d8_136 : decode prog_77_method_9_code 136 = .ok (.iaload, 1) := by decide +kernel
theorem d8_137 : decode prog_77_method_9_code 137 = .ok (.iload 4, 2) := by decide +kernel
theorem d8_139 : decode prog_77_method_9_code 139 = .ok (.if_icmp .eq 8, 3) := by decide +kernel
theorem d8_142 : decode prog_77_method_9_code 142 = .ok (.iload 9, 2) := by decide +kernel
theorem d8_144 : decode prog_77_method_9_code 144 = .ok (.goto 4, 3) := by decide +kernel
theorem d8_147 : decode prog_77_method_9_code 147 = .ok (.iconst (-1), 1) := by decide +kernel
theorem d8_148 : decode prog_77_method_9_code 148 = .ok (.istore 7, 2) := by decide +kernel
theorem d8_150 : decode prog_77_method_9_code 150 = .ok (.goto (-95), 3) := by decide +kernel
theorem d8_153 : decode prog_77_method_9_code 153 = .ok (.aload_n 0, 1) := by decide +kernel
theorem d8_154 : decode prog_77_method_9_code 154 = .ok (.getfield 44, 3) := by decide +kernel
theorem d8_157 : decode prog_77_method_9_code 157 = .ok (.iload 4, 2) := by decide +kernel
theorem d8_159 : decode prog_77_method_9_code 159 = .ok (.iload 6, 2) := by decide +kernel
theorem d8_161 : decode prog_77_method_9_code 161 = .ok (.iastore, 1) := by decide +kernel
theorem d8_162 : decode prog_77_method_9_code 162 = .ok (.iload 7, 2) := by decide +kernel
theorem d8_164 : decode prog_77_method_9_code 164 = .ok (.iconst (-1), 1) := by decide +kernel
theorem d8_165 : decode prog_77_method_9_code 165 = .ok (.if_icmp .ne 9, 3) := by decide +kernel
theorem d8_168 : decode prog_77_method_9_code 168 = .ok (.iinc 2 (-1), 3) := by decide +kernel
theorem d8_171 : decode prog_77_method_9_code 171 = .ok (.goto 38, 3) := by decide +kernel
theorem d8_174 : decode prog_77_method_9_code 174 = .ok (.aload_n 0, 1) := by decide +kernel
theorem d8_175 : decode prog_77_method_9_code 175 = .ok (.getfield 35, 3) := by decide +kernel
theorem d8_178 : decode prog_77_method_9_code 178 = .ok (.iload_n 2, 1) := by decide +kernel
theorem d8_179 : decode prog_77_method_9_code 179 = .ok (.iload 7, 2) := by decide +kernel
theorem d8_181 : decode prog_77_method_9_code 181 = .ok (.iastore, 1) := by decide +kernel
theorem d8_182 : decode prog_77_method_9_code 182 = .ok (.iload 8, 2) := by decide +kernel
theorem d8_184 : decode prog_77_method_9_code 184 = .ok (.iconst (-1), 1) := by decide +kernel
theorem d8_185 : decode prog_77_method_9_code 185 = .ok (.if_icmp .ne 7, 3) := by decide +kernel
theorem d8_188 : decode prog_77_method_9_code 188 = .ok (.iconst 1, 1) := by decide +kernel
theorem d8_189 : decode prog_77_method_9_code 189 = .ok (.goto 4, 3) := by decide +kernel
theorem d8_192 : decode prog_77_method_9_code 192 = .ok (.iconst 0, 1) := by decide +kernel
theorem d8_193 : decode prog_77_method_9_code 193 = .ok (.istore_n 3, 1) := by decide +kernel
theorem d8_194 : decode prog_77_method_9_code 194 = .ok (.iload_n 3, 1) := by decide +kernel
theorem d8_195 : decode prog_77_method_9_code 195 = .ok (.ifCond .ne 14, 3) := by decide +kernel
theorem d8_198 : decode prog_77_method_9_code 198 = .ok (.iinc 2 1, 3) := by decide +kernel
theorem d8_201 : decode prog_77_method_9_code 201 = .ok (.aload_n 0, 1) := by decide +kernel
theorem d8_202 : decode prog_77_method_9_code 202 = .ok (.getfield 32, 3) := by decide +kernel
theorem d8_205 : decode prog_77_method_9_code 205 = .ok (.iload_n 2, 1) := by decide +kernel
theorem d8_206 : decode prog_77_method_9_code 206 = .ok (.iload 8, 2) := by decide +kernel
theorem d8_208 : decode prog_77_method_9_code 208 = .ok (.iastore, 1) := by decide +kernel
theorem d8_209 : decode prog_77_method_9_code 209 = .ok (.goto (-198), 3) := by decide +kernel
theorem d8_212 : decode prog_77_method_9_code 212 = .ok (.iload_n 2, 1) := by decide +kernel
theorem d8_213 : decode prog_77_method_9_code 213 = .ok (.istore 4, 2) := by decide +kernel
theorem d8_215 : decode prog_77_method_9_code 215 = .ok (.iload 4, 2) := by decide +kernel
theorem d8_217 : decode prog_77_method_9_code 217 = .ok (.ifCond .lt 27, 3) := by decide +kernel
theorem d8_220 : decode prog_77_method_9_code 220 = .ok (.aload_n 0, 1) := by decide +kernel
theorem d8_221 : decode prog_77_method_9_code 221 = .ok (.aload_n 0, 1) := by decide +kernel
theorem d8_222 : decode prog_77_method_9_code 222 = .ok (.getfield 32, 3) := by decide +kernel
theorem d8_225 : decode prog_77_method_9_code 225 = .ok (.iload 4, 2) := by decide +kernel
theorem d8_227 : decode prog_77_method_9_code 227 = .ok (.iaload, 1) := by decide +kernel
theorem d8_228 : decode prog_77_method_9_code 228 = .ok (.aload_n 0, 1) := by decide +kernel
theorem d8_229 : decode prog_77_method_9_code 229 = .ok (.getfield 35, 3) := by decide +kernel
theorem d8_232 : decode prog_77_method_9_code 232 = .ok (.iload 4, 2) := by decide +kernel
theorem d8_234 : decode prog_77_method_9_code 234 = .ok (.iaload, 1) := by decide +kernel
theorem d8_235 : decode prog_77_method_9_code 235 = .ok (.invokevirtual 82, 3) := by decide +kernel
theorem d8_238 : decode prog_77_method_9_code 238 = .ok (.iinc 4 (-1), 3) := by decide +kernel
theorem d8_241 : decode prog_77_method_9_code 241 = .ok (.goto (-26), 3) := by decide +kernel
theorem d8_244 : decode prog_77_method_9_code 244 = .ok (.iload_n 3, 1) := by decide +kernel
theorem d8_245 : decode prog_77_method_9_code 245 = .ok (.ireturn, 1) := by decide +kernel
theorem pd_8__I_I : parseMethodDescriptor "(I)I" = some ⟨[.int], some .int⟩ := by decide +kernel
theorem pd_8__II_V : parseMethodDescriptor "(II)V" = some ⟨[.int, .int], none⟩ := by decide +kernel
theorem pn_rm_augment : plainFor (⟨"com/example/document_pattern_rules/documentpatternrules/pattern/Pairing", "augment", "(I)Z"⟩ : MethodName) = true := by first | exact plainFor_of_name (by first | (simp [plainName, overriddenIn]; done) | decide +kernel) | exact Jvm.Free.JP.mathPlain rfl (by decide +kernel) | decide +kernel
theorem ef_rm_augment (m : MethodId) (x0 : Nat) (x1 : Int32) : entryFrame m #[(.ref x0), (.int x1)] 10 = mkF m 0 #[.val (.ref x0), .val (.int x1), .unset, .unset, .unset, .unset, .unset, .unset, .unset, .unset] [] := by first | (simp [entryFrame, mkF, argsToLocals, Value.category]; done) | rfl
set_option maxRecDepth 65536 in
set_option maxHeartbeats 40000000 in
theorem rm_augment (l : Launch) (Z : State) (a0 : Array Value) (hw : ∀ d ∈ tables_1, d.before a0 Z = true) (ws : List Jvm.Cond) (A : Nat → Nat) (K : Nat → ClassId) (zr zc : Int32) (CA : Nat → Nat) (CK : Nat → ClassId) (CL : List (List Int32)) (u0 : own_S) (ru : Int32 × own_S) (ux : Int32) (h0 : Heap) (n0 : Nat) (Z0 : n0 ≤ h0.size) (P0 : own_PS Z h0 n0 A K zr zc CA CK CL u0) (hF : own_augment CL u0 ux = some ru) :
    MetFree l (⟨"com/example/document_pattern_rules/documentpatternrules/pattern/Pairing", "augment", "(I)Z"⟩ : MethodName) (head1 (Jvm.Cond.code (⟨"com/example/document_pattern_rules/documentpatternrules/pattern/Pairing", "augment", "(I)Z"⟩ : MethodName) prog_77_method_9_code 10 (some .boolean) :: ws) ({ frames := 1, cells := 0, slots := 0, locals := 15 } : Room)) (fun a U => a = #[(.ref (A 0)), (.int ux)] ∧ Z.Warmed39 U.vm ∧ U.heap = h0) (fun _ _ _ _ _ => True) (fun _ U o U' => ∃ v L, o = .returned v ∧ (own_QPr Z ru n0 A K zr zc CA CK CL) v U'.heap L ∧ FrameEnd U o U' L 0 0) := by
  refine MetFree.of_bodySF pn_rm_augment hisR ?_
  intro p e s m args below meth c s₁ Bd hml0 hP hK
  obtain ⟨rfl, hZ, hh⟩ := hP
  have hx := Bd.exec
  have hby := Bd.bytes
  have hml : c.maxLocals = 10 := hml0
  have hown : s.vm.findClass "com/example/document_pattern_rules/documentpatternrules/pattern/Pairing" = some m.cls := findClass_of_methodNamed Bd.named
  have hnm := (name_of_methodNamed Bd.named Bd.method).1
  have hrt := Bd.returns
  have hlk := Bd.notSynchronized
  have X0 : Stand p l e ({ frames := 1, cells := 0, slots := 0, locals := 15 } : Room) s m #[(.ref (A 0)), (.int ux)] below meth c s₁ [] 0 0 := Stand.of_body Bd
  have e0 : s₁.heap = h0 := by rw [← hh, Bd.state]; rfl
  have N0 := Fr.nil n0
  unfold own_augment at hF
  refine own_done (B := s₁.setTop (mkF m 0 #[.val (.ref (A 0)), .val (.int ux), .unset, .unset, .unset, .unset, .unset, .unset, .unset, .unset] [])) (fun t k => castTop (ef_rm_augment m (A 0) ux) k) ?_
  refine own_by (B := s₁.setTop (mkF m 1 #[.val (.ref (A 0)), .val (.int ux), .unset, .unset, .unset, .unset, .unset, .unset, .unset, .unset] [(.int (0 : Int32))])) (fun _ k => XS.iconst X0.here hx rfl (hb hby d8_0) k) ?_
  refine own_by (B := s₁.setTop (mkF m 2 #[.val (.ref (A 0)), .val (.int ux), .val (.int (0 : Int32)), .unset, .unset, .unset, .unset, .unset, .unset, .unset] [])) (fun _ k => XS.istoreN X0.here hx rfl (hb hby d8_1) rfl (l' := #[.val (.ref (A 0)), .val (.int ux), .val (.int (0 : Int32)), .unset, .unset, .unset, .unset, .unset, .unset, .unset]) rfl k) ?_
  refine own_by (B := s₁.setTop (mkF m 3 #[.val (.ref (A 0)), .val (.int ux), .val (.int (0 : Int32)), .unset, .unset, .unset, .unset, .unset, .unset, .unset] [(.ref (A 0))])) (fun _ k => XS.aloadN X0.here hx rfl (hb hby d8_2) rfl rfl  k) ?_
  obtain ⟨T1, X1, e1, st1⟩ := getF X0 hx hZ hown (host := "") (Or.inl (hw _ (List.mem_of_getElem? (i := 30) rfl))) Via.refl e0 (own_PS_f7 P0) (g := (mkF m 3 #[.val (.ref (A 0)), .val (.int ux), .val (.int (0 : Int32)), .unset, .unset, .unset, .unset, .unset, .unset, .unset] [(.ref (A 0))])) rfl rfl (hb hby d8_3)
  refine own_by (B := T1.setTop (mkF m 6 #[.val (.ref (A 0)), .val (.int ux), .val (.int (0 : Int32)), .unset, .unset, .unset, .unset, .unset, .unset, .unset] [(.ref (A 7))])) st1 ?_
  refine own_by (B := T1.setTop (mkF m 7 #[.val (.ref (A 0)), .val (.int ux), .val (.int (0 : Int32)), .unset, .unset, .unset, .unset, .unset, .unset, .unset] [(.int (0 : Int32)), (.ref (A 7))])) (fun _ k => XS.iconst X1.here hx rfl (hb hby d8_6) k) ?_
  refine own_by (B := T1.setTop (mkF m 8 #[.val (.ref (A 0)), .val (.int ux), .val (.int (0 : Int32)), .unset, .unset, .unset, .unset, .unset, .unset, .unset] [(.int ux), (.int (0 : Int32)), (.ref (A 7))])) (fun _ k => XS.iloadN X1.here hx rfl (hb hby d8_7) rfl  k) ?_
  obtain ⟨u2, hu2, hF⟩ := own_bind hF
  obtain ⟨zl2, hz2, hu2'⟩ := Option.map_eq_some_iff.mp hu2
  obtain ⟨T2, h2, X2, e2, W2, V2, st2⟩ := own_stI X1 hx hZ e1 (own_PS_v7 P0) hz2 (g := (mkF m 8 #[.val (.ref (A 0)), .val (.int ux), .val (.int (0 : Int32)), .unset, .unset, .unset, .unset, .unset, .unset, .unset] [(.int ux), (.int (0 : Int32)), (.ref (A 7))])) rfl rfl (hb hby d8_8)
  have P2 : own_PS Z h2 n0 A K zr zc CA CK CL u2 := hu2' ▸ own_w_pt P0 W2 V2
  have N2 := Fr.snoc X2 N0 (own_PS_gn P0).2.2.2.2.2.2.2.1
  refine own_by (B := T2.setTop (mkF m 9 #[.val (.ref (A 0)), .val (.int ux), .val (.int (0 : Int32)), .unset, .unset, .unset, .unset, .unset, .unset, .unset] [])) st2 ?_
  refine own_by (B := T2.setTop (mkF m 10 #[.val (.ref (A 0)), .val (.int ux), .val (.int (0 : Int32)), .unset, .unset, .unset, .unset, .unset, .unset, .unset] [(.int (0 : Int32))])) (fun _ k => XS.iconst X2.here hx rfl (hb hby d8_9) k) ?_
  refine own_by (B := T2.setTop (mkF m 11 #[.val (.ref (A 0)), .val (.int ux), .val (.int (0 : Int32)), .val (.int (0 : Int32)), .unset, .unset, .unset, .unset, .unset, .unset] [])) (fun _ k => XS.istoreN X2.here hx rfl (hb hby d8_10) rfl (l' := #[.val (.ref (A 0)), .val (.int ux), .val (.int (0 : Int32)), .val (.int (0 : Int32)), .unset, .unset, .unset, .unset, .unset, .unset]) rfl k) ?_
  have hloop11 : ∀ (fuel : Nat) (v2 : Int32) (v3 : Int32) (uh3 : own_S) (q3 : Int32 × Int32 × own_S), own_augment_L11 CL fuel  v2 v3 uh3 = some q3 → ∀ (T1 : State) (lc1 : List Loc) (X1 : Stand p l e ({ frames := 1, cells := 0, slots := 0, locals := 15 } : Room) s m #[(.ref (A 0)), (.int ux)] below meth c T1 lc1 0 0) (N1 : Fr n0 lc1) (h1 : Heap) (e1 : T1.heap = h1) (P1 : own_PS Z h1 n0 A K zr zc CA CK CL uh3) (sl4 : Slot) (One_sl4 : One sl4) (sl5 : Slot) (One_sl5 : One sl5) (sl6 : Slot) (One_sl6 : One sl6) (sl7 : Slot) (One_sl7 : One sl7) (sl8 : Slot) (One_sl8 : One sl8) (sl9 : Slot) (One_sl9 : One sl9), (∀ (T2 : State) (lc2 : List Loc) (X2 : Stand p l e ({ frames := 1, cells := 0, slots := 0, locals := 15 } : Room) s m #[(.ref (A 0)), (.int ux)] below meth c T2 lc2 0 0) (N2 : Fr n0 lc2) (h2 : Heap) (e2 : T2.heap = h2) (P2 : own_PS Z h2 n0 A K zr zc CA CK CL (q3.2.2)) (sl4 : Slot) (One_sl4 : One sl4) (sl5 : Slot) (One_sl5 : One sl5) (sl6 : Slot) (One_sl6 : One sl6) (sl7 : Slot) (One_sl7 : One sl7) (sl8 : Slot) (One_sl8 : One sl8) (sl9 : Slot) (One_sl9 : One sl9), own_Go p.tables e below (own_K s below (own_QPr Z ru n0 A K zr zc CA CK CL) 0 0) (T2.setTop (mkF m 212 #[.val (.ref (A 0)), .val (.int ux), .val (.int (q3.1)), .val (.int (q3.2.1)), sl4, sl5, sl6, sl7, sl8, sl9] []))) → own_Go p.tables e below (own_K s below (own_QPr Z ru n0 A K zr zc CA CK CL) 0 0) (T1.setTop (mkF m 11 #[.val (.ref (A 0)), .val (.int ux), .val (.int v2), .val (.int v3), sl4, sl5, sl6, sl7, sl8, sl9] [])) := by
    intro fuel
    induction fuel with
    | zero => intro v2 v3 uh3 q3 hF; cases hF
    | succ fuel ih =>
      intro v2 v3 uh3 q3 hF T1 lc1 X1 N1 h1 e1 P1 sl4 One_sl4 sl5 One_sl5 sl6 One_sl6 sl7 One_sl7 sl8 One_sl8 sl9 One_sl9 kont
      rw [own_augment_L11] at hF
      refine own_by (B := T1.setTop (mkF m 12 #[.val (.ref (A 0)), .val (.int ux), .val (.int v2), .val (.int v3), sl4, sl5, sl6, sl7, sl8, sl9] [(.int v2)])) (fun _ k => XS.iloadN X1.here hx rfl (hb hby d8_11) rfl  k) ?_
      by_cases hc4 : v2 < (0 : Int32)
      · rw [if_pos hc4] at hF
        refine own_by (B := T1.setTop (mkF m 212 #[.val (.ref (A 0)), .val (.int ux), .val (.int v2), .val (.int v3), sl4, sl5, sl6, sl7, sl8, sl9] [])) (fun _ k => XS.ifYes X1.here hx rfl (pc0 := 12) (pc' := 212) rfl (hb hby d8_12) rfl (XT.i0_lt_t hc4) (by decide) (by decide) k) ?_
        obtain rfl := Option.some.inj hF
        exact kont _ _ X1 N1 _ e1 P1 (sl4) One_sl4 (sl5) One_sl5 (sl6) One_sl6 (sl7) One_sl7 (sl8) One_sl8 (sl9) One_sl9
      · rw [if_neg hc4] at hF
        refine own_by (B := T1.setTop (mkF m 15 #[.val (.ref (A 0)), .val (.int ux), .val (.int v2), .val (.int v3), sl4, sl5, sl6, sl7, sl8, sl9] [])) (fun _ k => XS.ifNo X1.here hx rfl (hb hby d8_12) rfl (XT.i0_lt_f hc4) k) ?_
        refine own_by (B := T1.setTop (mkF m 16 #[.val (.ref (A 0)), .val (.int ux), .val (.int v2), .val (.int v3), sl4, sl5, sl6, sl7, sl8, sl9] [(.int v3)])) (fun _ k => XS.iloadN X1.here hx rfl (hb hby d8_15) rfl  k) ?_
        by_cases hc5 : v3 = (0 : Int32)
        · rw [if_pos hc5] at hF
          refine own_by (B := T1.setTop (mkF m 19 #[.val (.ref (A 0)), .val (.int ux), .val (.int v2), .val (.int v3), sl4, sl5, sl6, sl7, sl8, sl9] [])) (fun _ k => XS.ifNo X1.here hx rfl (hb hby d8_16) rfl (XT.i0_ne_f hc5) k) ?_
          refine own_by (B := T1.setTop (mkF m 20 #[.val (.ref (A 0)), .val (.int ux), .val (.int v2), .val (.int v3), sl4, sl5, sl6, sl7, sl8, sl9] [(.ref (A 0))])) (fun _ k => XS.aloadN X1.here hx rfl (hb hby d8_19) rfl rfl  k) ?_
          obtain ⟨T6, X6, e6, st6⟩ := getF X1 hx hZ hown (host := "") (Or.inl (hw _ (List.mem_of_getElem? (i := 18) rfl))) Via.refl e1 (own_PS_f2 P1) (g := (mkF m 20 #[.val (.ref (A 0)), .val (.int ux), .val (.int v2), .val (.int v3), sl4, sl5, sl6, sl7, sl8, sl9] [(.ref (A 0))])) rfl rfl (hb hby d8_20)
          refine own_by (B := T6.setTop (mkF m 23 #[.val (.ref (A 0)), .val (.int ux), .val (.int v2), .val (.int v3), sl4, sl5, sl6, sl7, sl8, sl9] [(.ref (A 2))])) st6 ?_
          refine own_by (B := T6.setTop (mkF m 24 #[.val (.ref (A 0)), .val (.int ux), .val (.int v2), .val (.int v3), sl4, sl5, sl6, sl7, sl8, sl9] [(.ref (A 0)), (.ref (A 2))])) (fun _ k => XS.aloadN X6.here hx rfl (hb hby d8_23) rfl rfl  k) ?_
          obtain ⟨T7, X7, e7, st7⟩ := getF X6 hx hZ hown (host := "") (Or.inl (hw _ (List.mem_of_getElem? (i := 30) rfl))) Via.refl e6 (own_PS_f7 P1) (g := (mkF m 24 #[.val (.ref (A 0)), .val (.int ux), .val (.int v2), .val (.int v3), sl4, sl5, sl6, sl7, sl8, sl9] [(.ref (A 0)), (.ref (A 2))])) rfl rfl (hb hby d8_24)
          refine own_by (B := T7.setTop (mkF m 27 #[.val (.ref (A 0)), .val (.int ux), .val (.int v2), .val (.int v3), sl4, sl5, sl6, sl7, sl8, sl9] [(.ref (A 7)), (.ref (A 2))])) st7 ?_
          refine own_by (B := T7.setTop (mkF m 28 #[.val (.ref (A 0)), .val (.int ux), .val (.int v2), .val (.int v3), sl4, sl5, sl6, sl7, sl8, sl9] [(.int v2), (.ref (A 7)), (.ref (A 2))])) (fun _ k => XS.iloadN X7.here hx rfl (hb hby d8_27) rfl  k) ?_
          obtain ⟨w8, hw8, hF⟩ := own_bind hF
          refine own_by (B := T7.setTop (mkF m 29 #[.val (.ref (A 0)), .val (.int ux), .val (.int v2), .val (.int v3), sl4, sl5, sl6, sl7, sl8, sl9] [(.int w8), (.ref (A 2))])) (own_ldI X7 hx hZ e7 (own_PS_v7 P1) hw8 (g := (mkF m 28 #[.val (.ref (A 0)), .val (.int ux), .val (.int v2), .val (.int v3), sl4, sl5, sl6, sl7, sl8, sl9] [(.int v2), (.ref (A 7)), (.ref (A 2))])) rfl rfl (hb hby d8_28)) ?_
          obtain ⟨w9, hw9, hF⟩ := own_bind hF
          refine own_by (B := T7.setTop (mkF m 30 #[.val (.ref (A 0)), .val (.int ux), .val (.int v2), .val (.int v3), sl4, sl5, sl6, sl7, sl8, sl9] [(.int w9)])) (own_ldI X7 hx hZ e7 (own_PS_v2 P1) hw9 (g := (mkF m 29 #[.val (.ref (A 0)), .val (.int ux), .val (.int v2), .val (.int v3), sl4, sl5, sl6, sl7, sl8, sl9] [(.int w8), (.ref (A 2))])) rfl rfl (hb hby d8_29)) ?_
          refine own_by (B := T7.setTop (mkF m 32 #[.val (.ref (A 0)), .val (.int ux), .val (.int v2), .val (.int v3), .val (.int w9), sl5, sl6, sl7, sl8, sl9] [])) (fun _ k => XS.istore X7.here hx rfl (hb hby d8_30) rfl (l' := #[.val (.ref (A 0)), .val (.int ux), .val (.int v2), .val (.int v3), .val (.int w9), sl5, sl6, sl7, sl8, sl9]) (XS.store1 (o := sl4) rfl One_sl4 rfl) k) ?_
          refine own_by (B := T7.setTop (mkF m 33 #[.val (.ref (A 0)), .val (.int ux), .val (.int v2), .val (.int v3), .val (.int w9), sl5, sl6, sl7, sl8, sl9] [(.ref (A 0))])) (fun _ k => XS.aloadN X7.here hx rfl (hb hby d8_32) rfl rfl  k) ?_
          obtain ⟨T10, X10, e10, st10⟩ := getF X7 hx hZ hown (host := "") (Or.inl (hw _ (List.mem_of_getElem? (i := 16) rfl))) Via.refl e7 (own_PS_f1 P1) (g := (mkF m 33 #[.val (.ref (A 0)), .val (.int ux), .val (.int v2), .val (.int v3), .val (.int w9), sl5, sl6, sl7, sl8, sl9] [(.ref (A 0))])) rfl rfl (hb hby d8_33)
          refine own_by (B := T10.setTop (mkF m 36 #[.val (.ref (A 0)), .val (.int ux), .val (.int v2), .val (.int v3), .val (.int w9), sl5, sl6, sl7, sl8, sl9] [(.ref (A 1))])) st10 ?_
          refine own_by (B := T10.setTop (mkF m 38 #[.val (.ref (A 0)), .val (.int ux), .val (.int v2), .val (.int v3), .val (.int w9), sl5, sl6, sl7, sl8, sl9] [(.int w9), (.ref (A 1))])) (fun _ k => XS.iload X10.here hx rfl (hb hby d8_36) rfl  k) ?_
          obtain ⟨i11, hi11, hF⟩ := own_bind hF
          obtain ⟨Lc11, hLc11, hF⟩ := own_bind hF
          refine own_by (B := T10.setTop (mkF m 39 #[.val (.ref (A 0)), .val (.int ux), .val (.int v2), .val (.int v3), .val (.int w9), sl5, sl6, sl7, sl8, sl9] [(.ref (CA i11))])) (own_ldF X10 hx hZ e10 (own_PS_v1 P1) hi11 (g := (mkF m 38 #[.val (.ref (A 0)), .val (.int ux), .val (.int v2), .val (.int v3), .val (.int w9), sl5, sl6, sl7, sl8, sl9] [(.int w9), (.ref (A 1))])) rfl rfl (hb hby d8_38)) ?_
          refine own_by (B := T10.setTop (mkF m 41 #[.val (.ref (A 0)), .val (.int ux), .val (.int v2), .val (.int v3), .val (.int w9), .val (.ref (CA i11)), sl6, sl7, sl8, sl9] [])) (fun _ k => XS.astore X10.here hx rfl (hb hby d8_39) rfl rfl (l' := #[.val (.ref (A 0)), .val (.int ux), .val (.int v2), .val (.int v3), .val (.int w9), .val (.ref (CA i11)), sl6, sl7, sl8, sl9]) (XS.store1 (o := sl5) rfl One_sl5 rfl) k) ?_
          refine own_by (B := T10.setTop (mkF m 42 #[.val (.ref (A 0)), .val (.int ux), .val (.int v2), .val (.int v3), .val (.int w9), .val (.ref (CA i11)), sl6, sl7, sl8, sl9] [(.ref (A 0))])) (fun _ k => XS.aloadN X10.here hx rfl (hb hby d8_41) rfl rfl  k) ?_
          refine own_by (B := T10.setTop (mkF m 44 #[.val (.ref (A 0)), .val (.int ux), .val (.int v2), .val (.int v3), .val (.int w9), .val (.ref (CA i11)), sl6, sl7, sl8, sl9] [(.int w9), (.ref (A 0))])) (fun _ k => XS.iload X10.here hx rfl (hb hby d8_42) rfl  k) ?_
          obtain ⟨q12, hq12, hF⟩ := own_bind hF
          obtain ⟨cq13, qa13, qc13⟩ := Exa.cell (own_PS_E P1)
          obtain ⟨_, _, ⟨T13, L13, k13, n13⟩, -, X13, ⟨Lc13, hQ13, l13, y13, z13⟩, st13⟩ := X10.privateBack hx (y := (⟨"com/example/document_pattern_rules/documentpatternrules/pattern/Pairing", "nextColumn", "(I)I"⟩ : MethodName)) hown (mvT hZ (hw _ (List.mem_of_getElem? (i := 70) rfl))) (mvT hZ (hw _ (List.mem_of_getElem? (i := 71) rfl))) (mvT hZ (own_selpriv (y := (⟨"com/example/document_pattern_rules/documentpatternrules/pattern/Pairing", "nextColumn", "(I)I"⟩ : MethodName)) (hw _ (List.mem_of_getElem? (i := 6) rfl)) (hw _ (List.mem_of_getElem? (i := 72) rfl)) (hw _ (List.mem_of_getElem? (i := 71) rfl)) (by decide))) (Cond.privateMethod_at (mvP hZ (hw _ (List.mem_of_getElem? (i := 72) rfl)) (args := #[]))) (mvT hZ (hw _ (List.mem_of_getElem? (i := 73) rfl))) (by decide) (backOf (W := 0) (rm_nextColumn l Z a0 hw [] A K zr zc CA CK CL uh3 _ w9 h1 n0 (Nat.le_trans (own_PS_gn P1).1 (Nat.le_of_lt (own_PS_E P1).lt)) P1 hq12) hZ (hw _ (List.mem_of_getElem? (i := 73) rfl)) (hw _ (List.mem_of_getElem? (i := 7) rfl)) (by decide) (by decide)) (g := (mkF m 44 #[.val (.ref (A 0)), .val (.int ux), .val (.int v2), .val (.int v3), .val (.int w9), .val (.ref (CA i11)), sl6, sl7, sl8, sl9] [(.int w9), (.ref (A 0))])) rfl (by rw [hml]; rfl) (Steps.refl _) (a := (A 0)) (by rw [e10]; exact qa13) qc13 (argsL := [(.int w9)]) (rest := []) (lenOf pd_8__I_I rfl) rfl (by show 2 * 0 + _ ≤ _; exact Nat.le_of_eq rfl) (hb hby d8_44) (fun _ _ => ⟨rfl, e10, (by decide : 0 + 0 ≤ _), (by decide : 0 + 0 ≤ _)⟩)
          dsimp only [Pt.U, Pt.locs, Pt.cells, Pt.slots] at X13 l13 y13 z13 st13 hQ13
          subst l13 y13 z13
          obtain ⟨rfl, NC13, PC13⟩ := hQ13
          refine own_by (B := T13.setTop (mkF m 47 #[.val (.ref (A 0)), .val (.int ux), .val (.int v2), .val (.int v3), .val (.int w9), .val (.ref (CA i11)), sl6, sl7, sl8, sl9] [(.int (q12.1))])) (fun _ k => st13.trans k) ?_
          obtain ⟨h13, e13⟩ : ∃ z, T13.heap = z := ⟨_, rfl⟩
          rw [e13] at PC13
          have N13 := Fr.app N1 NC13
          refine own_by (B := T13.setTop (mkF m 49 #[.val (.ref (A 0)), .val (.int ux), .val (.int v2), .val (.int v3), .val (.int w9), .val (.ref (CA i11)), .val (.int (q12.1)), sl7, sl8, sl9] [])) (fun _ k => XS.istore X13.here hx rfl (hb hby d8_47) rfl (l' := #[.val (.ref (A 0)), .val (.int ux), .val (.int v2), .val (.int v3), .val (.int w9), .val (.ref (CA i11)), .val (.int (q12.1)), sl7, sl8, sl9]) (XS.store1 (o := sl6) rfl One_sl6 rfl) k) ?_
          refine own_by (B := T13.setTop (mkF m 50 #[.val (.ref (A 0)), .val (.int ux), .val (.int v2), .val (.int v3), .val (.int w9), .val (.ref (CA i11)), .val (.int (q12.1)), sl7, sl8, sl9] [(.int (-1 : Int32))])) (fun _ k => XS.iconst X13.here hx rfl (hb hby d8_49) k) ?_
          refine own_by (B := T13.setTop (mkF m 52 #[.val (.ref (A 0)), .val (.int ux), .val (.int v2), .val (.int v3), .val (.int w9), .val (.ref (CA i11)), .val (.int (q12.1)), .val (.int (-1 : Int32)), sl8, sl9] [])) (fun _ k => XS.istore X13.here hx rfl (hb hby d8_50) rfl (l' := #[.val (.ref (A 0)), .val (.int ux), .val (.int v2), .val (.int v3), .val (.int w9), .val (.ref (CA i11)), .val (.int (q12.1)), .val (.int (-1 : Int32)), sl8, sl9]) (XS.store1 (o := sl7) rfl One_sl7 rfl) k) ?_
          refine own_by (B := T13.setTop (mkF m 53 #[.val (.ref (A 0)), .val (.int ux), .val (.int v2), .val (.int v3), .val (.int w9), .val (.ref (CA i11)), .val (.int (q12.1)), .val (.int (-1 : Int32)), sl8, sl9] [(.int (-1 : Int32))])) (fun _ k => XS.iconst X13.here hx rfl (hb hby d8_52) k) ?_
          refine own_by (B := T13.setTop (mkF m 55 #[.val (.ref (A 0)), .val (.int ux), .val (.int v2), .val (.int v3), .val (.int w9), .val (.ref (CA i11)), .val (.int (q12.1)), .val (.int (-1 : Int32)), .val (.int (-1 : Int32)), sl9] [])) (fun _ k => XS.istore X13.here hx rfl (hb hby d8_53) rfl (l' := #[.val (.ref (A 0)), .val (.int ux), .val (.int v2), .val (.int v3), .val (.int w9), .val (.ref (CA i11)), .val (.int (q12.1)), .val (.int (-1 : Int32)), .val (.int (-1 : Int32)), sl9]) (XS.store1 (o := sl8) rfl One_sl8 rfl) k) ?_
          have hloop55 : ∀ (fuel : Nat) (v6 : Int32) (v7 : Int32) (v8 : Int32) (uh14 : own_S) (q14 : Int32 × Int32 × Int32 × own_S), own_augment_L55 CL fuel w9 Lc11 v6 v7 v8 uh14 = some q14 → ∀ (T1 : State) (lc1 : List Loc) (X1 : Stand p l e ({ frames := 1, cells := 0, slots := 0, locals := 15 } : Room) s m #[(.ref (A 0)), (.int ux)] below meth c T1 lc1 0 0) (N1 : Fr n0 lc1) (h1 : Heap) (e1 : T1.heap = h1) (P1 : own_PS Z h1 n0 A K zr zc CA CK CL uh14) (sl9 : Slot) (One_sl9 : One sl9), (∀ (T2 : State) (lc2 : List Loc) (X2 : Stand p l e ({ frames := 1, cells := 0, slots := 0, locals := 15 } : Room) s m #[(.ref (A 0)), (.int ux)] below meth c T2 lc2 0 0) (N2 : Fr n0 lc2) (h2 : Heap) (e2 : T2.heap = h2) (P2 : own_PS Z h2 n0 A K zr zc CA CK CL (q14.2.2.2)) (sl9 : Slot) (One_sl9 : One sl9), own_Go p.tables e below (own_K s below (own_QPr Z ru n0 A K zr zc CA CK CL) 0 0) (T2.setTop (mkF m 153 #[.val (.ref (A 0)), .val (.int ux), .val (.int v2), .val (.int v3), .val (.int w9), .val (.ref (CA i11)), .val (.int (q14.1)), .val (.int (q14.2.1)), .val (.int (q14.2.2.1)), sl9] []))) → own_Go p.tables e below (own_K s below (own_QPr Z ru n0 A K zr zc CA CK CL) 0 0) (T1.setTop (mkF m 55 #[.val (.ref (A 0)), .val (.int ux), .val (.int v2), .val (.int v3), .val (.int w9), .val (.ref (CA i11)), .val (.int v6), .val (.int v7), .val (.int v8), sl9] [])) := by
            intro fuel
            induction fuel with
            | zero => intro v6 v7 v8 uh14 q14 hF; cases hF
            | succ fuel ih =>
              intro v6 v7 v8 uh14 q14 hF T1 lc1 X1 N1 h1 e1 P1 sl9 One_sl9 kont
              rw [own_augment_L55] at hF
              refine own_by (B := T1.setTop (mkF m 57 #[.val (.ref (A 0)), .val (.int ux), .val (.int v2), .val (.int v3), .val (.int w9), .val (.ref (CA i11)), .val (.int v6), .val (.int v7), .val (.int v8), sl9] [(.int v7)])) (fun _ k => XS.iload X1.here hx rfl (hb hby d8_55) rfl  k) ?_
              refine own_by (B := T1.setTop (mkF m 58 #[.val (.ref (A 0)), .val (.int ux), .val (.int v2), .val (.int v3), .val (.int w9), .val (.ref (CA i11)), .val (.int v6), .val (.int v7), .val (.int v8), sl9] [(.int (-1 : Int32)), (.int v7)])) (fun _ k => XS.iconst X1.here hx rfl (hb hby d8_57) k) ?_
              by_cases hc15 : v7 = (-1 : Int32)
              · rw [if_pos hc15] at hF
                refine own_by (B := T1.setTop (mkF m 61 #[.val (.ref (A 0)), .val (.int ux), .val (.int v2), .val (.int v3), .val (.int w9), .val (.ref (CA i11)), .val (.int v6), .val (.int v7), .val (.int v8), sl9] [])) (fun _ k => XS.icmpNo X1.here hx rfl (hb hby d8_58) rfl (XT.ii_ne_f hc15) k) ?_
                refine own_by (B := T1.setTop (mkF m 63 #[.val (.ref (A 0)), .val (.int ux), .val (.int v2), .val (.int v3), .val (.int w9), .val (.ref (CA i11)), .val (.int v6), .val (.int v7), .val (.int v8), sl9] [(.int v6)])) (fun _ k => XS.iload X1.here hx rfl (hb hby d8_61) rfl  k) ?_
                refine own_by (B := T1.setTop (mkF m 65 #[.val (.ref (A 0)), .val (.int ux), .val (.int v2), .val (.int v3), .val (.int w9), .val (.ref (CA i11)), .val (.int v6), .val (.int v7), .val (.int v8), sl9] [(.ref (CA i11)), (.int v6)])) (fun _ k => XS.aload X1.here hx rfl (hb hby d8_63) rfl rfl  k) ?_
                refine own_by (B := T1.setTop (mkF m 66 #[.val (.ref (A 0)), .val (.int ux), .val (.int v2), .val (.int v3), .val (.int w9), .val (.ref (CA i11)), .val (.int v6), .val (.int v7), .val (.int v8), sl9] [(.int (Int32.ofNat Lc11.length)), (.int v6)])) (own_lenI X1 hx hZ e1 ((own_PS_cc P1) _ _ hLc11).1 (g := (mkF m 65 #[.val (.ref (A 0)), .val (.int ux), .val (.int v2), .val (.int v3), .val (.int w9), .val (.ref (CA i11)), .val (.int v6), .val (.int v7), .val (.int v8), sl9] [(.ref (CA i11)), (.int v6)])) rfl rfl (hb hby d8_65)) ?_
                by_cases hc16 : v6 < (Int32.ofNat Lc11.length)
                · rw [if_pos hc16] at hF
                  refine own_by (B := T1.setTop (mkF m 69 #[.val (.ref (A 0)), .val (.int ux), .val (.int v2), .val (.int v3), .val (.int w9), .val (.ref (CA i11)), .val (.int v6), .val (.int v7), .val (.int v8), sl9] [])) (fun _ k => XS.icmpNo X1.here hx rfl (hb hby d8_66) rfl (XT.ii_ge_f hc16) k) ?_
                  refine own_by (B := T1.setTop (mkF m 71 #[.val (.ref (A 0)), .val (.int ux), .val (.int v2), .val (.int v3), .val (.int w9), .val (.ref (CA i11)), .val (.int v6), .val (.int v7), .val (.int v8), sl9] [(.ref (CA i11))])) (fun _ k => XS.aload X1.here hx rfl (hb hby d8_69) rfl rfl  k) ?_
                  refine own_by (B := T1.setTop (mkF m 73 #[.val (.ref (A 0)), .val (.int ux), .val (.int v2), .val (.int v3), .val (.int w9), .val (.ref (CA i11)), .val (.int v6), .val (.int v7), .val (.int v8), sl9] [(.int v6), (.ref (CA i11))])) (fun _ k => XS.iload X1.here hx rfl (hb hby d8_71) rfl  k) ?_
                  refine own_by (B := T1.setTop (mkF m 76 #[.val (.ref (A 0)), .val (.int ux), .val (.int v2), .val (.int v3), .val (.int w9), .val (.ref (CA i11)), .val (.int (v6 + (1 : Int32))), .val (.int v7), .val (.int v8), sl9] [(.int v6), (.ref (CA i11))])) (fun _ k => XS.iinc X1.here hx rfl (hb hby d8_73) rfl (l' := #[.val (.ref (A 0)), .val (.int ux), .val (.int v2), .val (.int v3), .val (.int w9), .val (.ref (CA i11)), .val (.int (v6 + (1 : Int32))), .val (.int v7), .val (.int v8), sl9]) rfl k) ?_
                  obtain ⟨w17, hw17, hF⟩ := own_bind hF
                  refine own_by (B := T1.setTop (mkF m 77 #[.val (.ref (A 0)), .val (.int ux), .val (.int v2), .val (.int v3), .val (.int w9), .val (.ref (CA i11)), .val (.int (v6 + (1 : Int32))), .val (.int v7), .val (.int v8), sl9] [(.int w17)])) (own_ldI X1 hx hZ e1 ((own_PS_cc P1) _ _ hLc11).1 hw17 (g := (mkF m 76 #[.val (.ref (A 0)), .val (.int ux), .val (.int v2), .val (.int v3), .val (.int w9), .val (.ref (CA i11)), .val (.int (v6 + (1 : Int32))), .val (.int v7), .val (.int v8), sl9] [(.int v6), (.ref (CA i11))])) rfl rfl (hb hby d8_76)) ?_
                  refine own_by (B := T1.setTop (mkF m 79 #[.val (.ref (A 0)), .val (.int ux), .val (.int v2), .val (.int v3), .val (.int w9), .val (.ref (CA i11)), .val (.int (v6 + (1 : Int32))), .val (.int v7), .val (.int v8), .val (.int w17)] [])) (fun _ k => XS.istore X1.here hx rfl (hb hby d8_77) rfl (l' := #[.val (.ref (A 0)), .val (.int ux), .val (.int v2), .val (.int v3), .val (.int w9), .val (.ref (CA i11)), .val (.int (v6 + (1 : Int32))), .val (.int v7), .val (.int v8), .val (.int w17)]) (XS.store1 (o := sl9) rfl One_sl9 rfl) k) ?_
                  refine own_by (B := T1.setTop (mkF m 80 #[.val (.ref (A 0)), .val (.int ux), .val (.int v2), .val (.int v3), .val (.int w9), .val (.ref (CA i11)), .val (.int (v6 + (1 : Int32))), .val (.int v7), .val (.int v8), .val (.int w17)] [(.ref (A 0))])) (fun _ k => XS.aloadN X1.here hx rfl (hb hby d8_79) rfl rfl  k) ?_
                  obtain ⟨T18, X18, e18, st18⟩ := getF X1 hx hZ hown (host := "") (Or.inl (hw _ (List.mem_of_getElem? (i := 28) rfl))) Via.refl e1 (own_PS_f6 P1) (g := (mkF m 80 #[.val (.ref (A 0)), .val (.int ux), .val (.int v2), .val (.int v3), .val (.int w9), .val (.ref (CA i11)), .val (.int (v6 + (1 : Int32))), .val (.int v7), .val (.int v8), .val (.int w17)] [(.ref (A 0))])) rfl rfl (hb hby d8_80)
                  refine own_by (B := T18.setTop (mkF m 83 #[.val (.ref (A 0)), .val (.int ux), .val (.int v2), .val (.int v3), .val (.int w9), .val (.ref (CA i11)), .val (.int (v6 + (1 : Int32))), .val (.int v7), .val (.int v8), .val (.int w17)] [(.ref (A 6))])) st18 ?_
                  refine own_by (B := T18.setTop (mkF m 85 #[.val (.ref (A 0)), .val (.int ux), .val (.int v2), .val (.int v3), .val (.int w9), .val (.ref (CA i11)), .val (.int (v6 + (1 : Int32))), .val (.int v7), .val (.int v8), .val (.int w17)] [(.int w17), (.ref (A 6))])) (fun _ k => XS.iload X18.here hx rfl (hb hby d8_83) rfl  k) ?_
                  obtain ⟨w19, hw19, hF⟩ := own_bind hF
                  refine own_by (B := T18.setTop (mkF m 86 #[.val (.ref (A 0)), .val (.int ux), .val (.int v2), .val (.int v3), .val (.int w9), .val (.ref (CA i11)), .val (.int (v6 + (1 : Int32))), .val (.int v7), .val (.int v8), .val (.int w17)] [(.long w19)])) (own_ldJ X18 hx hZ e18 (own_PS_v6 P1) hw19 (g := (mkF m 85 #[.val (.ref (A 0)), .val (.int ux), .val (.int v2), .val (.int v3), .val (.int w9), .val (.ref (CA i11)), .val (.int (v6 + (1 : Int32))), .val (.int v7), .val (.int v8), .val (.int w17)] [(.int w17), (.ref (A 6))])) rfl rfl (hb hby d8_85)) ?_
                  refine own_by (B := T18.setTop (mkF m 87 #[.val (.ref (A 0)), .val (.int ux), .val (.int v2), .val (.int v3), .val (.int w9), .val (.ref (CA i11)), .val (.int (v6 + (1 : Int32))), .val (.int v7), .val (.int v8), .val (.int w17)] [(.ref (A 0)), (.long w19)])) (fun _ k => XS.aloadN X18.here hx rfl (hb hby d8_86) rfl rfl  k) ?_
                  obtain ⟨T20, X20, e20, st20⟩ := getF X18 hx hZ hown (host := "") (Or.inl (hw _ (List.mem_of_getElem? (i := 64) rfl))) Via.refl e18 (own_PS_fse P1) (g := (mkF m 87 #[.val (.ref (A 0)), .val (.int ux), .val (.int v2), .val (.int v3), .val (.int w9), .val (.ref (CA i11)), .val (.int (v6 + (1 : Int32))), .val (.int v7), .val (.int v8), .val (.int w17)] [(.ref (A 0)), (.long w19)])) rfl rfl (hb hby d8_87)
                  refine own_by (B := T20.setTop (mkF m 90 #[.val (.ref (A 0)), .val (.int ux), .val (.int v2), .val (.int v3), .val (.int w9), .val (.ref (CA i11)), .val (.int (v6 + (1 : Int32))), .val (.int v7), .val (.int v8), .val (.int w17)] [(.long (own_se uh14)), (.long w19)])) st20 ?_
                  refine own_by (B := T20.setTop (mkF m 91 #[.val (.ref (A 0)), .val (.int ux), .val (.int v2), .val (.int v3), .val (.int w9), .val (.ref (CA i11)), .val (.int (v6 + (1 : Int32))), .val (.int v7), .val (.int v8), .val (.int w17)] [(.int (XT.cmpL w19 (own_se uh14)))])) (fun _ k => XT.lcmp X20.here hx rfl (hb hby d8_90) rfl k) ?_
                  by_cases hc21 : w19 = (own_se uh14)
                  · rw [if_pos hc21] at hF
                    refine own_by (B := T20.setTop (mkF m 150 #[.val (.ref (A 0)), .val (.int ux), .val (.int v2), .val (.int v3), .val (.int w9), .val (.ref (CA i11)), .val (.int (v6 + (1 : Int32))), .val (.int v7), .val (.int v8), .val (.int w17)] [])) (fun _ k => XS.ifYes X20.here hx rfl (pc0 := 91) (pc' := 150) rfl (hb hby d8_91) rfl (XT.ll_eq_t hc21) (by decide) (by decide) k) ?_
                    refine own_by (B := T20.setTop (mkF m 55 #[.val (.ref (A 0)), .val (.int ux), .val (.int v2), .val (.int v3), .val (.int w9), .val (.ref (CA i11)), .val (.int (v6 + (1 : Int32))), .val (.int v7), .val (.int v8), .val (.int w17)] [])) (fun _ k => XS.goto X20.here hx rfl (pc0 := 150) (pc' := 55) rfl (hb hby d8_150) (by decide) (by decide) k) ?_
                    exact ih (v6 + (1 : Int32)) v7 v8 uh14 _ hF _ _ X20 N1 _ e20 P1 (.val (.int w17)) (One.val rfl) kont
                  · rw [if_neg hc21] at hF
                    refine own_by (B := T20.setTop (mkF m 94 #[.val (.ref (A 0)), .val (.int ux), .val (.int v2), .val (.int v3), .val (.int w9), .val (.ref (CA i11)), .val (.int (v6 + (1 : Int32))), .val (.int v7), .val (.int v8), .val (.int w17)] [])) (fun _ k => XS.ifNo X20.here hx rfl (hb hby d8_91) rfl (XT.ll_eq_f hc21) k) ?_
                    refine own_by (B := T20.setTop (mkF m 95 #[.val (.ref (A 0)), .val (.int ux), .val (.int v2), .val (.int v3), .val (.int w9), .val (.ref (CA i11)), .val (.int (v6 + (1 : Int32))), .val (.int v7), .val (.int v8), .val (.int w17)] [(.ref (A 0))])) (fun _ k => XS.aloadN X20.here hx rfl (hb hby d8_94) rfl rfl  k) ?_
                    obtain ⟨T22, X22, e22, st22⟩ := getF X20 hx hZ hown (host := "") (Or.inl (hw _ (List.mem_of_getElem? (i := 28) rfl))) Via.refl e20 (own_PS_f6 P1) (g := (mkF m 95 #[.val (.ref (A 0)), .val (.int ux), .val (.int v2), .val (.int v3), .val (.int w9), .val (.ref (CA i11)), .val (.int (v6 + (1 : Int32))), .val (.int v7), .val (.int v8), .val (.int w17)] [(.ref (A 0))])) rfl rfl (hb hby d8_95)
                    refine own_by (B := T22.setTop (mkF m 98 #[.val (.ref (A 0)), .val (.int ux), .val (.int v2), .val (.int v3), .val (.int w9), .val (.ref (CA i11)), .val (.int (v6 + (1 : Int32))), .val (.int v7), .val (.int v8), .val (.int w17)] [(.ref (A 6))])) st22 ?_
                    refine own_by (B := T22.setTop (mkF m 100 #[.val (.ref (A 0)), .val (.int ux), .val (.int v2), .val (.int v3), .val (.int w9), .val (.ref (CA i11)), .val (.int (v6 + (1 : Int32))), .val (.int v7), .val (.int v8), .val (.int w17)] [(.int w17), (.ref (A 6))])) (fun _ k => XS.iload X22.here hx rfl (hb hby d8_98) rfl  k) ?_
                    refine own_by (B := T22.setTop (mkF m 101 #[.val (.ref (A 0)), .val (.int ux), .val (.int v2), .val (.int v3), .val (.int w9), .val (.ref (CA i11)), .val (.int (v6 + (1 : Int32))), .val (.int v7), .val (.int v8), .val (.int w17)] [(.ref (A 0)), (.int w17), (.ref (A 6))])) (fun _ k => XS.aloadN X22.here hx rfl (hb hby d8_100) rfl rfl  k) ?_
                    obtain ⟨T23, X23, e23, st23⟩ := getF X22 hx hZ hown (host := "") (Or.inl (hw _ (List.mem_of_getElem? (i := 64) rfl))) Via.refl e22 (own_PS_fse P1) (g := (mkF m 101 #[.val (.ref (A 0)), .val (.int ux), .val (.int v2), .val (.int v3), .val (.int w9), .val (.ref (CA i11)), .val (.int (v6 + (1 : Int32))), .val (.int v7), .val (.int v8), .val (.int w17)] [(.ref (A 0)), (.int w17), (.ref (A 6))])) rfl rfl (hb hby d8_101)
                    refine own_by (B := T23.setTop (mkF m 104 #[.val (.ref (A 0)), .val (.int ux), .val (.int v2), .val (.int v3), .val (.int w9), .val (.ref (CA i11)), .val (.int (v6 + (1 : Int32))), .val (.int v7), .val (.int v8), .val (.int w17)] [(.long (own_se uh14)), (.int w17), (.ref (A 6))])) st23 ?_
                    obtain ⟨u24, hu24, hF⟩ := own_bind hF
                    obtain ⟨zl24, hz24, hu24'⟩ := Option.map_eq_some_iff.mp hu24
                    obtain ⟨T24, h24, X24, e24, W24, V24, st24⟩ := own_stJ X23 hx hZ e23 (own_PS_v6 P1) hz24 (g := (mkF m 104 #[.val (.ref (A 0)), .val (.int ux), .val (.int v2), .val (.int v3), .val (.int w9), .val (.ref (CA i11)), .val (.int (v6 + (1 : Int32))), .val (.int v7), .val (.int v8), .val (.int w17)] [(.long (own_se uh14)), (.int w17), (.ref (A 6))])) rfl rfl (hb hby d8_104)
                    have P24 : own_PS Z h24 n0 A K zr zc CA CK CL u24 := hu24' ▸ own_w_vi P1 W24 V24
                    have N24 := Fr.snoc X24 N1 (own_PS_gn P1).2.2.2.2.2.2.1
                    refine own_by (B := T24.setTop (mkF m 105 #[.val (.ref (A 0)), .val (.int ux), .val (.int v2), .val (.int v3), .val (.int w9), .val (.ref (CA i11)), .val (.int (v6 + (1 : Int32))), .val (.int v7), .val (.int v8), .val (.int w17)] [])) st24 ?_
                    refine own_by (B := T24.setTop (mkF m 106 #[.val (.ref (A 0)), .val (.int ux), .val (.int v2), .val (.int v3), .val (.int w9), .val (.ref (CA i11)), .val (.int (v6 + (1 : Int32))), .val (.int v7), .val (.int v8), .val (.int w17)] [(.ref (A 0))])) (fun _ k => XS.aloadN X24.here hx rfl (hb hby d8_105) rfl rfl  k) ?_
                    obtain ⟨T25, X25, e25, st25⟩ := getF X24 hx hZ hown (host := "") (Or.inl (hw _ (List.mem_of_getElem? (i := 22) rfl))) Via.refl e24 (own_PS_f4 P24) (g := (mkF m 106 #[.val (.ref (A 0)), .val (.int ux), .val (.int v2), .val (.int v3), .val (.int w9), .val (.ref (CA i11)), .val (.int (v6 + (1 : Int32))), .val (.int v7), .val (.int v8), .val (.int w17)] [(.ref (A 0))])) rfl rfl (hb hby d8_106)
                    refine own_by (B := T25.setTop (mkF m 109 #[.val (.ref (A 0)), .val (.int ux), .val (.int v2), .val (.int v3), .val (.int w9), .val (.ref (CA i11)), .val (.int (v6 + (1 : Int32))), .val (.int v7), .val (.int v8), .val (.int w17)] [(.ref (A 4))])) st25 ?_
                    refine own_by (B := T25.setTop (mkF m 111 #[.val (.ref (A 0)), .val (.int ux), .val (.int v2), .val (.int v3), .val (.int w9), .val (.ref (CA i11)), .val (.int (v6 + (1 : Int32))), .val (.int v7), .val (.int v8), .val (.int w17)] [(.int w17), (.ref (A 4))])) (fun _ k => XS.iload X25.here hx rfl (hb hby d8_109) rfl  k) ?_
                    obtain ⟨w26, hw26, hF⟩ := own_bind hF
                    refine own_by (B := T25.setTop (mkF m 112 #[.val (.ref (A 0)), .val (.int ux), .val (.int v2), .val (.int v3), .val (.int w9), .val (.ref (CA i11)), .val (.int (v6 + (1 : Int32))), .val (.int v7), .val (.int v8), .val (.int w17)] [(.int w26)])) (own_ldI X25 hx hZ e25 (own_PS_v4 P24) hw26 (g := (mkF m 111 #[.val (.ref (A 0)), .val (.int ux), .val (.int v2), .val (.int v3), .val (.int w9), .val (.ref (CA i11)), .val (.int (v6 + (1 : Int32))), .val (.int v7), .val (.int v8), .val (.int w17)] [(.int w17), (.ref (A 4))])) rfl rfl (hb hby d8_111)) ?_
                    refine own_by (B := T25.setTop (mkF m 114 #[.val (.ref (A 0)), .val (.int ux), .val (.int v2), .val (.int v3), .val (.int w9), .val (.ref (CA i11)), .val (.int (v6 + (1 : Int32))), .val (.int v7), .val (.int w26), .val (.int w17)] [])) (fun _ k => XS.istore X25.here hx rfl (hb hby d8_112) rfl (l' := #[.val (.ref (A 0)), .val (.int ux), .val (.int v2), .val (.int v3), .val (.int w9), .val (.ref (CA i11)), .val (.int (v6 + (1 : Int32))), .val (.int v7), .val (.int w26), .val (.int w17)]) rfl k) ?_
                    refine own_by (B := T25.setTop (mkF m 116 #[.val (.ref (A 0)), .val (.int ux), .val (.int v2), .val (.int v3), .val (.int w9), .val (.ref (CA i11)), .val (.int (v6 + (1 : Int32))), .val (.int v7), .val (.int w26), .val (.int w17)] [(.int w26)])) (fun _ k => XS.iload X25.here hx rfl (hb hby d8_114) rfl  k) ?_
                    refine own_by (B := T25.setTop (mkF m 117 #[.val (.ref (A 0)), .val (.int ux), .val (.int v2), .val (.int v3), .val (.int w9), .val (.ref (CA i11)), .val (.int (v6 + (1 : Int32))), .val (.int v7), .val (.int w26), .val (.int w17)] [(.int (-1 : Int32)), (.int w26)])) (fun _ k => XS.iconst X25.here hx rfl (hb hby d8_116) k) ?_
                    by_cases hc27 : w26 = (-1 : Int32)
                    · rw [if_pos hc27] at hF
                      refine own_by (B := T25.setTop (mkF m 142 #[.val (.ref (A 0)), .val (.int ux), .val (.int v2), .val (.int v3), .val (.int w9), .val (.ref (CA i11)), .val (.int (v6 + (1 : Int32))), .val (.int v7), .val (.int w26), .val (.int w17)] [])) (fun _ k => XS.icmpYes X25.here hx rfl (pc0 := 117) (pc' := 142) rfl (hb hby d8_117) rfl (XT.ii_eq_t hc27) (by decide) (by decide) k) ?_
                      refine own_by (B := T25.setTop (mkF m 144 #[.val (.ref (A 0)), .val (.int ux), .val (.int v2), .val (.int v3), .val (.int w9), .val (.ref (CA i11)), .val (.int (v6 + (1 : Int32))), .val (.int v7), .val (.int w26), .val (.int w17)] [(.int w17)])) (fun _ k => XS.iload X25.here hx rfl (hb hby d8_142) rfl  k) ?_
                      refine own_by (B := T25.setTop (mkF m 148 #[.val (.ref (A 0)), .val (.int ux), .val (.int v2), .val (.int v3), .val (.int w9), .val (.ref (CA i11)), .val (.int (v6 + (1 : Int32))), .val (.int v7), .val (.int w26), .val (.int w17)] [(.int w17)])) (fun _ k => XS.goto X25.here hx rfl (pc0 := 144) (pc' := 148) rfl (hb hby d8_144) (by decide) (by decide) k) ?_
                      refine own_by (B := T25.setTop (mkF m 150 #[.val (.ref (A 0)), .val (.int ux), .val (.int v2), .val (.int v3), .val (.int w9), .val (.ref (CA i11)), .val (.int (v6 + (1 : Int32))), .val (.int w17), .val (.int w26), .val (.int w17)] [])) (fun _ k => XS.istore X25.here hx rfl (hb hby d8_148) rfl (l' := #[.val (.ref (A 0)), .val (.int ux), .val (.int v2), .val (.int v3), .val (.int w9), .val (.ref (CA i11)), .val (.int (v6 + (1 : Int32))), .val (.int w17), .val (.int w26), .val (.int w17)]) rfl k) ?_
                      refine own_by (B := T25.setTop (mkF m 55 #[.val (.ref (A 0)), .val (.int ux), .val (.int v2), .val (.int v3), .val (.int w9), .val (.ref (CA i11)), .val (.int (v6 + (1 : Int32))), .val (.int w17), .val (.int w26), .val (.int w17)] [])) (fun _ k => XS.goto X25.here hx rfl (pc0 := 150) (pc' := 55) rfl (hb hby d8_150) (by decide) (by decide) k) ?_
                      exact ih (v6 + (1 : Int32)) w17 w26 u24 _ hF _ _ X25 N24 _ e25 P24 (.val (.int w17)) (One.val rfl) kont
                    · rw [if_neg hc27] at hF
                      refine own_by (B := T25.setTop (mkF m 120 #[.val (.ref (A 0)), .val (.int ux), .val (.int v2), .val (.int v3), .val (.int w9), .val (.ref (CA i11)), .val (.int (v6 + (1 : Int32))), .val (.int v7), .val (.int w26), .val (.int w17)] [])) (fun _ k => XS.icmpNo X25.here hx rfl (hb hby d8_117) rfl (XT.ii_eq_f hc27) k) ?_
                      refine own_by (B := T25.setTop (mkF m 121 #[.val (.ref (A 0)), .val (.int ux), .val (.int v2), .val (.int v3), .val (.int w9), .val (.ref (CA i11)), .val (.int (v6 + (1 : Int32))), .val (.int v7), .val (.int w26), .val (.int w17)] [(.ref (A 0))])) (fun _ k => XS.aloadN X25.here hx rfl (hb hby d8_120) rfl rfl  k) ?_
                      obtain ⟨T28, X28, e28, st28⟩ := getF X25 hx hZ hown (host := "") (Or.inl (hw _ (List.mem_of_getElem? (i := 25) rfl))) Via.refl e25 (own_PS_f5 P24) (g := (mkF m 121 #[.val (.ref (A 0)), .val (.int ux), .val (.int v2), .val (.int v3), .val (.int w9), .val (.ref (CA i11)), .val (.int (v6 + (1 : Int32))), .val (.int v7), .val (.int w26), .val (.int w17)] [(.ref (A 0))])) rfl rfl (hb hby d8_121)
                      refine own_by (B := T28.setTop (mkF m 124 #[.val (.ref (A 0)), .val (.int ux), .val (.int v2), .val (.int v3), .val (.int w9), .val (.ref (CA i11)), .val (.int (v6 + (1 : Int32))), .val (.int v7), .val (.int w26), .val (.int w17)] [(.ref (A 5))])) st28 ?_
                      refine own_by (B := T28.setTop (mkF m 126 #[.val (.ref (A 0)), .val (.int ux), .val (.int v2), .val (.int v3), .val (.int w9), .val (.ref (CA i11)), .val (.int (v6 + (1 : Int32))), .val (.int v7), .val (.int w26), .val (.int w17)] [(.int w26), (.ref (A 5))])) (fun _ k => XS.iload X28.here hx rfl (hb hby d8_124) rfl  k) ?_
                      obtain ⟨w29, hw29, hF⟩ := own_bind hF
                      refine own_by (B := T28.setTop (mkF m 127 #[.val (.ref (A 0)), .val (.int ux), .val (.int v2), .val (.int v3), .val (.int w9), .val (.ref (CA i11)), .val (.int (v6 + (1 : Int32))), .val (.int v7), .val (.int w26), .val (.int w17)] [(.int w29)])) (own_ldZ X28 hx hZ e28 (own_PS_v5 P24) hw29 (g := (mkF m 126 #[.val (.ref (A 0)), .val (.int ux), .val (.int v2), .val (.int v3), .val (.int w9), .val (.ref (CA i11)), .val (.int (v6 + (1 : Int32))), .val (.int v7), .val (.int w26), .val (.int w17)] [(.int w26), (.ref (A 5))])) rfl rfl (hb hby d8_126)) ?_
                      by_cases hc30 : w29 = (0 : Int32)
                      · rw [if_pos hc30] at hF
                        refine own_by (B := T28.setTop (mkF m 130 #[.val (.ref (A 0)), .val (.int ux), .val (.int v2), .val (.int v3), .val (.int w9), .val (.ref (CA i11)), .val (.int (v6 + (1 : Int32))), .val (.int v7), .val (.int w26), .val (.int w17)] [])) (fun _ k => XS.ifNo X28.here hx rfl (hb hby d8_127) rfl (XT.i0_ne_f hc30) k) ?_
                        refine own_by (B := T28.setTop (mkF m 131 #[.val (.ref (A 0)), .val (.int ux), .val (.int v2), .val (.int v3), .val (.int w9), .val (.ref (CA i11)), .val (.int (v6 + (1 : Int32))), .val (.int v7), .val (.int w26), .val (.int w17)] [(.ref (A 0))])) (fun _ k => XS.aloadN X28.here hx rfl (hb hby d8_130) rfl rfl  k) ?_
                        obtain ⟨T31, X31, e31, st31⟩ := getF X28 hx hZ hown (host := "") (Or.inl (hw _ (List.mem_of_getElem? (i := 18) rfl))) Via.refl e28 (own_PS_f2 P24) (g := (mkF m 131 #[.val (.ref (A 0)), .val (.int ux), .val (.int v2), .val (.int v3), .val (.int w9), .val (.ref (CA i11)), .val (.int (v6 + (1 : Int32))), .val (.int v7), .val (.int w26), .val (.int w17)] [(.ref (A 0))])) rfl rfl (hb hby d8_131)
                        refine own_by (B := T31.setTop (mkF m 134 #[.val (.ref (A 0)), .val (.int ux), .val (.int v2), .val (.int v3), .val (.int w9), .val (.ref (CA i11)), .val (.int (v6 + (1 : Int32))), .val (.int v7), .val (.int w26), .val (.int w17)] [(.ref (A 2))])) st31 ?_
                        refine own_by (B := T31.setTop (mkF m 136 #[.val (.ref (A 0)), .val (.int ux), .val (.int v2), .val (.int v3), .val (.int w9), .val (.ref (CA i11)), .val (.int (v6 + (1 : Int32))), .val (.int v7), .val (.int w26), .val (.int w17)] [(.int w26), (.ref (A 2))])) (fun _ k => XS.iload X31.here hx rfl (hb hby d8_134) rfl  k) ?_
                        obtain ⟨w32, hw32, hF⟩ := own_bind hF
                        refine own_by (B := T31.setTop (mkF m 137 #[.val (.ref (A 0)), .val (.int ux), .val (.int v2), .val (.int v3), .val (.int w9), .val (.ref (CA i11)), .val (.int (v6 + (1 : Int32))), .val (.int v7), .val (.int w26), .val (.int w17)] [(.int w32)])) (own_ldI X31 hx hZ e31 (own_PS_v2 P24) hw32 (g := (mkF m 136 #[.val (.ref (A 0)), .val (.int ux), .val (.int v2), .val (.int v3), .val (.int w9), .val (.ref (CA i11)), .val (.int (v6 + (1 : Int32))), .val (.int v7), .val (.int w26), .val (.int w17)] [(.int w26), (.ref (A 2))])) rfl rfl (hb hby d8_136)) ?_
                        refine own_by (B := T31.setTop (mkF m 139 #[.val (.ref (A 0)), .val (.int ux), .val (.int v2), .val (.int v3), .val (.int w9), .val (.ref (CA i11)), .val (.int (v6 + (1 : Int32))), .val (.int v7), .val (.int w26), .val (.int w17)] [(.int w9), (.int w32)])) (fun _ k => XS.iload X31.here hx rfl (hb hby d8_137) rfl  k) ?_
                        by_cases hc33 : w32 = w9
                        · rw [if_pos hc33] at hF
                          refine own_by (B := T31.setTop (mkF m 147 #[.val (.ref (A 0)), .val (.int ux), .val (.int v2), .val (.int v3), .val (.int w9), .val (.ref (CA i11)), .val (.int (v6 + (1 : Int32))), .val (.int v7), .val (.int w26), .val (.int w17)] [])) (fun _ k => XS.icmpYes X31.here hx rfl (pc0 := 139) (pc' := 147) rfl (hb hby d8_139) rfl (XT.ii_eq_t hc33) (by decide) (by decide) k) ?_
                          refine own_by (B := T31.setTop (mkF m 148 #[.val (.ref (A 0)), .val (.int ux), .val (.int v2), .val (.int v3), .val (.int w9), .val (.ref (CA i11)), .val (.int (v6 + (1 : Int32))), .val (.int v7), .val (.int w26), .val (.int w17)] [(.int (-1 : Int32))])) (fun _ k => XS.iconst X31.here hx rfl (hb hby d8_147) k) ?_
                          refine own_by (B := T31.setTop (mkF m 150 #[.val (.ref (A 0)), .val (.int ux), .val (.int v2), .val (.int v3), .val (.int w9), .val (.ref (CA i11)), .val (.int (v6 + (1 : Int32))), .val (.int (-1 : Int32)), .val (.int w26), .val (.int w17)] [])) (fun _ k => XS.istore X31.here hx rfl (hb hby d8_148) rfl (l' := #[.val (.ref (A 0)), .val (.int ux), .val (.int v2), .val (.int v3), .val (.int w9), .val (.ref (CA i11)), .val (.int (v6 + (1 : Int32))), .val (.int (-1 : Int32)), .val (.int w26), .val (.int w17)]) rfl k) ?_
                          refine own_by (B := T31.setTop (mkF m 55 #[.val (.ref (A 0)), .val (.int ux), .val (.int v2), .val (.int v3), .val (.int w9), .val (.ref (CA i11)), .val (.int (v6 + (1 : Int32))), .val (.int (-1 : Int32)), .val (.int w26), .val (.int w17)] [])) (fun _ k => XS.goto X31.here hx rfl (pc0 := 150) (pc' := 55) rfl (hb hby d8_150) (by decide) (by decide) k) ?_
                          exact ih (v6 + (1 : Int32)) (-1 : Int32) w26 u24 _ hF _ _ X31 N24 _ e31 P24 (.val (.int w17)) (One.val rfl) kont
                        · rw [if_neg hc33] at hF
                          refine own_by (B := T31.setTop (mkF m 142 #[.val (.ref (A 0)), .val (.int ux), .val (.int v2), .val (.int v3), .val (.int w9), .val (.ref (CA i11)), .val (.int (v6 + (1 : Int32))), .val (.int v7), .val (.int w26), .val (.int w17)] [])) (fun _ k => XS.icmpNo X31.here hx rfl (hb hby d8_139) rfl (XT.ii_eq_f hc33) k) ?_
                          refine own_by (B := T31.setTop (mkF m 144 #[.val (.ref (A 0)), .val (.int ux), .val (.int v2), .val (.int v3), .val (.int w9), .val (.ref (CA i11)), .val (.int (v6 + (1 : Int32))), .val (.int v7), .val (.int w26), .val (.int w17)] [(.int w17)])) (fun _ k => XS.iload X31.here hx rfl (hb hby d8_142) rfl  k) ?_
                          refine own_by (B := T31.setTop (mkF m 148 #[.val (.ref (A 0)), .val (.int ux), .val (.int v2), .val (.int v3), .val (.int w9), .val (.ref (CA i11)), .val (.int (v6 + (1 : Int32))), .val (.int v7), .val (.int w26), .val (.int w17)] [(.int w17)])) (fun _ k => XS.goto X31.here hx rfl (pc0 := 144) (pc' := 148) rfl (hb hby d8_144) (by decide) (by decide) k) ?_
                          refine own_by (B := T31.setTop (mkF m 150 #[.val (.ref (A 0)), .val (.int ux), .val (.int v2), .val (.int v3), .val (.int w9), .val (.ref (CA i11)), .val (.int (v6 + (1 : Int32))), .val (.int w17), .val (.int w26), .val (.int w17)] [])) (fun _ k => XS.istore X31.here hx rfl (hb hby d8_148) rfl (l' := #[.val (.ref (A 0)), .val (.int ux), .val (.int v2), .val (.int v3), .val (.int w9), .val (.ref (CA i11)), .val (.int (v6 + (1 : Int32))), .val (.int w17), .val (.int w26), .val (.int w17)]) rfl k) ?_
                          refine own_by (B := T31.setTop (mkF m 55 #[.val (.ref (A 0)), .val (.int ux), .val (.int v2), .val (.int v3), .val (.int w9), .val (.ref (CA i11)), .val (.int (v6 + (1 : Int32))), .val (.int w17), .val (.int w26), .val (.int w17)] [])) (fun _ k => XS.goto X31.here hx rfl (pc0 := 150) (pc' := 55) rfl (hb hby d8_150) (by decide) (by decide) k) ?_
                          exact ih (v6 + (1 : Int32)) w17 w26 u24 _ hF _ _ X31 N24 _ e31 P24 (.val (.int w17)) (One.val rfl) kont
                      · rw [if_neg hc30] at hF
                        refine own_by (B := T28.setTop (mkF m 147 #[.val (.ref (A 0)), .val (.int ux), .val (.int v2), .val (.int v3), .val (.int w9), .val (.ref (CA i11)), .val (.int (v6 + (1 : Int32))), .val (.int v7), .val (.int w26), .val (.int w17)] [])) (fun _ k => XS.ifYes X28.here hx rfl (pc0 := 127) (pc' := 147) rfl (hb hby d8_127) rfl (XT.i0_ne_t hc30) (by decide) (by decide) k) ?_
                        refine own_by (B := T28.setTop (mkF m 148 #[.val (.ref (A 0)), .val (.int ux), .val (.int v2), .val (.int v3), .val (.int w9), .val (.ref (CA i11)), .val (.int (v6 + (1 : Int32))), .val (.int v7), .val (.int w26), .val (.int w17)] [(.int (-1 : Int32))])) (fun _ k => XS.iconst X28.here hx rfl (hb hby d8_147) k) ?_
                        refine own_by (B := T28.setTop (mkF m 150 #[.val (.ref (A 0)), .val (.int ux), .val (.int v2), .val (.int v3), .val (.int w9), .val (.ref (CA i11)), .val (.int (v6 + (1 : Int32))), .val (.int (-1 : Int32)), .val (.int w26), .val (.int w17)] [])) (fun _ k => XS.istore X28.here hx rfl (hb hby d8_148) rfl (l' := #[.val (.ref (A 0)), .val (.int ux), .val (.int v2), .val (.int v3), .val (.int w9), .val (.ref (CA i11)), .val (.int (v6 + (1 : Int32))), .val (.int (-1 : Int32)), .val (.int w26), .val (.int w17)]) rfl k) ?_
                        refine own_by (B := T28.setTop (mkF m 55 #[.val (.ref (A 0)), .val (.int ux), .val (.int v2), .val (.int v3), .val (.int w9), .val (.ref (CA i11)), .val (.int (v6 + (1 : Int32))), .val (.int (-1 : Int32)), .val (.int w26), .val (.int w17)] [])) (fun _ k => XS.goto X28.here hx rfl (pc0 := 150) (pc' := 55) rfl (hb hby d8_150) (by decide) (by decide) k) ?_
                        exact ih (v6 + (1 : Int32)) (-1 : Int32) w26 u24 _ hF _ _ X28 N24 _ e28 P24 (.val (.int w17)) (One.val rfl) kont
                · rw [if_neg hc16] at hF
                  refine own_by (B := T1.setTop (mkF m 153 #[.val (.ref (A 0)), .val (.int ux), .val (.int v2), .val (.int v3), .val (.int w9), .val (.ref (CA i11)), .val (.int v6), .val (.int v7), .val (.int v8), sl9] [])) (fun _ k => XS.icmpYes X1.here hx rfl (pc0 := 66) (pc' := 153) rfl (hb hby d8_66) rfl (XT.ii_ge_t hc16) (by decide) (by decide) k) ?_
                  obtain rfl := Option.some.inj hF
                  exact kont _ _ X1 N1 _ e1 P1 (sl9) One_sl9
              · rw [if_neg hc15] at hF
                refine own_by (B := T1.setTop (mkF m 153 #[.val (.ref (A 0)), .val (.int ux), .val (.int v2), .val (.int v3), .val (.int w9), .val (.ref (CA i11)), .val (.int v6), .val (.int v7), .val (.int v8), sl9] [])) (fun _ k => XS.icmpYes X1.here hx rfl (pc0 := 58) (pc' := 153) rfl (hb hby d8_58) rfl (XT.ii_ne_t hc15) (by decide) (by decide) k) ?_
                obtain rfl := Option.some.inj hF
                exact kont _ _ X1 N1 _ e1 P1 (sl9) One_sl9
          obtain ⟨q34, hq34, hF⟩ := own_bind hF
          refine hloop55 8 (q12.1) (-1 : Int32) (-1 : Int32) (q12.2) _ hq34 _ _ X13 N13 _ e13 PC13 (sl9) One_sl9 ?_
          intro T35 lc35 X35 N35 h35 e35 P35 sl9 One_sl9
          refine own_by (B := T35.setTop (mkF m 154 #[.val (.ref (A 0)), .val (.int ux), .val (.int v2), .val (.int v3), .val (.int w9), .val (.ref (CA i11)), .val (.int (q34.1)), .val (.int (q34.2.1)), .val (.int (q34.2.2.1)), sl9] [(.ref (A 0))])) (fun _ k => XS.aloadN X35.here hx rfl (hb hby d8_153) rfl rfl  k) ?_
          obtain ⟨T36, X36, e36, st36⟩ := getF X35 hx hZ hown (host := "") (Or.inl (hw _ (List.mem_of_getElem? (i := 38) rfl))) Via.refl e35 (own_PS_f11 P35) (g := (mkF m 154 #[.val (.ref (A 0)), .val (.int ux), .val (.int v2), .val (.int v3), .val (.int w9), .val (.ref (CA i11)), .val (.int (q34.1)), .val (.int (q34.2.1)), .val (.int (q34.2.2.1)), sl9] [(.ref (A 0))])) rfl rfl (hb hby d8_154)
          refine own_by (B := T36.setTop (mkF m 157 #[.val (.ref (A 0)), .val (.int ux), .val (.int v2), .val (.int v3), .val (.int w9), .val (.ref (CA i11)), .val (.int (q34.1)), .val (.int (q34.2.1)), .val (.int (q34.2.2.1)), sl9] [(.ref (A 11))])) st36 ?_
          refine own_by (B := T36.setTop (mkF m 159 #[.val (.ref (A 0)), .val (.int ux), .val (.int v2), .val (.int v3), .val (.int w9), .val (.ref (CA i11)), .val (.int (q34.1)), .val (.int (q34.2.1)), .val (.int (q34.2.2.1)), sl9] [(.int w9), (.ref (A 11))])) (fun _ k => XS.iload X36.here hx rfl (hb hby d8_157) rfl  k) ?_
          refine own_by (B := T36.setTop (mkF m 161 #[.val (.ref (A 0)), .val (.int ux), .val (.int v2), .val (.int v3), .val (.int w9), .val (.ref (CA i11)), .val (.int (q34.1)), .val (.int (q34.2.1)), .val (.int (q34.2.2.1)), sl9] [(.int (q34.1)), (.int w9), (.ref (A 11))])) (fun _ k => XS.iload X36.here hx rfl (hb hby d8_159) rfl  k) ?_
          obtain ⟨u37, hu37, hF⟩ := own_bind hF
          obtain ⟨zl37, hz37, hu37'⟩ := Option.map_eq_some_iff.mp hu37
          obtain ⟨T37, h37, X37, e37, W37, V37, st37⟩ := own_stI X36 hx hZ e36 (own_PS_v11 P35) hz37 (g := (mkF m 161 #[.val (.ref (A 0)), .val (.int ux), .val (.int v2), .val (.int v3), .val (.int w9), .val (.ref (CA i11)), .val (.int (q34.1)), .val (.int (q34.2.1)), .val (.int (q34.2.2.1)), sl9] [(.int (q34.1)), (.int w9), (.ref (A 11))])) rfl rfl (hb hby d8_161)
          have P37 : own_PS Z h37 n0 A K zr zc CA CK CL u37 := hu37' ▸ own_w_nx P35 W37 V37
          have N37 := Fr.snoc X37 N35 (own_PS_gn P35).2.2.2.2.2.2.2.2.2.2.2.1
          refine own_by (B := T37.setTop (mkF m 162 #[.val (.ref (A 0)), .val (.int ux), .val (.int v2), .val (.int v3), .val (.int w9), .val (.ref (CA i11)), .val (.int (q34.1)), .val (.int (q34.2.1)), .val (.int (q34.2.2.1)), sl9] [])) st37 ?_
          refine own_by (B := T37.setTop (mkF m 164 #[.val (.ref (A 0)), .val (.int ux), .val (.int v2), .val (.int v3), .val (.int w9), .val (.ref (CA i11)), .val (.int (q34.1)), .val (.int (q34.2.1)), .val (.int (q34.2.2.1)), sl9] [(.int (q34.2.1))])) (fun _ k => XS.iload X37.here hx rfl (hb hby d8_162) rfl  k) ?_
          refine own_by (B := T37.setTop (mkF m 165 #[.val (.ref (A 0)), .val (.int ux), .val (.int v2), .val (.int v3), .val (.int w9), .val (.ref (CA i11)), .val (.int (q34.1)), .val (.int (q34.2.1)), .val (.int (q34.2.2.1)), sl9] [(.int (-1 : Int32)), (.int (q34.2.1))])) (fun _ k => XS.iconst X37.here hx rfl (hb hby d8_164) k) ?_
          by_cases hc38 : (q34.2.1) = (-1 : Int32)
          · rw [if_pos hc38] at hF
            refine own_by (B := T37.setTop (mkF m 168 #[.val (.ref (A 0)), .val (.int ux), .val (.int v2), .val (.int v3), .val (.int w9), .val (.ref (CA i11)), .val (.int (q34.1)), .val (.int (q34.2.1)), .val (.int (q34.2.2.1)), sl9] [])) (fun _ k => XS.icmpNo X37.here hx rfl (hb hby d8_165) rfl (XT.ii_ne_f hc38) k) ?_
            refine own_by (B := T37.setTop (mkF m 171 #[.val (.ref (A 0)), .val (.int ux), .val (.int (v2 + (-1 : Int32))), .val (.int v3), .val (.int w9), .val (.ref (CA i11)), .val (.int (q34.1)), .val (.int (q34.2.1)), .val (.int (q34.2.2.1)), sl9] [])) (fun _ k => XS.iinc X37.here hx rfl (hb hby d8_168) rfl (l' := #[.val (.ref (A 0)), .val (.int ux), .val (.int (v2 + (-1 : Int32))), .val (.int v3), .val (.int w9), .val (.ref (CA i11)), .val (.int (q34.1)), .val (.int (q34.2.1)), .val (.int (q34.2.2.1)), sl9]) rfl k) ?_
            refine own_by (B := T37.setTop (mkF m 209 #[.val (.ref (A 0)), .val (.int ux), .val (.int (v2 + (-1 : Int32))), .val (.int v3), .val (.int w9), .val (.ref (CA i11)), .val (.int (q34.1)), .val (.int (q34.2.1)), .val (.int (q34.2.2.1)), sl9] [])) (fun _ k => XS.goto X37.here hx rfl (pc0 := 171) (pc' := 209) rfl (hb hby d8_171) (by decide) (by decide) k) ?_
            refine own_by (B := T37.setTop (mkF m 11 #[.val (.ref (A 0)), .val (.int ux), .val (.int (v2 + (-1 : Int32))), .val (.int v3), .val (.int w9), .val (.ref (CA i11)), .val (.int (q34.1)), .val (.int (q34.2.1)), .val (.int (q34.2.2.1)), sl9] [])) (fun _ k => XS.goto X37.here hx rfl (pc0 := 209) (pc' := 11) rfl (hb hby d8_209) (by decide) (by decide) k) ?_
            exact ih (v2 + (-1 : Int32)) v3 u37 _ hF _ _ X37 N37 _ e37 P37 (.val (.int w9)) (One.val rfl) (.val (.ref (CA i11))) (One.val rfl) (.val (.int (q34.1))) (One.val rfl) (.val (.int (q34.2.1))) (One.val rfl) (.val (.int (q34.2.2.1))) (One.val rfl) (sl9) One_sl9 kont
          · rw [if_neg hc38] at hF
            refine own_by (B := T37.setTop (mkF m 174 #[.val (.ref (A 0)), .val (.int ux), .val (.int v2), .val (.int v3), .val (.int w9), .val (.ref (CA i11)), .val (.int (q34.1)), .val (.int (q34.2.1)), .val (.int (q34.2.2.1)), sl9] [])) (fun _ k => XS.icmpYes X37.here hx rfl (pc0 := 165) (pc' := 174) rfl (hb hby d8_165) rfl (XT.ii_ne_t hc38) (by decide) (by decide) k) ?_
            refine own_by (B := T37.setTop (mkF m 175 #[.val (.ref (A 0)), .val (.int ux), .val (.int v2), .val (.int v3), .val (.int w9), .val (.ref (CA i11)), .val (.int (q34.1)), .val (.int (q34.2.1)), .val (.int (q34.2.2.1)), sl9] [(.ref (A 0))])) (fun _ k => XS.aloadN X37.here hx rfl (hb hby d8_174) rfl rfl  k) ?_
            obtain ⟨T39, X39, e39, st39⟩ := getF X37 hx hZ hown (host := "") (Or.inl (hw _ (List.mem_of_getElem? (i := 32) rfl))) Via.refl e37 (own_PS_f8 P37) (g := (mkF m 175 #[.val (.ref (A 0)), .val (.int ux), .val (.int v2), .val (.int v3), .val (.int w9), .val (.ref (CA i11)), .val (.int (q34.1)), .val (.int (q34.2.1)), .val (.int (q34.2.2.1)), sl9] [(.ref (A 0))])) rfl rfl (hb hby d8_175)
            refine own_by (B := T39.setTop (mkF m 178 #[.val (.ref (A 0)), .val (.int ux), .val (.int v2), .val (.int v3), .val (.int w9), .val (.ref (CA i11)), .val (.int (q34.1)), .val (.int (q34.2.1)), .val (.int (q34.2.2.1)), sl9] [(.ref (A 8))])) st39 ?_
            refine own_by (B := T39.setTop (mkF m 179 #[.val (.ref (A 0)), .val (.int ux), .val (.int v2), .val (.int v3), .val (.int w9), .val (.ref (CA i11)), .val (.int (q34.1)), .val (.int (q34.2.1)), .val (.int (q34.2.2.1)), sl9] [(.int v2), (.ref (A 8))])) (fun _ k => XS.iloadN X39.here hx rfl (hb hby d8_178) rfl  k) ?_
            refine own_by (B := T39.setTop (mkF m 181 #[.val (.ref (A 0)), .val (.int ux), .val (.int v2), .val (.int v3), .val (.int w9), .val (.ref (CA i11)), .val (.int (q34.1)), .val (.int (q34.2.1)), .val (.int (q34.2.2.1)), sl9] [(.int (q34.2.1)), (.int v2), (.ref (A 8))])) (fun _ k => XS.iload X39.here hx rfl (hb hby d8_179) rfl  k) ?_
            obtain ⟨u40, hu40, hF⟩ := own_bind hF
            obtain ⟨zl40, hz40, hu40'⟩ := Option.map_eq_some_iff.mp hu40
            obtain ⟨T40, h40, X40, e40, W40, V40, st40⟩ := own_stI X39 hx hZ e39 (own_PS_v8 P37) hz40 (g := (mkF m 181 #[.val (.ref (A 0)), .val (.int ux), .val (.int v2), .val (.int v3), .val (.int w9), .val (.ref (CA i11)), .val (.int (q34.1)), .val (.int (q34.2.1)), .val (.int (q34.2.2.1)), sl9] [(.int (q34.2.1)), (.int v2), (.ref (A 8))])) rfl rfl (hb hby d8_181)
            have P40 : own_PS Z h40 n0 A K zr zc CA CK CL u40 := hu40' ▸ own_w_va P37 W40 V40
            have N40 := Fr.snoc X40 N37 (own_PS_gn P37).2.2.2.2.2.2.2.2.1
            refine own_by (B := T40.setTop (mkF m 182 #[.val (.ref (A 0)), .val (.int ux), .val (.int v2), .val (.int v3), .val (.int w9), .val (.ref (CA i11)), .val (.int (q34.1)), .val (.int (q34.2.1)), .val (.int (q34.2.2.1)), sl9] [])) st40 ?_
            refine own_by (B := T40.setTop (mkF m 184 #[.val (.ref (A 0)), .val (.int ux), .val (.int v2), .val (.int v3), .val (.int w9), .val (.ref (CA i11)), .val (.int (q34.1)), .val (.int (q34.2.1)), .val (.int (q34.2.2.1)), sl9] [(.int (q34.2.2.1))])) (fun _ k => XS.iload X40.here hx rfl (hb hby d8_182) rfl  k) ?_
            refine own_by (B := T40.setTop (mkF m 185 #[.val (.ref (A 0)), .val (.int ux), .val (.int v2), .val (.int v3), .val (.int w9), .val (.ref (CA i11)), .val (.int (q34.1)), .val (.int (q34.2.1)), .val (.int (q34.2.2.1)), sl9] [(.int (-1 : Int32)), (.int (q34.2.2.1))])) (fun _ k => XS.iconst X40.here hx rfl (hb hby d8_184) k) ?_
            by_cases hc41 : (q34.2.2.1) = (-1 : Int32)
            · rw [if_pos hc41] at hF
              refine own_by (B := T40.setTop (mkF m 188 #[.val (.ref (A 0)), .val (.int ux), .val (.int v2), .val (.int v3), .val (.int w9), .val (.ref (CA i11)), .val (.int (q34.1)), .val (.int (q34.2.1)), .val (.int (q34.2.2.1)), sl9] [])) (fun _ k => XS.icmpNo X40.here hx rfl (hb hby d8_185) rfl (XT.ii_ne_f hc41) k) ?_
              refine own_by (B := T40.setTop (mkF m 189 #[.val (.ref (A 0)), .val (.int ux), .val (.int v2), .val (.int v3), .val (.int w9), .val (.ref (CA i11)), .val (.int (q34.1)), .val (.int (q34.2.1)), .val (.int (q34.2.2.1)), sl9] [(.int (1 : Int32))])) (fun _ k => XS.iconst X40.here hx rfl (hb hby d8_188) k) ?_
              refine own_by (B := T40.setTop (mkF m 193 #[.val (.ref (A 0)), .val (.int ux), .val (.int v2), .val (.int v3), .val (.int w9), .val (.ref (CA i11)), .val (.int (q34.1)), .val (.int (q34.2.1)), .val (.int (q34.2.2.1)), sl9] [(.int (1 : Int32))])) (fun _ k => XS.goto X40.here hx rfl (pc0 := 189) (pc' := 193) rfl (hb hby d8_189) (by decide) (by decide) k) ?_
              refine own_by (B := T40.setTop (mkF m 194 #[.val (.ref (A 0)), .val (.int ux), .val (.int v2), .val (.int (1 : Int32)), .val (.int w9), .val (.ref (CA i11)), .val (.int (q34.1)), .val (.int (q34.2.1)), .val (.int (q34.2.2.1)), sl9] [])) (fun _ k => XS.istoreN X40.here hx rfl (hb hby d8_193) rfl (l' := #[.val (.ref (A 0)), .val (.int ux), .val (.int v2), .val (.int (1 : Int32)), .val (.int w9), .val (.ref (CA i11)), .val (.int (q34.1)), .val (.int (q34.2.1)), .val (.int (q34.2.2.1)), sl9]) rfl k) ?_
              refine own_by (B := T40.setTop (mkF m 195 #[.val (.ref (A 0)), .val (.int ux), .val (.int v2), .val (.int (1 : Int32)), .val (.int w9), .val (.ref (CA i11)), .val (.int (q34.1)), .val (.int (q34.2.1)), .val (.int (q34.2.2.1)), sl9] [(.int (1 : Int32))])) (fun _ k => XS.iloadN X40.here hx rfl (hb hby d8_194) rfl  k) ?_
              refine own_by (B := T40.setTop (mkF m 209 #[.val (.ref (A 0)), .val (.int ux), .val (.int v2), .val (.int (1 : Int32)), .val (.int w9), .val (.ref (CA i11)), .val (.int (q34.1)), .val (.int (q34.2.1)), .val (.int (q34.2.2.1)), sl9] [])) (fun _ k => XS.ifYes X40.here hx rfl (pc0 := 195) (pc' := 209) rfl (hb hby d8_195) rfl (XT.i0_ne_t (by decide)) (by decide) (by decide) k) ?_
              refine own_by (B := T40.setTop (mkF m 11 #[.val (.ref (A 0)), .val (.int ux), .val (.int v2), .val (.int (1 : Int32)), .val (.int w9), .val (.ref (CA i11)), .val (.int (q34.1)), .val (.int (q34.2.1)), .val (.int (q34.2.2.1)), sl9] [])) (fun _ k => XS.goto X40.here hx rfl (pc0 := 209) (pc' := 11) rfl (hb hby d8_209) (by decide) (by decide) k) ?_
              exact ih v2 (1 : Int32) u40 _ hF _ _ X40 N40 _ e40 P40 (.val (.int w9)) (One.val rfl) (.val (.ref (CA i11))) (One.val rfl) (.val (.int (q34.1))) (One.val rfl) (.val (.int (q34.2.1))) (One.val rfl) (.val (.int (q34.2.2.1))) (One.val rfl) (sl9) One_sl9 kont
            · rw [if_neg hc41] at hF
              refine own_by (B := T40.setTop (mkF m 192 #[.val (.ref (A 0)), .val (.int ux), .val (.int v2), .val (.int v3), .val (.int w9), .val (.ref (CA i11)), .val (.int (q34.1)), .val (.int (q34.2.1)), .val (.int (q34.2.2.1)), sl9] [])) (fun _ k => XS.icmpYes X40.here hx rfl (pc0 := 185) (pc' := 192) rfl (hb hby d8_185) rfl (XT.ii_ne_t hc41) (by decide) (by decide) k) ?_
              refine own_by (B := T40.setTop (mkF m 193 #[.val (.ref (A 0)), .val (.int ux), .val (.int v2), .val (.int v3), .val (.int w9), .val (.ref (CA i11)), .val (.int (q34.1)), .val (.int (q34.2.1)), .val (.int (q34.2.2.1)), sl9] [(.int (0 : Int32))])) (fun _ k => XS.iconst X40.here hx rfl (hb hby d8_192) k) ?_
              refine own_by (B := T40.setTop (mkF m 194 #[.val (.ref (A 0)), .val (.int ux), .val (.int v2), .val (.int (0 : Int32)), .val (.int w9), .val (.ref (CA i11)), .val (.int (q34.1)), .val (.int (q34.2.1)), .val (.int (q34.2.2.1)), sl9] [])) (fun _ k => XS.istoreN X40.here hx rfl (hb hby d8_193) rfl (l' := #[.val (.ref (A 0)), .val (.int ux), .val (.int v2), .val (.int (0 : Int32)), .val (.int w9), .val (.ref (CA i11)), .val (.int (q34.1)), .val (.int (q34.2.1)), .val (.int (q34.2.2.1)), sl9]) rfl k) ?_
              refine own_by (B := T40.setTop (mkF m 195 #[.val (.ref (A 0)), .val (.int ux), .val (.int v2), .val (.int (0 : Int32)), .val (.int w9), .val (.ref (CA i11)), .val (.int (q34.1)), .val (.int (q34.2.1)), .val (.int (q34.2.2.1)), sl9] [(.int (0 : Int32))])) (fun _ k => XS.iloadN X40.here hx rfl (hb hby d8_194) rfl  k) ?_
              refine own_by (B := T40.setTop (mkF m 198 #[.val (.ref (A 0)), .val (.int ux), .val (.int v2), .val (.int (0 : Int32)), .val (.int w9), .val (.ref (CA i11)), .val (.int (q34.1)), .val (.int (q34.2.1)), .val (.int (q34.2.2.1)), sl9] [])) (fun _ k => XS.ifNo X40.here hx rfl (hb hby d8_195) rfl (XT.i0_ne_f (by decide)) k) ?_
              refine own_by (B := T40.setTop (mkF m 201 #[.val (.ref (A 0)), .val (.int ux), .val (.int (v2 + (1 : Int32))), .val (.int (0 : Int32)), .val (.int w9), .val (.ref (CA i11)), .val (.int (q34.1)), .val (.int (q34.2.1)), .val (.int (q34.2.2.1)), sl9] [])) (fun _ k => XS.iinc X40.here hx rfl (hb hby d8_198) rfl (l' := #[.val (.ref (A 0)), .val (.int ux), .val (.int (v2 + (1 : Int32))), .val (.int (0 : Int32)), .val (.int w9), .val (.ref (CA i11)), .val (.int (q34.1)), .val (.int (q34.2.1)), .val (.int (q34.2.2.1)), sl9]) rfl k) ?_
              refine own_by (B := T40.setTop (mkF m 202 #[.val (.ref (A 0)), .val (.int ux), .val (.int (v2 + (1 : Int32))), .val (.int (0 : Int32)), .val (.int w9), .val (.ref (CA i11)), .val (.int (q34.1)), .val (.int (q34.2.1)), .val (.int (q34.2.2.1)), sl9] [(.ref (A 0))])) (fun _ k => XS.aloadN X40.here hx rfl (hb hby d8_201) rfl rfl  k) ?_
              obtain ⟨T42, X42, e42, st42⟩ := getF X40 hx hZ hown (host := "") (Or.inl (hw _ (List.mem_of_getElem? (i := 30) rfl))) Via.refl e40 (own_PS_f7 P40) (g := (mkF m 202 #[.val (.ref (A 0)), .val (.int ux), .val (.int (v2 + (1 : Int32))), .val (.int (0 : Int32)), .val (.int w9), .val (.ref (CA i11)), .val (.int (q34.1)), .val (.int (q34.2.1)), .val (.int (q34.2.2.1)), sl9] [(.ref (A 0))])) rfl rfl (hb hby d8_202)
              refine own_by (B := T42.setTop (mkF m 205 #[.val (.ref (A 0)), .val (.int ux), .val (.int (v2 + (1 : Int32))), .val (.int (0 : Int32)), .val (.int w9), .val (.ref (CA i11)), .val (.int (q34.1)), .val (.int (q34.2.1)), .val (.int (q34.2.2.1)), sl9] [(.ref (A 7))])) st42 ?_
              refine own_by (B := T42.setTop (mkF m 206 #[.val (.ref (A 0)), .val (.int ux), .val (.int (v2 + (1 : Int32))), .val (.int (0 : Int32)), .val (.int w9), .val (.ref (CA i11)), .val (.int (q34.1)), .val (.int (q34.2.1)), .val (.int (q34.2.2.1)), sl9] [(.int (v2 + (1 : Int32))), (.ref (A 7))])) (fun _ k => XS.iloadN X42.here hx rfl (hb hby d8_205) rfl  k) ?_
              refine own_by (B := T42.setTop (mkF m 208 #[.val (.ref (A 0)), .val (.int ux), .val (.int (v2 + (1 : Int32))), .val (.int (0 : Int32)), .val (.int w9), .val (.ref (CA i11)), .val (.int (q34.1)), .val (.int (q34.2.1)), .val (.int (q34.2.2.1)), sl9] [(.int (q34.2.2.1)), (.int (v2 + (1 : Int32))), (.ref (A 7))])) (fun _ k => XS.iload X42.here hx rfl (hb hby d8_206) rfl  k) ?_
              obtain ⟨u43, hu43, hF⟩ := own_bind hF
              obtain ⟨zl43, hz43, hu43'⟩ := Option.map_eq_some_iff.mp hu43
              obtain ⟨T43, h43, X43, e43, W43, V43, st43⟩ := own_stI X42 hx hZ e42 (own_PS_v7 P40) hz43 (g := (mkF m 208 #[.val (.ref (A 0)), .val (.int ux), .val (.int (v2 + (1 : Int32))), .val (.int (0 : Int32)), .val (.int w9), .val (.ref (CA i11)), .val (.int (q34.1)), .val (.int (q34.2.1)), .val (.int (q34.2.2.1)), sl9] [(.int (q34.2.2.1)), (.int (v2 + (1 : Int32))), (.ref (A 7))])) rfl rfl (hb hby d8_208)
              have P43 : own_PS Z h43 n0 A K zr zc CA CK CL u43 := hu43' ▸ own_w_pt P40 W43 V43
              have N43 := Fr.snoc X43 N40 (own_PS_gn P40).2.2.2.2.2.2.2.1
              refine own_by (B := T43.setTop (mkF m 209 #[.val (.ref (A 0)), .val (.int ux), .val (.int (v2 + (1 : Int32))), .val (.int (0 : Int32)), .val (.int w9), .val (.ref (CA i11)), .val (.int (q34.1)), .val (.int (q34.2.1)), .val (.int (q34.2.2.1)), sl9] [])) st43 ?_
              refine own_by (B := T43.setTop (mkF m 11 #[.val (.ref (A 0)), .val (.int ux), .val (.int (v2 + (1 : Int32))), .val (.int (0 : Int32)), .val (.int w9), .val (.ref (CA i11)), .val (.int (q34.1)), .val (.int (q34.2.1)), .val (.int (q34.2.2.1)), sl9] [])) (fun _ k => XS.goto X43.here hx rfl (pc0 := 209) (pc' := 11) rfl (hb hby d8_209) (by decide) (by decide) k) ?_
              exact ih (v2 + (1 : Int32)) (0 : Int32) u43 _ hF _ _ X43 N43 _ e43 P43 (.val (.int w9)) (One.val rfl) (.val (.ref (CA i11))) (One.val rfl) (.val (.int (q34.1))) (One.val rfl) (.val (.int (q34.2.1))) (One.val rfl) (.val (.int (q34.2.2.1))) (One.val rfl) (sl9) One_sl9 kont
        · rw [if_neg hc5] at hF
          refine own_by (B := T1.setTop (mkF m 212 #[.val (.ref (A 0)), .val (.int ux), .val (.int v2), .val (.int v3), sl4, sl5, sl6, sl7, sl8, sl9] [])) (fun _ k => XS.ifYes X1.here hx rfl (pc0 := 16) (pc' := 212) rfl (hb hby d8_16) rfl (XT.i0_ne_t hc5) (by decide) (by decide) k) ?_
          obtain rfl := Option.some.inj hF
          exact kont _ _ X1 N1 _ e1 P1 (sl4) One_sl4 (sl5) One_sl5 (sl6) One_sl6 (sl7) One_sl7 (sl8) One_sl8 (sl9) One_sl9
  obtain ⟨q44, hq44, hF⟩ := own_bind hF
  refine hloop11 16 (0 : Int32) (0 : Int32) u2 _ hq44 _ _ X2 N2 _ e2 P2 (.unset) One.u (.unset) One.u (.unset) One.u (.unset) One.u (.unset) One.u (.unset) One.u ?_
  intro T45 lc45 X45 N45 h45 e45 P45 sl4 One_sl4 sl5 One_sl5 sl6 One_sl6 sl7 One_sl7 sl8 One_sl8 sl9 One_sl9
  refine own_by (B := T45.setTop (mkF m 213 #[.val (.ref (A 0)), .val (.int ux), .val (.int (q44.1)), .val (.int (q44.2.1)), sl4, sl5, sl6, sl7, sl8, sl9] [(.int (q44.1))])) (fun _ k => XS.iloadN X45.here hx rfl (hb hby d8_212) rfl  k) ?_
  refine own_by (B := T45.setTop (mkF m 215 #[.val (.ref (A 0)), .val (.int ux), .val (.int (q44.1)), .val (.int (q44.2.1)), .val (.int (q44.1)), sl5, sl6, sl7, sl8, sl9] [])) (fun _ k => XS.istore X45.here hx rfl (hb hby d8_213) rfl (l' := #[.val (.ref (A 0)), .val (.int ux), .val (.int (q44.1)), .val (.int (q44.2.1)), .val (.int (q44.1)), sl5, sl6, sl7, sl8, sl9]) (XS.store1 (o := sl4) rfl One_sl4 rfl) k) ?_
  have hloop215 : ∀ (fuel : Nat) (v4 : Int32) (uh46 : own_S) (q46 : Int32 × own_S), own_augment_L215 CL fuel  v4 uh46 = some q46 → ∀ (T1 : State) (lc1 : List Loc) (X1 : Stand p l e ({ frames := 1, cells := 0, slots := 0, locals := 15 } : Room) s m #[(.ref (A 0)), (.int ux)] below meth c T1 lc1 0 0) (N1 : Fr n0 lc1) (h1 : Heap) (e1 : T1.heap = h1) (P1 : own_PS Z h1 n0 A K zr zc CA CK CL uh46), (∀ (T2 : State) (lc2 : List Loc) (X2 : Stand p l e ({ frames := 1, cells := 0, slots := 0, locals := 15 } : Room) s m #[(.ref (A 0)), (.int ux)] below meth c T2 lc2 0 0) (N2 : Fr n0 lc2) (h2 : Heap) (e2 : T2.heap = h2) (P2 : own_PS Z h2 n0 A K zr zc CA CK CL (q46.2)), own_Go p.tables e below (own_K s below (own_QPr Z ru n0 A K zr zc CA CK CL) 0 0) (T2.setTop (mkF m 244 #[.val (.ref (A 0)), .val (.int ux), .val (.int (q44.1)), .val (.int (q44.2.1)), .val (.int (q46.1)), sl5, sl6, sl7, sl8, sl9] []))) → own_Go p.tables e below (own_K s below (own_QPr Z ru n0 A K zr zc CA CK CL) 0 0) (T1.setTop (mkF m 215 #[.val (.ref (A 0)), .val (.int ux), .val (.int (q44.1)), .val (.int (q44.2.1)), .val (.int v4), sl5, sl6, sl7, sl8, sl9] [])) := by
    intro fuel
    induction fuel with
    | zero => intro v4 uh46 q46 hF; cases hF
    | succ fuel ih =>
      intro v4 uh46 q46 hF T1 lc1 X1 N1 h1 e1 P1 kont
      rw [own_augment_L215] at hF
      refine own_by (B := T1.setTop (mkF m 217 #[.val (.ref (A 0)), .val (.int ux), .val (.int (q44.1)), .val (.int (q44.2.1)), .val (.int v4), sl5, sl6, sl7, sl8, sl9] [(.int v4)])) (fun _ k => XS.iload X1.here hx rfl (hb hby d8_215) rfl  k) ?_
      by_cases hc47 : v4 < (0 : Int32)
      · rw [if_pos hc47] at hF
        refine own_by (B := T1.setTop (mkF m 244 #[.val (.ref (A 0)), .val (.int ux), .val (.int (q44.1)), .val (.int (q44.2.1)), .val (.int v4), sl5, sl6, sl7, sl8, sl9] [])) (fun _ k => XS.ifYes X1.here hx rfl (pc0 := 217) (pc' := 244) rfl (hb hby d8_217) rfl (XT.i0_lt_t hc47) (by decide) (by decide) k) ?_
        obtain rfl := Option.some.inj hF
        exact kont _ _ X1 N1 _ e1 P1
      · rw [if_neg hc47] at hF
        refine own_by (B := T1.setTop (mkF m 220 #[.val (.ref (A 0)), .val (.int ux), .val (.int (q44.1)), .val (.int (q44.2.1)), .val (.int v4), sl5, sl6, sl7, sl8, sl9] [])) (fun _ k => XS.ifNo X1.here hx rfl (hb hby d8_217) rfl (XT.i0_lt_f hc47) k) ?_
        refine own_by (B := T1.setTop (mkF m 221 #[.val (.ref (A 0)), .val (.int ux), .val (.int (q44.1)), .val (.int (q44.2.1)), .val (.int v4), sl5, sl6, sl7, sl8, sl9] [(.ref (A 0))])) (fun _ k => XS.aloadN X1.here hx rfl (hb hby d8_220) rfl rfl  k) ?_
        refine own_by (B := T1.setTop (mkF m 222 #[.val (.ref (A 0)), .val (.int ux), .val (.int (q44.1)), .val (.int (q44.2.1)), .val (.int v4), sl5, sl6, sl7, sl8, sl9] [(.ref (A 0)), (.ref (A 0))])) (fun _ k => XS.aloadN X1.here hx rfl (hb hby d8_221) rfl rfl  k) ?_
        obtain ⟨T48, X48, e48, st48⟩ := getF X1 hx hZ hown (host := "") (Or.inl (hw _ (List.mem_of_getElem? (i := 30) rfl))) Via.refl e1 (own_PS_f7 P1) (g := (mkF m 222 #[.val (.ref (A 0)), .val (.int ux), .val (.int (q44.1)), .val (.int (q44.2.1)), .val (.int v4), sl5, sl6, sl7, sl8, sl9] [(.ref (A 0)), (.ref (A 0))])) rfl rfl (hb hby d8_222)
        refine own_by (B := T48.setTop (mkF m 225 #[.val (.ref (A 0)), .val (.int ux), .val (.int (q44.1)), .val (.int (q44.2.1)), .val (.int v4), sl5, sl6, sl7, sl8, sl9] [(.ref (A 7)), (.ref (A 0))])) st48 ?_
        refine own_by (B := T48.setTop (mkF m 227 #[.val (.ref (A 0)), .val (.int ux), .val (.int (q44.1)), .val (.int (q44.2.1)), .val (.int v4), sl5, sl6, sl7, sl8, sl9] [(.int v4), (.ref (A 7)), (.ref (A 0))])) (fun _ k => XS.iload X48.here hx rfl (hb hby d8_225) rfl  k) ?_
        obtain ⟨w49, hw49, hF⟩ := own_bind hF
        refine own_by (B := T48.setTop (mkF m 228 #[.val (.ref (A 0)), .val (.int ux), .val (.int (q44.1)), .val (.int (q44.2.1)), .val (.int v4), sl5, sl6, sl7, sl8, sl9] [(.int w49), (.ref (A 0))])) (own_ldI X48 hx hZ e48 (own_PS_v7 P1) hw49 (g := (mkF m 227 #[.val (.ref (A 0)), .val (.int ux), .val (.int (q44.1)), .val (.int (q44.2.1)), .val (.int v4), sl5, sl6, sl7, sl8, sl9] [(.int v4), (.ref (A 7)), (.ref (A 0))])) rfl rfl (hb hby d8_227)) ?_
        refine own_by (B := T48.setTop (mkF m 229 #[.val (.ref (A 0)), .val (.int ux), .val (.int (q44.1)), .val (.int (q44.2.1)), .val (.int v4), sl5, sl6, sl7, sl8, sl9] [(.ref (A 0)), (.int w49), (.ref (A 0))])) (fun _ k => XS.aloadN X48.here hx rfl (hb hby d8_228) rfl rfl  k) ?_
        obtain ⟨T50, X50, e50, st50⟩ := getF X48 hx hZ hown (host := "") (Or.inl (hw _ (List.mem_of_getElem? (i := 32) rfl))) Via.refl e48 (own_PS_f8 P1) (g := (mkF m 229 #[.val (.ref (A 0)), .val (.int ux), .val (.int (q44.1)), .val (.int (q44.2.1)), .val (.int v4), sl5, sl6, sl7, sl8, sl9] [(.ref (A 0)), (.int w49), (.ref (A 0))])) rfl rfl (hb hby d8_229)
        refine own_by (B := T50.setTop (mkF m 232 #[.val (.ref (A 0)), .val (.int ux), .val (.int (q44.1)), .val (.int (q44.2.1)), .val (.int v4), sl5, sl6, sl7, sl8, sl9] [(.ref (A 8)), (.int w49), (.ref (A 0))])) st50 ?_
        refine own_by (B := T50.setTop (mkF m 234 #[.val (.ref (A 0)), .val (.int ux), .val (.int (q44.1)), .val (.int (q44.2.1)), .val (.int v4), sl5, sl6, sl7, sl8, sl9] [(.int v4), (.ref (A 8)), (.int w49), (.ref (A 0))])) (fun _ k => XS.iload X50.here hx rfl (hb hby d8_232) rfl  k) ?_
        obtain ⟨w51, hw51, hF⟩ := own_bind hF
        refine own_by (B := T50.setTop (mkF m 235 #[.val (.ref (A 0)), .val (.int ux), .val (.int (q44.1)), .val (.int (q44.2.1)), .val (.int v4), sl5, sl6, sl7, sl8, sl9] [(.int w51), (.int w49), (.ref (A 0))])) (own_ldI X50 hx hZ e50 (own_PS_v8 P1) hw51 (g := (mkF m 234 #[.val (.ref (A 0)), .val (.int ux), .val (.int (q44.1)), .val (.int (q44.2.1)), .val (.int v4), sl5, sl6, sl7, sl8, sl9] [(.int v4), (.ref (A 8)), (.int w49), (.ref (A 0))])) rfl rfl (hb hby d8_234)) ?_
        obtain ⟨q52, hq52, hF⟩ := own_bind hF
        obtain ⟨cq53, qa53, qc53⟩ := Exa.cell (own_PS_E P1)
        obtain ⟨_, _, ⟨T53, L53, k53, n53⟩, -, X53, ⟨Lc53, hQ53, l53, y53, z53⟩, st53⟩ := X50.privateBack hx (y := (⟨"com/example/document_pattern_rules/documentpatternrules/pattern/Pairing", "hold", "(II)V"⟩ : MethodName)) hown (mvT hZ (hw _ (List.mem_of_getElem? (i := 74) rfl))) (mvT hZ (hw _ (List.mem_of_getElem? (i := 75) rfl))) (mvT hZ (own_selpriv (y := (⟨"com/example/document_pattern_rules/documentpatternrules/pattern/Pairing", "hold", "(II)V"⟩ : MethodName)) (hw _ (List.mem_of_getElem? (i := 6) rfl)) (hw _ (List.mem_of_getElem? (i := 76) rfl)) (hw _ (List.mem_of_getElem? (i := 75) rfl)) (by decide))) (Cond.privateMethod_at (mvP hZ (hw _ (List.mem_of_getElem? (i := 76) rfl)) (args := #[]))) (mvT hZ (hw _ (List.mem_of_getElem? (i := 77) rfl))) (by decide) (backOf (W := 0) (rm_hold l Z a0 hw [] A K zr zc CA CK CL uh46 _ w49 w51 h1 n0 (Nat.le_trans (own_PS_gn P1).1 (Nat.le_of_lt (own_PS_E P1).lt)) P1 hq52) hZ (hw _ (List.mem_of_getElem? (i := 77) rfl)) (hw _ (List.mem_of_getElem? (i := 7) rfl)) (by decide) (by decide)) (g := (mkF m 235 #[.val (.ref (A 0)), .val (.int ux), .val (.int (q44.1)), .val (.int (q44.2.1)), .val (.int v4), sl5, sl6, sl7, sl8, sl9] [(.int w51), (.int w49), (.ref (A 0))])) rfl (by rw [hml]; rfl) (Steps.refl _) (a := (A 0)) (by rw [e50]; exact qa53) qc53 (argsL := [(.int w49), (.int w51)]) (rest := []) (lenOf pd_8__II_V rfl) rfl (by show 2 * 0 + _ ≤ _; exact Nat.le_of_eq rfl) (hb hby d8_235) (fun _ _ => ⟨rfl, e50, (by decide : 0 + 0 ≤ _), (by decide : 0 + 0 ≤ _)⟩)
        dsimp only [Pt.U, Pt.locs, Pt.cells, Pt.slots] at X53 l53 y53 z53 st53 hQ53
        subst l53 y53 z53
        obtain ⟨rfl, NC53, PC53⟩ := hQ53
        refine own_by (B := T53.setTop (mkF m 238 #[.val (.ref (A 0)), .val (.int ux), .val (.int (q44.1)), .val (.int (q44.2.1)), .val (.int v4), sl5, sl6, sl7, sl8, sl9] [])) (fun _ k => st53.trans k) ?_
        obtain ⟨h53, e53⟩ : ∃ z, T53.heap = z := ⟨_, rfl⟩
        rw [e53] at PC53
        have N53 := Fr.app N1 NC53
        refine own_by (B := T53.setTop (mkF m 241 #[.val (.ref (A 0)), .val (.int ux), .val (.int (q44.1)), .val (.int (q44.2.1)), .val (.int (v4 + (-1 : Int32))), sl5, sl6, sl7, sl8, sl9] [])) (fun _ k => XS.iinc X53.here hx rfl (hb hby d8_238) rfl (l' := #[.val (.ref (A 0)), .val (.int ux), .val (.int (q44.1)), .val (.int (q44.2.1)), .val (.int (v4 + (-1 : Int32))), sl5, sl6, sl7, sl8, sl9]) rfl k) ?_
        refine own_by (B := T53.setTop (mkF m 215 #[.val (.ref (A 0)), .val (.int ux), .val (.int (q44.1)), .val (.int (q44.2.1)), .val (.int (v4 + (-1 : Int32))), sl5, sl6, sl7, sl8, sl9] [])) (fun _ k => XS.goto X53.here hx rfl (pc0 := 241) (pc' := 215) rfl (hb hby d8_241) (by decide) (by decide) k) ?_
        exact ih (v4 + (-1 : Int32)) q52 _ hF _ _ X53 N53 _ e53 PC53 kont
  obtain ⟨q54, hq54, hF⟩ := own_bind hF
  refine hloop215 8 (q44.1) (q44.2.2) _ hq54 _ _ X45 N45 _ e45 P45 ?_
  intro T55 lc55 X55 N55 h55 e55 P55
  refine own_by (B := T55.setTop (mkF m 245 #[.val (.ref (A 0)), .val (.int ux), .val (.int (q44.1)), .val (.int (q44.2.1)), .val (.int (q54.1)), sl5, sl6, sl7, sl8, sl9] [(.int (q44.2.1))])) (fun _ k => XS.iloadN X55.here hx rfl (hb hby d8_244) rfl  k) ?_
  obtain rfl := Option.some.inj hF
  exact own_retB X55 hx hrt hlk (hb hby d8_245) (by decide) (by decide) (by show own_QPr Z ((((q44.2.1) &&& (1 : Int32)), (q54.2))) n0 A K zr zc CA CK CL _ T55.heap _; rw [e55]; exact ⟨rfl, N55, P55⟩)

def own_complete_L4 (CL : List (List Int32)) : Nat → Int32 → Int32 → own_S → Option (Int32 × Int32 × own_S)
  | 0, _, _, _ => none
  | fuel + 1, v1, v2, uh1 => if v2 < (own_ro uh1) then (if v1 = (0 : Int32) then (some (v1, v2, uh1)) else ((own_ld_pa uh1 v2).bind fun w6 => if w6 = (-1 : Int32) then (((some (own_se_set uh1 ((own_se uh1) + (1 : Int64))) : Option own_S)).bind fun u9 => (own_augment CL u9 v2).bind fun q10 => own_complete_L4 CL fuel  (q10.1) (v2 + (1 : Int32)) (q10.2)) else (own_complete_L4 CL fuel  v1 (v2 + (1 : Int32)) uh1))) else (some (v1, v2, uh1))
def own_complete (CL : List (List Int32)) (u0 : own_S)  : Option (Int32 × own_S) := (own_complete_L4 CL 8  (1 : Int32) (0 : Int32) u0).bind fun q12 => some (((q12.1) &&& (1 : Int32)), (q12.2.2))

theorem d7_0 : decode prog_77_method_5_code 0 = .ok (.iconst 1, 1) := by decide +kernel
theorem d7_1 : decode prog_77_method_5_code 1 = .ok (.istore_n 1, 1) := by decide +kernel
theorem d7_2 : decode prog_77_method_5_code 2 = .ok (.iconst 0, 1) := by decide +kernel
theorem d7_3 : decode prog_77_method_5_code 3 = .ok (.istore_n 2, 1) := by decide +kernel
theorem d7_4 : decode prog_77_method_5_code 4 = .ok (.iload_n 2, 1) := by decide +kernel
theorem d7_5 : decode prog_77_method_5_code 5 = .ok (.aload_n 0, 1) := by decide +kernel
theorem d7_6 : decode prog_77_method_5_code 6 = .ok (.getfield 56, 3) := by decide +kernel
theorem d7_9 : decode prog_77_method_5_code 9 = .ok (.if_icmp .ge 39, 3) := by decide +kernel
theorem d7_12 : decode prog_77_method_5_code 12 = .ok (.iload_n 1, 1) := by decide +kernel
theorem d7_13 : decode prog_77_method_5_code 13 = .ok (.ifCond .eq 35, 3) := by decide +kernel
theorem d7_16 : decode prog_77_method_5_code 16 = .ok (.aload_n 0, 1) := by decide +kernel
theorem d7_17 : decode prog_77_method_5_code 17 = .ok (.getfield 18, 3) := by decide +kernel
theorem d7_20 : decode prog_77_method_5_code 20 = .ok (.iload_n 2, 1) := by decide +kernel
theorem d7_21 : decode prog_77_method_5_code 21 = .ok (.iaload, 1) := by decide +kernel
theorem d7_22 : decode prog_77_method_5_code 22 = .ok (.iconst (-1), 1) := by decide +kernel
theorem d7_23 : decode prog_77_method_5_code 23 = .ok (.if_icmp .ne 19, 3) := by decide +kernel
theorem d7_26 : decode prog_77_method_5_code 26 = .ok (.aload_n 0, 1) := by decide +kernel
theorem d7_27 : decode prog_77_method_5_code 27 = .ok (.dup, 1) := by decide +kernel
theorem d7_28 : decode prog_77_method_5_code 28 = .ok (.getfield 64, 3) := by decide +kernel
theorem d7_31 : decode prog_77_method_5_code 31 = .ok (.lconst 1, 1) := by decide +kernel
theorem d7_32 : decode prog_77_method_5_code 32 = .ok (.ladd, 1) := by decide +kernel
theorem d7_33 : decode prog_77_method_5_code 33 = .ok (.putfield 64, 3) := by decide +kernel
theorem d7_36 : decode prog_77_method_5_code 36 = .ok (.aload_n 0, 1) := by decide +kernel
theorem d7_37 : decode prog_77_method_5_code 37 = .ok (.iload_n 2, 1) := by decide +kernel
theorem d7_38 : decode prog_77_method_5_code 38 = .ok (.invokevirtual 68, 3) := by decide +kernel
theorem d7_41 : decode prog_77_method_5_code 41 = .ok (.istore_n 1, 1) := by decide +kernel
theorem d7_42 : decode prog_77_method_5_code 42 = .ok (.iinc 2 1, 3) := by decide +kernel
theorem d7_45 : decode prog_77_method_5_code 45 = .ok (.goto (-41), 3) := by decide +kernel
theorem d7_48 : decode prog_77_method_5_code 48 = .ok (.iload_n 1, 1) := by decide +kernel
theorem d7_49 : decode prog_77_method_5_code 49 = .ok (.ireturn, 1) := by decide +kernel
theorem pd_7__I_Z : parseMethodDescriptor "(I)Z" = some ⟨[.int], some .boolean⟩ := by decide +kernel
theorem pn_rm_complete : plainFor (⟨"com/example/document_pattern_rules/documentpatternrules/pattern/Pairing", "complete", "()Z"⟩ : MethodName) = true := by first | exact plainFor_of_name (by first | (simp [plainName, overriddenIn]; done) | decide +kernel) | exact Jvm.Free.JP.mathPlain rfl (by decide +kernel) | decide +kernel
theorem ef_rm_complete (m : MethodId) (x0 : Nat) : entryFrame m #[(.ref x0)] 3 = mkF m 0 #[.val (.ref x0), .unset, .unset] [] := by first | (simp [entryFrame, mkF, argsToLocals, Value.category]; done) | rfl
set_option maxRecDepth 65536 in
set_option maxHeartbeats 40000000 in
theorem rm_complete (l : Launch) (Z : State) (a0 : Array Value) (hw : ∀ d ∈ tables_1, d.before a0 Z = true) (ws : List Jvm.Cond) (A : Nat → Nat) (K : Nat → ClassId) (zr zc : Int32) (CA : Nat → Nat) (CK : Nat → ClassId) (CL : List (List Int32)) (u0 : own_S) (ru : Int32 × own_S)  (h0 : Heap) (n0 : Nat) (Z0 : n0 ≤ h0.size) (P0 : own_PS Z h0 n0 A K zr zc CA CK CL u0) (hF : own_complete CL u0  = some ru) :
    MetFree l (⟨"com/example/document_pattern_rules/documentpatternrules/pattern/Pairing", "complete", "()Z"⟩ : MethodName) (head1 (Jvm.Cond.code (⟨"com/example/document_pattern_rules/documentpatternrules/pattern/Pairing", "complete", "()Z"⟩ : MethodName) prog_77_method_5_code 3 (some .boolean) :: ws) ({ frames := 2, cells := 0, slots := 0, locals := 36 } : Room)) (fun a U => a = #[(.ref (A 0))] ∧ Z.Warmed39 U.vm ∧ U.heap = h0) (fun _ _ _ _ _ => True) (fun _ U o U' => ∃ v L, o = .returned v ∧ (own_QPr Z ru n0 A K zr zc CA CK CL) v U'.heap L ∧ FrameEnd U o U' L 0 0) := by
  refine MetFree.of_bodySF pn_rm_complete hisR ?_
  intro p e s m args below meth c s₁ Bd hml0 hP hK
  obtain ⟨rfl, hZ, hh⟩ := hP
  have hx := Bd.exec
  have hby := Bd.bytes
  have hml : c.maxLocals = 3 := hml0
  have hown : s.vm.findClass "com/example/document_pattern_rules/documentpatternrules/pattern/Pairing" = some m.cls := findClass_of_methodNamed Bd.named
  have hnm := (name_of_methodNamed Bd.named Bd.method).1
  have hrt := Bd.returns
  have hlk := Bd.notSynchronized
  have X0 : Stand p l e ({ frames := 2, cells := 0, slots := 0, locals := 36 } : Room) s m #[(.ref (A 0))] below meth c s₁ [] 0 0 := Stand.of_body Bd
  have e0 : s₁.heap = h0 := by rw [← hh, Bd.state]; rfl
  have N0 := Fr.nil n0
  unfold own_complete at hF
  refine own_done (B := s₁.setTop (mkF m 0 #[.val (.ref (A 0)), .unset, .unset] [])) (fun t k => castTop (ef_rm_complete m (A 0)) k) ?_
  refine own_by (B := s₁.setTop (mkF m 1 #[.val (.ref (A 0)), .unset, .unset] [(.int (1 : Int32))])) (fun _ k => XS.iconst X0.here hx rfl (hb hby d7_0) k) ?_
  refine own_by (B := s₁.setTop (mkF m 2 #[.val (.ref (A 0)), .val (.int (1 : Int32)), .unset] [])) (fun _ k => XS.istoreN X0.here hx rfl (hb hby d7_1) rfl (l' := #[.val (.ref (A 0)), .val (.int (1 : Int32)), .unset]) rfl k) ?_
  refine own_by (B := s₁.setTop (mkF m 3 #[.val (.ref (A 0)), .val (.int (1 : Int32)), .unset] [(.int (0 : Int32))])) (fun _ k => XS.iconst X0.here hx rfl (hb hby d7_2) k) ?_
  refine own_by (B := s₁.setTop (mkF m 4 #[.val (.ref (A 0)), .val (.int (1 : Int32)), .val (.int (0 : Int32))] [])) (fun _ k => XS.istoreN X0.here hx rfl (hb hby d7_3) rfl (l' := #[.val (.ref (A 0)), .val (.int (1 : Int32)), .val (.int (0 : Int32))]) rfl k) ?_
  have hloop4 : ∀ (fuel : Nat) (v1 : Int32) (v2 : Int32) (uh1 : own_S) (q1 : Int32 × Int32 × own_S), own_complete_L4 CL fuel  v1 v2 uh1 = some q1 → ∀ (T1 : State) (lc1 : List Loc) (X1 : Stand p l e ({ frames := 2, cells := 0, slots := 0, locals := 36 } : Room) s m #[(.ref (A 0))] below meth c T1 lc1 0 0) (N1 : Fr n0 lc1) (h1 : Heap) (e1 : T1.heap = h1) (P1 : own_PS Z h1 n0 A K zr zc CA CK CL uh1), (∀ (T2 : State) (lc2 : List Loc) (X2 : Stand p l e ({ frames := 2, cells := 0, slots := 0, locals := 36 } : Room) s m #[(.ref (A 0))] below meth c T2 lc2 0 0) (N2 : Fr n0 lc2) (h2 : Heap) (e2 : T2.heap = h2) (P2 : own_PS Z h2 n0 A K zr zc CA CK CL (q1.2.2)), own_Go p.tables e below (own_K s below (own_QPr Z ru n0 A K zr zc CA CK CL) 0 0) (T2.setTop (mkF m 48 #[.val (.ref (A 0)), .val (.int (q1.1)), .val (.int (q1.2.1))] []))) → own_Go p.tables e below (own_K s below (own_QPr Z ru n0 A K zr zc CA CK CL) 0 0) (T1.setTop (mkF m 4 #[.val (.ref (A 0)), .val (.int v1), .val (.int v2)] [])) := by
    intro fuel
    induction fuel with
    | zero => intro v1 v2 uh1 q1 hF; cases hF
    | succ fuel ih =>
      intro v1 v2 uh1 q1 hF T1 lc1 X1 N1 h1 e1 P1 kont
      rw [own_complete_L4] at hF
      refine own_by (B := T1.setTop (mkF m 5 #[.val (.ref (A 0)), .val (.int v1), .val (.int v2)] [(.int v2)])) (fun _ k => XS.iloadN X1.here hx rfl (hb hby d7_4) rfl  k) ?_
      refine own_by (B := T1.setTop (mkF m 6 #[.val (.ref (A 0)), .val (.int v1), .val (.int v2)] [(.ref (A 0)), (.int v2)])) (fun _ k => XS.aloadN X1.here hx rfl (hb hby d7_5) rfl rfl  k) ?_
      obtain ⟨T2, X2, e2, st2⟩ := getF X1 hx hZ hown (host := "") (Or.inl (hw _ (List.mem_of_getElem? (i := 51) rfl))) Via.refl e1 (own_PS_fro P1) (g := (mkF m 6 #[.val (.ref (A 0)), .val (.int v1), .val (.int v2)] [(.ref (A 0)), (.int v2)])) rfl rfl (hb hby d7_6)
      refine own_by (B := T2.setTop (mkF m 9 #[.val (.ref (A 0)), .val (.int v1), .val (.int v2)] [(.int (own_ro uh1)), (.int v2)])) st2 ?_
      by_cases hc3 : v2 < (own_ro uh1)
      · rw [if_pos hc3] at hF
        refine own_by (B := T2.setTop (mkF m 12 #[.val (.ref (A 0)), .val (.int v1), .val (.int v2)] [])) (fun _ k => XS.icmpNo X2.here hx rfl (hb hby d7_9) rfl (XT.ii_ge_f hc3) k) ?_
        refine own_by (B := T2.setTop (mkF m 13 #[.val (.ref (A 0)), .val (.int v1), .val (.int v2)] [(.int v1)])) (fun _ k => XS.iloadN X2.here hx rfl (hb hby d7_12) rfl  k) ?_
        by_cases hc4 : v1 = (0 : Int32)
        · rw [if_pos hc4] at hF
          refine own_by (B := T2.setTop (mkF m 48 #[.val (.ref (A 0)), .val (.int v1), .val (.int v2)] [])) (fun _ k => XS.ifYes X2.here hx rfl (pc0 := 13) (pc' := 48) rfl (hb hby d7_13) rfl (XT.i0_eq_t hc4) (by decide) (by decide) k) ?_
          obtain rfl := Option.some.inj hF
          exact kont _ _ X2 N1 _ e2 P1
        · rw [if_neg hc4] at hF
          refine own_by (B := T2.setTop (mkF m 16 #[.val (.ref (A 0)), .val (.int v1), .val (.int v2)] [])) (fun _ k => XS.ifNo X2.here hx rfl (hb hby d7_13) rfl (XT.i0_eq_f hc4) k) ?_
          refine own_by (B := T2.setTop (mkF m 17 #[.val (.ref (A 0)), .val (.int v1), .val (.int v2)] [(.ref (A 0))])) (fun _ k => XS.aloadN X2.here hx rfl (hb hby d7_16) rfl rfl  k) ?_
          obtain ⟨T5, X5, e5, st5⟩ := getF X2 hx hZ hown (host := "") (Or.inl (hw _ (List.mem_of_getElem? (i := 20) rfl))) Via.refl e2 (own_PS_f3 P1) (g := (mkF m 17 #[.val (.ref (A 0)), .val (.int v1), .val (.int v2)] [(.ref (A 0))])) rfl rfl (hb hby d7_17)
          refine own_by (B := T5.setTop (mkF m 20 #[.val (.ref (A 0)), .val (.int v1), .val (.int v2)] [(.ref (A 3))])) st5 ?_
          refine own_by (B := T5.setTop (mkF m 21 #[.val (.ref (A 0)), .val (.int v1), .val (.int v2)] [(.int v2), (.ref (A 3))])) (fun _ k => XS.iloadN X5.here hx rfl (hb hby d7_20) rfl  k) ?_
          obtain ⟨w6, hw6, hF⟩ := own_bind hF
          refine own_by (B := T5.setTop (mkF m 22 #[.val (.ref (A 0)), .val (.int v1), .val (.int v2)] [(.int w6)])) (own_ldI X5 hx hZ e5 (own_PS_v3 P1) hw6 (g := (mkF m 21 #[.val (.ref (A 0)), .val (.int v1), .val (.int v2)] [(.int v2), (.ref (A 3))])) rfl rfl (hb hby d7_21)) ?_
          refine own_by (B := T5.setTop (mkF m 23 #[.val (.ref (A 0)), .val (.int v1), .val (.int v2)] [(.int (-1 : Int32)), (.int w6)])) (fun _ k => XS.iconst X5.here hx rfl (hb hby d7_22) k) ?_
          by_cases hc7 : w6 = (-1 : Int32)
          · rw [if_pos hc7] at hF
            refine own_by (B := T5.setTop (mkF m 26 #[.val (.ref (A 0)), .val (.int v1), .val (.int v2)] [])) (fun _ k => XS.icmpNo X5.here hx rfl (hb hby d7_23) rfl (XT.ii_ne_f hc7) k) ?_
            refine own_by (B := T5.setTop (mkF m 27 #[.val (.ref (A 0)), .val (.int v1), .val (.int v2)] [(.ref (A 0))])) (fun _ k => XS.aloadN X5.here hx rfl (hb hby d7_26) rfl rfl  k) ?_
            refine own_by (B := T5.setTop (mkF m 28 #[.val (.ref (A 0)), .val (.int v1), .val (.int v2)] [(.ref (A 0)), (.ref (A 0))])) (fun _ k => XS.dup X5.here hx rfl (hb hby d7_27) rfl rfl k) ?_
            obtain ⟨T8, X8, e8, st8⟩ := getF X5 hx hZ hown (host := "") (Or.inl (hw _ (List.mem_of_getElem? (i := 64) rfl))) Via.refl e5 (own_PS_fse P1) (g := (mkF m 28 #[.val (.ref (A 0)), .val (.int v1), .val (.int v2)] [(.ref (A 0)), (.ref (A 0))])) rfl rfl (hb hby d7_28)
            refine own_by (B := T8.setTop (mkF m 31 #[.val (.ref (A 0)), .val (.int v1), .val (.int v2)] [(.long (own_se uh1)), (.ref (A 0))])) st8 ?_
            refine own_by (B := T8.setTop (mkF m 32 #[.val (.ref (A 0)), .val (.int v1), .val (.int v2)] [(.long (1 : Int64)), (.long (own_se uh1)), (.ref (A 0))])) (fun _ k => XT.lconst X8.here hx rfl (hb hby d7_31) k) ?_
            refine own_by (B := T8.setTop (mkF m 33 #[.val (.ref (A 0)), .val (.int v1), .val (.int v2)] [(.long ((own_se uh1) + (1 : Int64))), (.ref (A 0))])) (fun _ k => XT.ladd X8.here hx rfl (hb hby d7_32) rfl k) ?_
            obtain ⟨u9, hu9, hF⟩ := own_bind hF
            obtain ⟨T9, h9, X9, e9, W9, st9⟩ := putF X8 hx hZ hown (host := "") (Or.inl (hw _ (List.mem_of_getElem? (i := 64) rfl))) Via.refl e8 (own_PS_fse P1) (own_PS_E P1) (Or.inl (hw _ (List.mem_of_getElem? (i := 65) rfl))) (hw _ (List.mem_of_getElem? (i := 6) rfl)) (ty := .long) (by decide) rfl rfl (g := (mkF m 33 #[.val (.ref (A 0)), .val (.int v1), .val (.int v2)] [(.long ((own_se uh1) + (1 : Int64))), (.ref (A 0))])) rfl rfl (hb hby d7_33)
            have P9 : own_PS Z h9 n0 A K zr zc CA CK CL u9 := Option.some.inj hu9 ▸ own_w_se P1 hw W9
            have N9 := Fr.snoc X9 N1 (own_PS_gn P1).1
            refine own_by (B := T9.setTop (mkF m 36 #[.val (.ref (A 0)), .val (.int v1), .val (.int v2)] [])) st9 ?_
            refine own_by (B := T9.setTop (mkF m 37 #[.val (.ref (A 0)), .val (.int v1), .val (.int v2)] [(.ref (A 0))])) (fun _ k => XS.aloadN X9.here hx rfl (hb hby d7_36) rfl rfl  k) ?_
            refine own_by (B := T9.setTop (mkF m 38 #[.val (.ref (A 0)), .val (.int v1), .val (.int v2)] [(.int v2), (.ref (A 0))])) (fun _ k => XS.iloadN X9.here hx rfl (hb hby d7_37) rfl  k) ?_
            obtain ⟨q10, hq10, hF⟩ := own_bind hF
            obtain ⟨cq11, qa11, qc11⟩ := Exa.cell (own_PS_E P9)
            obtain ⟨_, _, ⟨T11, L11, k11, n11⟩, -, X11, ⟨Lc11, hQ11, l11, y11, z11⟩, st11⟩ := X9.privateBack hx (y := (⟨"com/example/document_pattern_rules/documentpatternrules/pattern/Pairing", "augment", "(I)Z"⟩ : MethodName)) hown (mvT hZ (hw _ (List.mem_of_getElem? (i := 66) rfl))) (mvT hZ (hw _ (List.mem_of_getElem? (i := 67) rfl))) (mvT hZ (own_selpriv (y := (⟨"com/example/document_pattern_rules/documentpatternrules/pattern/Pairing", "augment", "(I)Z"⟩ : MethodName)) (hw _ (List.mem_of_getElem? (i := 6) rfl)) (hw _ (List.mem_of_getElem? (i := 68) rfl)) (hw _ (List.mem_of_getElem? (i := 67) rfl)) (by decide))) (Cond.privateMethod_at (mvP hZ (hw _ (List.mem_of_getElem? (i := 68) rfl)) (args := #[]))) (mvT hZ (hw _ (List.mem_of_getElem? (i := 69) rfl))) (by decide) (backOf (W := 0) (rm_augment l Z a0 hw [] A K zr zc CA CK CL u9 _ v2 h9 n0 (Nat.le_trans (own_PS_gn P9).1 (Nat.le_of_lt (own_PS_E P9).lt)) P9 hq10) hZ (hw _ (List.mem_of_getElem? (i := 69) rfl)) (hw _ (List.mem_of_getElem? (i := 7) rfl)) (by decide) (by decide)) (g := (mkF m 38 #[.val (.ref (A 0)), .val (.int v1), .val (.int v2)] [(.int v2), (.ref (A 0))])) rfl (by rw [hml]; rfl) (Steps.refl _) (a := (A 0)) (by rw [e9]; exact qa11) qc11 (argsL := [(.int v2)]) (rest := []) (lenOf pd_7__I_Z rfl) rfl (by show 2 * 0 + _ ≤ _; exact Nat.le_of_eq rfl) (hb hby d7_38) (fun _ _ => ⟨rfl, e9, (by decide : 0 + 0 ≤ _), (by decide : 0 + 0 ≤ _)⟩)
            dsimp only [Pt.U, Pt.locs, Pt.cells, Pt.slots] at X11 l11 y11 z11 st11 hQ11
            subst l11 y11 z11
            obtain ⟨rfl, NC11, PC11⟩ := hQ11
            refine own_by (B := T11.setTop (mkF m 41 #[.val (.ref (A 0)), .val (.int v1), .val (.int v2)] [(.int (q10.1))])) (fun _ k => st11.trans k) ?_
            obtain ⟨h11, e11⟩ : ∃ z, T11.heap = z := ⟨_, rfl⟩
            rw [e11] at PC11
            have N11 := Fr.app N9 NC11
            refine own_by (B := T11.setTop (mkF m 42 #[.val (.ref (A 0)), .val (.int (q10.1)), .val (.int v2)] [])) (fun _ k => XS.istoreN X11.here hx rfl (hb hby d7_41) rfl (l' := #[.val (.ref (A 0)), .val (.int (q10.1)), .val (.int v2)]) rfl k) ?_
            refine own_by (B := T11.setTop (mkF m 45 #[.val (.ref (A 0)), .val (.int (q10.1)), .val (.int (v2 + (1 : Int32)))] [])) (fun _ k => XS.iinc X11.here hx rfl (hb hby d7_42) rfl (l' := #[.val (.ref (A 0)), .val (.int (q10.1)), .val (.int (v2 + (1 : Int32)))]) rfl k) ?_
            refine own_by (B := T11.setTop (mkF m 4 #[.val (.ref (A 0)), .val (.int (q10.1)), .val (.int (v2 + (1 : Int32)))] [])) (fun _ k => XS.goto X11.here hx rfl (pc0 := 45) (pc' := 4) rfl (hb hby d7_45) (by decide) (by decide) k) ?_
            exact ih (q10.1) (v2 + (1 : Int32)) (q10.2) _ hF _ _ X11 N11 _ e11 PC11 kont
          · rw [if_neg hc7] at hF
            refine own_by (B := T5.setTop (mkF m 42 #[.val (.ref (A 0)), .val (.int v1), .val (.int v2)] [])) (fun _ k => XS.icmpYes X5.here hx rfl (pc0 := 23) (pc' := 42) rfl (hb hby d7_23) rfl (XT.ii_ne_t hc7) (by decide) (by decide) k) ?_
            refine own_by (B := T5.setTop (mkF m 45 #[.val (.ref (A 0)), .val (.int v1), .val (.int (v2 + (1 : Int32)))] [])) (fun _ k => XS.iinc X5.here hx rfl (hb hby d7_42) rfl (l' := #[.val (.ref (A 0)), .val (.int v1), .val (.int (v2 + (1 : Int32)))]) rfl k) ?_
            refine own_by (B := T5.setTop (mkF m 4 #[.val (.ref (A 0)), .val (.int v1), .val (.int (v2 + (1 : Int32)))] [])) (fun _ k => XS.goto X5.here hx rfl (pc0 := 45) (pc' := 4) rfl (hb hby d7_45) (by decide) (by decide) k) ?_
            exact ih v1 (v2 + (1 : Int32)) uh1 _ hF _ _ X5 N1 _ e5 P1 kont
      · rw [if_neg hc3] at hF
        refine own_by (B := T2.setTop (mkF m 48 #[.val (.ref (A 0)), .val (.int v1), .val (.int v2)] [])) (fun _ k => XS.icmpYes X2.here hx rfl (pc0 := 9) (pc' := 48) rfl (hb hby d7_9) rfl (XT.ii_ge_t hc3) (by decide) (by decide) k) ?_
        obtain rfl := Option.some.inj hF
        exact kont _ _ X2 N1 _ e2 P1
  obtain ⟨q12, hq12, hF⟩ := own_bind hF
  refine hloop4 8 (1 : Int32) (0 : Int32) u0 _ hq12 _ _ X0 N0 _ e0 P0 ?_
  intro T13 lc13 X13 N13 h13 e13 P13
  refine own_by (B := T13.setTop (mkF m 49 #[.val (.ref (A 0)), .val (.int (q12.1)), .val (.int (q12.2.1))] [(.int (q12.1))])) (fun _ k => XS.iloadN X13.here hx rfl (hb hby d7_48) rfl  k) ?_
  obtain rfl := Option.some.inj hF
  exact own_retB X13 hx hrt hlk (hb hby d7_49) (by decide) (by decide) (by show own_QPr Z ((((q12.1) &&& (1 : Int32)), (q12.2.2))) n0 A K zr zc CA CK CL _ T13.heap _; rw [e13]; exact ⟨rfl, N13, P13⟩)

def own_lowest_L29 (CL : List (List Int32)) : Nat → List Int32 → Int32 → own_S → Option (Int32 × own_S)
  | 0, _, _, _ => none
  | fuel + 1, Lc4, v4, uh9 => if v4 < (Int32.ofNat Lc4.length) then ((own_geti Lc4 v4).bind fun w12 => (own_ld_ho uh9 w12).bind fun w13 => if w13 = (-1 : Int32) then (some (v4, uh9)) else ((own_geti Lc4 v4).bind fun w17 => (own_ld_ho uh9 w17).bind fun w18 => (own_ld_fi uh9 w18).bind fun w19 => if w19 = (0 : Int32) then (some (v4, uh9)) else (own_lowest_L29 CL fuel Lc4 (v4 + (1 : Int32)) uh9))) else (some (v4, uh9))
def own_lowest_L87 (CL : List (List Int32)) : Nat → Int32 → List Int32 → Int32 → Int32 → own_S → Option (Int32 × Int32 × own_S)
  | 0, _, _, _, _, _ => none
  | fuel + 1, ux, Lc4, v5, v6, uh25 => if v5 = (0 : Int32) then (if v6 < (Int32.ofNat Lc4.length) then ((own_geti Lc4 v6).bind fun w28 => (own_ld_pa uh25 ux).bind fun w30 => if w28 < w30 then (none) else (some (v5, v6, uh25))) else (some (v5, v6, uh25))) else (some (v5, v6, uh25))
def own_lowest (CL : List (List Int32)) (u0 : own_S) (ux : Int32) : Option (Int32 × own_S) := (own_ld_ki u0 ux).bind fun w2 => (own_ld_F u0 ux).bind fun i4 => ((CL[i4]? : Option (List Int32))).bind fun Lc4 => (own_st_fi u0 ux (1 : Int32)).bind fun u6 => (own_ld_ff u6 w2).bind fun w8 => (own_lowest_L29 CL 8 Lc4 w8 u6).bind fun q21 => (own_st_ff (q21.2) w2 (q21.1)).bind fun u24 => (own_lowest_L87 CL 8 ux Lc4 (0 : Int32) (q21.1) u24).bind fun q32 => (own_ld_pa (q32.2.2) ux).bind fun w35 => some (w35, (q32.2.2))

theorem d11_0 : decode prog_77_method_6_code 0 = .ok (.aload_n 0, 1) := by decide +kernel
theorem d11_1 : decode prog_77_method_6_code 1 = .ok (.getfield 15, 3) := by decide +kernel
theorem d11_4 : decode prog_77_method_6_code 4 = .ok (.iload_n 1, 1) := by decide +kernel
theorem d11_5 : decode prog_77_method_6_code 5 = .ok (.iaload, 1) := by decide +kernel
theorem d11_6 : decode prog_77_method_6_code 6 = .ok (.istore_n 2, 1) := by decide +kernel
theorem d11_7 : decode prog_77_method_6_code 7 = .ok (.aload_n 0, 1) := by decide +kernel
theorem d11_8 : decode prog_77_method_6_code 8 = .ok (.getfield 9, 3) := by decide +kernel
theorem d11_11 : decode prog_77_method_6_code 11 = .ok (.iload_n 1, 1) := by decide +kernel
theorem d11_12 : decode prog_77_method_6_code 12 = .ok (.aaload, 1) := by decide +kernel
theorem d11_13 : decode prog_77_method_6_code 13 = .ok (.astore_n 3, 1) := by decide +kernel
theorem d11_14 : decode prog_77_method_6_code 14 = .ok (.aload_n 0, 1) := by decide +kernel
theorem d11_15 : decode prog_77_method_6_code 15 = .ok (.getfield 24, 3) := by decide +kernel
theorem d11_18 : decode prog_77_method_6_code 18 = .ok (.iload_n 1, 1) := by decide +kernel
theorem d11_19 : decode prog_77_method_6_code 19 = .ok (.iconst 1, 1) := by decide +kernel
theorem d11_20 : decode prog_77_method_6_code 20 = .ok (.bastore, 1) := by decide +kernel
theorem d11_21 : decode prog_77_method_6_code 21 = .ok (.aload_n 0, 1) := by decide +kernel
theorem d11_22 : decode prog_77_method_6_code 22 = .ok (.getfield 47, 3) := by decide +kernel
theorem d11_25 : decode prog_77_method_6_code 25 = .ok (.iload_n 2, 1) := by decide +kernel
theorem d11_26 : decode prog_77_method_6_code 26 = .ok (.iaload, 1) := by decide +kernel
theorem d11_27 : decode prog_77_method_6_code 27 = .ok (.istore 4, 2) := by decide +kernel
theorem d11_29 : decode prog_77_method_6_code 29 = .ok (.iload 4, 2) := by decide +kernel
theorem d11_31 : decode prog_77_method_6_code 31 = .ok (.aload_n 3, 1) := by decide +kernel
theorem d11_32 : decode prog_77_method_6_code 32 = .ok (.arraylength, 1) := by decide +kernel
theorem d11_33 : decode prog_77_method_6_code 33 = .ok (.if_icmp .ge 39, 3) := by decide +kernel
theorem d11_36 : decode prog_77_method_6_code 36 = .ok (.aload_n 0, 1) := by decide +kernel
theorem d11_37 : decode prog_77_method_6_code 37 = .ok (.getfield 21, 3) := by decide +kernel
theorem d11_40 : decode prog_77_method_6_code 40 = .ok (.aload_n 3, 1) := by decide +kernel
theorem d11_41 : decode prog_77_method_6_code 41 = .ok (.iload 4, 2) := by decide +kernel
theorem d11_43 : decode prog_77_method_6_code 43 = .ok (.iaload, 1) := by decide +kernel
theorem d11_44 : decode prog_77_method_6_code 44 = .ok (.iaload, 1) := by decide +kernel
theorem d11_45 : decode prog_77_method_6_code 45 = .ok (.iconst (-1), 1) := by decide +kernel
theorem d11_46 : decode prog_77_method_6_code 46 = .ok (.if_icmp .eq 26, 3) := by decide +kernel
theorem d11_49 : decode prog_77_method_6_code 49 = .ok (.aload_n 0, 1) := by decide +kernel
theorem d11_50 : decode prog_77_method_6_code 50 = .ok (.getfield 24, 3) := by decide +kernel
theorem d11_53 : decode prog_77_method_6_code 53 = .ok (.aload_n 0, 1) := by decide +kernel
theorem d11_54 : decode prog_77_method_6_code 54 = .ok (.getfield 21, 3) := by decide +kernel
theorem d11_57 : decode prog_77_method_6_code 57 = .ok (.aload_n 3, 1) := by decide +kernel
theorem d11_58 : decode prog_77_method_6_code 58 = .ok (.iload 4, 2) := by decide +kernel
theorem d11_60 : decode prog_77_method_6_code 60 = .ok (.iaload, 1) := by decide +kernel
theorem d11_61 : decode prog_77_method_6_code 61 = .ok (.iaload, 1) := by decide +kernel
theorem d11_62 : decode prog_77_method_6_code 62 = .ok (.baload, 1) := by decide +kernel
theorem d11_63 : decode prog_77_method_6_code 63 = .ok (.ifCond .eq 9, 3) := by decide +kernel
theorem d11_66 : decode prog_77_method_6_code 66 = .ok (.iinc 4 1, 3) := by decide +kernel
theorem d11_69 : decode prog_77_method_6_code 69 = .ok (.goto (-40), 3) := by decide +kernel
theorem d11_72 : decode prog_77_method_6_code 72 = .ok (.aload_n 0, 1) := by decide +kernel
theorem d11_73 : decode prog_77_method_6_code 73 = .ok (.getfield 47, 3) := by decide +kernel
theorem d11_76 : decode prog_77_method_6_code 76 = .ok (.iload_n 2, 1) := by decide +kernel
theorem d11_77 : decode prog_77_method_6_code 77 = .ok (.iload 4, 2) := by decide +kernel
theorem d11_79 : decode prog_77_method_6_code 79 = .ok (.iastore, 1) := by decide +kernel
theorem d11_80 : decode prog_77_method_6_code 80 = .ok (.iconst 0, 1) := by decide +kernel
theorem d11_81 : decode prog_77_method_6_code 81 = .ok (.istore 5, 2) := by decide +kernel
theorem d11_83 : decode prog_77_method_6_code 83 = .ok (.iload 4, 2) := by decide +kernel
theorem d11_85 : decode prog_77_method_6_code 85 = .ok (.istore 6, 2) := by decide +kernel
theorem d11_87 : decode prog_77_method_6_code 87 = .ok (.iload 5, 2) := by decide +kernel
theorem d11_89 : decode prog_77_method_6_code 89 = .ok (.ifCond .ne 40, 3) := by decide +kernel
theorem d11_92 : decode prog_77_method_6_code 92 = .ok (.iload 6, 2) := by decide +kernel
theorem d11_94 : decode prog_77_method_6_code 94 = .ok (.aload_n 3, 1) := by decide +kernel
theorem d11_95 : decode prog_77_method_6_code 95 = .ok (.arraylength, 1) := by decide +kernel
theorem d11_96 : decode prog_77_method_6_code 96 = .ok (.if_icmp .ge 33, 3) := by decide +kernel
theorem d11_99 : decode prog_77_method_6_code 99 = .ok (.aload_n 3, 1) := by decide +kernel
theorem d11_100 : decode prog_77_method_6_code 100 = .ok (.iload 6, 2) := by decide +kernel
theorem d11_102 : decode prog_77_method_6_code 102 = .ok (.iaload, 1) := by decide +kernel
theorem d11_103 : decode prog_77_method_6_code 103 = .ok (.aload_n 0, 1) := by decide +kernel
theorem d11_104 : decode prog_77_method_6_code 104 = .ok (.getfield 18, 3) := by decide +kernel
theorem d11_107 : decode prog_77_method_6_code 107 = .ok (.iload_n 1, 1) := by decide +kernel
theorem d11_108 : decode prog_77_method_6_code 108 = .ok (.iaload, 1) := by decide +kernel
theorem d11_109 : decode prog_77_method_6_code 109 = .ok (.if_icmp .ge 20, 3) := by decide +kernel
theorem d11_129 : decode prog_77_method_6_code 129 = .ok (.aload_n 0, 1) := by decide +kernel
theorem d11_130 : decode prog_77_method_6_code 130 = .ok (.getfield 18, 3) := by decide +kernel
theorem d11_133 : decode prog_77_method_6_code 133 = .ok (.iload_n 1, 1) := by decide +kernel
theorem d11_134 : decode prog_77_method_6_code 134 = .ok (.iaload, 1) := by decide +kernel
theorem d11_135 : decode prog_77_method_6_code 135 = .ok (.ireturn, 1) := by decide +kernel
theorem pn_rm_lowest : plainFor (⟨"com/example/document_pattern_rules/documentpatternrules/pattern/Pairing", "lowest", "(I)I"⟩ : MethodName) = true := by first | exact plainFor_of_name (by first | (simp [plainName, overriddenIn]; done) | decide +kernel) | exact Jvm.Free.JP.mathPlain rfl (by decide +kernel) | decide +kernel
theorem ef_rm_lowest (m : MethodId) (x0 : Nat) (x1 : Int32) : entryFrame m #[(.ref x0), (.int x1)] 7 = mkF m 0 #[.val (.ref x0), .val (.int x1), .unset, .unset, .unset, .unset, .unset] [] := by first | (simp [entryFrame, mkF, argsToLocals, Value.category]; done) | rfl
set_option maxRecDepth 65536 in
set_option maxHeartbeats 40000000 in
theorem rm_lowest (l : Launch) (Z : State) (a0 : Array Value) (hw : ∀ d ∈ tables_1, d.before a0 Z = true) (ws : List Jvm.Cond) (A : Nat → Nat) (K : Nat → ClassId) (zr zc : Int32) (CA : Nat → Nat) (CK : Nat → ClassId) (CL : List (List Int32)) (u0 : own_S) (ru : Int32 × own_S) (ux : Int32) (h0 : Heap) (n0 : Nat) (Z0 : n0 ≤ h0.size) (P0 : own_PS Z h0 n0 A K zr zc CA CK CL u0) (hF : own_lowest CL u0 ux = some ru) :
    MetFree l (⟨"com/example/document_pattern_rules/documentpatternrules/pattern/Pairing", "lowest", "(I)I"⟩ : MethodName) (head1 (Jvm.Cond.code (⟨"com/example/document_pattern_rules/documentpatternrules/pattern/Pairing", "lowest", "(I)I"⟩ : MethodName) prog_77_method_6_code 7 (some .int) :: ws) ({ frames := 0, cells := 0, slots := 0, locals := 0 } : Room)) (fun a U => a = #[(.ref (A 0)), (.int ux)] ∧ Z.Warmed39 U.vm ∧ U.heap = h0) (fun _ _ _ _ _ => True) (fun _ U o U' => ∃ v L, o = .returned v ∧ (own_QPr Z ru n0 A K zr zc CA CK CL) v U'.heap L ∧ FrameEnd U o U' L 0 0) := by
  refine MetFree.of_bodySF pn_rm_lowest hisR ?_
  intro p e s m args below meth c s₁ Bd hml0 hP hK
  obtain ⟨rfl, hZ, hh⟩ := hP
  have hx := Bd.exec
  have hby := Bd.bytes
  have hml : c.maxLocals = 7 := hml0
  have hown : s.vm.findClass "com/example/document_pattern_rules/documentpatternrules/pattern/Pairing" = some m.cls := findClass_of_methodNamed Bd.named
  have hnm := (name_of_methodNamed Bd.named Bd.method).1
  have hrt := Bd.returns
  have hlk := Bd.notSynchronized
  have X0 : Stand p l e ({ frames := 0, cells := 0, slots := 0, locals := 0 } : Room) s m #[(.ref (A 0)), (.int ux)] below meth c s₁ [] 0 0 := Stand.of_body Bd
  have e0 : s₁.heap = h0 := by rw [← hh, Bd.state]; rfl
  have N0 := Fr.nil n0
  unfold own_lowest at hF
  refine own_done (B := s₁.setTop (mkF m 0 #[.val (.ref (A 0)), .val (.int ux), .unset, .unset, .unset, .unset, .unset] [])) (fun t k => castTop (ef_rm_lowest m (A 0) ux) k) ?_
  refine own_by (B := s₁.setTop (mkF m 1 #[.val (.ref (A 0)), .val (.int ux), .unset, .unset, .unset, .unset, .unset] [(.ref (A 0))])) (fun _ k => XS.aloadN X0.here hx rfl (hb hby d11_0) rfl rfl  k) ?_
  obtain ⟨T1, X1, e1, st1⟩ := getF X0 hx hZ hown (host := "") (Or.inl (hw _ (List.mem_of_getElem? (i := 18) rfl))) Via.refl e0 (own_PS_f2 P0) (g := (mkF m 1 #[.val (.ref (A 0)), .val (.int ux), .unset, .unset, .unset, .unset, .unset] [(.ref (A 0))])) rfl rfl (hb hby d11_1)
  refine own_by (B := T1.setTop (mkF m 4 #[.val (.ref (A 0)), .val (.int ux), .unset, .unset, .unset, .unset, .unset] [(.ref (A 2))])) st1 ?_
  refine own_by (B := T1.setTop (mkF m 5 #[.val (.ref (A 0)), .val (.int ux), .unset, .unset, .unset, .unset, .unset] [(.int ux), (.ref (A 2))])) (fun _ k => XS.iloadN X1.here hx rfl (hb hby d11_4) rfl  k) ?_
  obtain ⟨w2, hw2, hF⟩ := own_bind hF
  refine own_by (B := T1.setTop (mkF m 6 #[.val (.ref (A 0)), .val (.int ux), .unset, .unset, .unset, .unset, .unset] [(.int w2)])) (own_ldI X1 hx hZ e1 (own_PS_v2 P0) hw2 (g := (mkF m 5 #[.val (.ref (A 0)), .val (.int ux), .unset, .unset, .unset, .unset, .unset] [(.int ux), (.ref (A 2))])) rfl rfl (hb hby d11_5)) ?_
  refine own_by (B := T1.setTop (mkF m 7 #[.val (.ref (A 0)), .val (.int ux), .val (.int w2), .unset, .unset, .unset, .unset] [])) (fun _ k => XS.istoreN X1.here hx rfl (hb hby d11_6) rfl (l' := #[.val (.ref (A 0)), .val (.int ux), .val (.int w2), .unset, .unset, .unset, .unset]) rfl k) ?_
  refine own_by (B := T1.setTop (mkF m 8 #[.val (.ref (A 0)), .val (.int ux), .val (.int w2), .unset, .unset, .unset, .unset] [(.ref (A 0))])) (fun _ k => XS.aloadN X1.here hx rfl (hb hby d11_7) rfl rfl  k) ?_
  obtain ⟨T3, X3, e3, st3⟩ := getF X1 hx hZ hown (host := "") (Or.inl (hw _ (List.mem_of_getElem? (i := 16) rfl))) Via.refl e1 (own_PS_f1 P0) (g := (mkF m 8 #[.val (.ref (A 0)), .val (.int ux), .val (.int w2), .unset, .unset, .unset, .unset] [(.ref (A 0))])) rfl rfl (hb hby d11_8)
  refine own_by (B := T3.setTop (mkF m 11 #[.val (.ref (A 0)), .val (.int ux), .val (.int w2), .unset, .unset, .unset, .unset] [(.ref (A 1))])) st3 ?_
  refine own_by (B := T3.setTop (mkF m 12 #[.val (.ref (A 0)), .val (.int ux), .val (.int w2), .unset, .unset, .unset, .unset] [(.int ux), (.ref (A 1))])) (fun _ k => XS.iloadN X3.here hx rfl (hb hby d11_11) rfl  k) ?_
  obtain ⟨i4, hi4, hF⟩ := own_bind hF
  obtain ⟨Lc4, hLc4, hF⟩ := own_bind hF
  refine own_by (B := T3.setTop (mkF m 13 #[.val (.ref (A 0)), .val (.int ux), .val (.int w2), .unset, .unset, .unset, .unset] [(.ref (CA i4))])) (own_ldF X3 hx hZ e3 (own_PS_v1 P0) hi4 (g := (mkF m 12 #[.val (.ref (A 0)), .val (.int ux), .val (.int w2), .unset, .unset, .unset, .unset] [(.int ux), (.ref (A 1))])) rfl rfl (hb hby d11_12)) ?_
  refine own_by (B := T3.setTop (mkF m 14 #[.val (.ref (A 0)), .val (.int ux), .val (.int w2), .val (.ref (CA i4)), .unset, .unset, .unset] [])) (fun _ k => XS.astoreN X3.here hx rfl (hb hby d11_13) rfl rfl (l' := #[.val (.ref (A 0)), .val (.int ux), .val (.int w2), .val (.ref (CA i4)), .unset, .unset, .unset]) rfl k) ?_
  refine own_by (B := T3.setTop (mkF m 15 #[.val (.ref (A 0)), .val (.int ux), .val (.int w2), .val (.ref (CA i4)), .unset, .unset, .unset] [(.ref (A 0))])) (fun _ k => XS.aloadN X3.here hx rfl (hb hby d11_14) rfl rfl  k) ?_
  obtain ⟨T5, X5, e5, st5⟩ := getF X3 hx hZ hown (host := "") (Or.inl (hw _ (List.mem_of_getElem? (i := 25) rfl))) Via.refl e3 (own_PS_f5 P0) (g := (mkF m 15 #[.val (.ref (A 0)), .val (.int ux), .val (.int w2), .val (.ref (CA i4)), .unset, .unset, .unset] [(.ref (A 0))])) rfl rfl (hb hby d11_15)
  refine own_by (B := T5.setTop (mkF m 18 #[.val (.ref (A 0)), .val (.int ux), .val (.int w2), .val (.ref (CA i4)), .unset, .unset, .unset] [(.ref (A 5))])) st5 ?_
  refine own_by (B := T5.setTop (mkF m 19 #[.val (.ref (A 0)), .val (.int ux), .val (.int w2), .val (.ref (CA i4)), .unset, .unset, .unset] [(.int ux), (.ref (A 5))])) (fun _ k => XS.iloadN X5.here hx rfl (hb hby d11_18) rfl  k) ?_
  refine own_by (B := T5.setTop (mkF m 20 #[.val (.ref (A 0)), .val (.int ux), .val (.int w2), .val (.ref (CA i4)), .unset, .unset, .unset] [(.int (1 : Int32)), (.int ux), (.ref (A 5))])) (fun _ k => XS.iconst X5.here hx rfl (hb hby d11_19) k) ?_
  obtain ⟨u6, hu6, hF⟩ := own_bind hF
  obtain ⟨zl6, hz6, hu6'⟩ := Option.map_eq_some_iff.mp hu6
  obtain ⟨T6, h6, X6, e6, W6, V6, st6⟩ := own_stZ X5 hx hZ e5 (own_PS_v5 P0) hz6 (g := (mkF m 20 #[.val (.ref (A 0)), .val (.int ux), .val (.int w2), .val (.ref (CA i4)), .unset, .unset, .unset] [(.int (1 : Int32)), (.int ux), (.ref (A 5))])) rfl rfl (hb hby d11_20)
  have P6 : own_PS Z h6 n0 A K zr zc CA CK CL u6 := hu6' ▸ own_w_fi P0 W6 V6
  have N6 := Fr.snoc X6 N0 (own_PS_gn P0).2.2.2.2.2.1
  refine own_by (B := T6.setTop (mkF m 21 #[.val (.ref (A 0)), .val (.int ux), .val (.int w2), .val (.ref (CA i4)), .unset, .unset, .unset] [])) st6 ?_
  refine own_by (B := T6.setTop (mkF m 22 #[.val (.ref (A 0)), .val (.int ux), .val (.int w2), .val (.ref (CA i4)), .unset, .unset, .unset] [(.ref (A 0))])) (fun _ k => XS.aloadN X6.here hx rfl (hb hby d11_21) rfl rfl  k) ?_
  obtain ⟨T7, X7, e7, st7⟩ := getF X6 hx hZ hown (host := "") (Or.inl (hw _ (List.mem_of_getElem? (i := 40) rfl))) Via.refl e6 (own_PS_f12 P6) (g := (mkF m 22 #[.val (.ref (A 0)), .val (.int ux), .val (.int w2), .val (.ref (CA i4)), .unset, .unset, .unset] [(.ref (A 0))])) rfl rfl (hb hby d11_22)
  refine own_by (B := T7.setTop (mkF m 25 #[.val (.ref (A 0)), .val (.int ux), .val (.int w2), .val (.ref (CA i4)), .unset, .unset, .unset] [(.ref (A 12))])) st7 ?_
  refine own_by (B := T7.setTop (mkF m 26 #[.val (.ref (A 0)), .val (.int ux), .val (.int w2), .val (.ref (CA i4)), .unset, .unset, .unset] [(.int w2), (.ref (A 12))])) (fun _ k => XS.iloadN X7.here hx rfl (hb hby d11_25) rfl  k) ?_
  obtain ⟨w8, hw8, hF⟩ := own_bind hF
  refine own_by (B := T7.setTop (mkF m 27 #[.val (.ref (A 0)), .val (.int ux), .val (.int w2), .val (.ref (CA i4)), .unset, .unset, .unset] [(.int w8)])) (own_ldI X7 hx hZ e7 (own_PS_v12 P6) hw8 (g := (mkF m 26 #[.val (.ref (A 0)), .val (.int ux), .val (.int w2), .val (.ref (CA i4)), .unset, .unset, .unset] [(.int w2), (.ref (A 12))])) rfl rfl (hb hby d11_26)) ?_
  refine own_by (B := T7.setTop (mkF m 29 #[.val (.ref (A 0)), .val (.int ux), .val (.int w2), .val (.ref (CA i4)), .val (.int w8), .unset, .unset] [])) (fun _ k => XS.istore X7.here hx rfl (hb hby d11_27) rfl (l' := #[.val (.ref (A 0)), .val (.int ux), .val (.int w2), .val (.ref (CA i4)), .val (.int w8), .unset, .unset]) rfl k) ?_
  have hloop29 : ∀ (fuel : Nat) (v4 : Int32) (uh9 : own_S) (q9 : Int32 × own_S), own_lowest_L29 CL fuel Lc4 v4 uh9 = some q9 → ∀ (T1 : State) (lc1 : List Loc) (X1 : Stand p l e ({ frames := 0, cells := 0, slots := 0, locals := 0 } : Room) s m #[(.ref (A 0)), (.int ux)] below meth c T1 lc1 0 0) (N1 : Fr n0 lc1) (h1 : Heap) (e1 : T1.heap = h1) (P1 : own_PS Z h1 n0 A K zr zc CA CK CL uh9), (∀ (T2 : State) (lc2 : List Loc) (X2 : Stand p l e ({ frames := 0, cells := 0, slots := 0, locals := 0 } : Room) s m #[(.ref (A 0)), (.int ux)] below meth c T2 lc2 0 0) (N2 : Fr n0 lc2) (h2 : Heap) (e2 : T2.heap = h2) (P2 : own_PS Z h2 n0 A K zr zc CA CK CL (q9.2)), own_Go p.tables e below (own_K s below (own_QPr Z ru n0 A K zr zc CA CK CL) 0 0) (T2.setTop (mkF m 72 #[.val (.ref (A 0)), .val (.int ux), .val (.int w2), .val (.ref (CA i4)), .val (.int (q9.1)), .unset, .unset] []))) → own_Go p.tables e below (own_K s below (own_QPr Z ru n0 A K zr zc CA CK CL) 0 0) (T1.setTop (mkF m 29 #[.val (.ref (A 0)), .val (.int ux), .val (.int w2), .val (.ref (CA i4)), .val (.int v4), .unset, .unset] [])) := by
    intro fuel
    induction fuel with
    | zero => intro v4 uh9 q9 hF; cases hF
    | succ fuel ih =>
      intro v4 uh9 q9 hF T1 lc1 X1 N1 h1 e1 P1 kont
      rw [own_lowest_L29] at hF
      refine own_by (B := T1.setTop (mkF m 31 #[.val (.ref (A 0)), .val (.int ux), .val (.int w2), .val (.ref (CA i4)), .val (.int v4), .unset, .unset] [(.int v4)])) (fun _ k => XS.iload X1.here hx rfl (hb hby d11_29) rfl  k) ?_
      refine own_by (B := T1.setTop (mkF m 32 #[.val (.ref (A 0)), .val (.int ux), .val (.int w2), .val (.ref (CA i4)), .val (.int v4), .unset, .unset] [(.ref (CA i4)), (.int v4)])) (fun _ k => XS.aloadN X1.here hx rfl (hb hby d11_31) rfl rfl  k) ?_
      refine own_by (B := T1.setTop (mkF m 33 #[.val (.ref (A 0)), .val (.int ux), .val (.int w2), .val (.ref (CA i4)), .val (.int v4), .unset, .unset] [(.int (Int32.ofNat Lc4.length)), (.int v4)])) (own_lenI X1 hx hZ e1 ((own_PS_cc P1) _ _ hLc4).1 (g := (mkF m 32 #[.val (.ref (A 0)), .val (.int ux), .val (.int w2), .val (.ref (CA i4)), .val (.int v4), .unset, .unset] [(.ref (CA i4)), (.int v4)])) rfl rfl (hb hby d11_32)) ?_
      by_cases hc10 : v4 < (Int32.ofNat Lc4.length)
      · rw [if_pos hc10] at hF
        refine own_by (B := T1.setTop (mkF m 36 #[.val (.ref (A 0)), .val (.int ux), .val (.int w2), .val (.ref (CA i4)), .val (.int v4), .unset, .unset] [])) (fun _ k => XS.icmpNo X1.here hx rfl (hb hby d11_33) rfl (XT.ii_ge_f hc10) k) ?_
        refine own_by (B := T1.setTop (mkF m 37 #[.val (.ref (A 0)), .val (.int ux), .val (.int w2), .val (.ref (CA i4)), .val (.int v4), .unset, .unset] [(.ref (A 0))])) (fun _ k => XS.aloadN X1.here hx rfl (hb hby d11_36) rfl rfl  k) ?_
        obtain ⟨T11, X11, e11, st11⟩ := getF X1 hx hZ hown (host := "") (Or.inl (hw _ (List.mem_of_getElem? (i := 22) rfl))) Via.refl e1 (own_PS_f4 P1) (g := (mkF m 37 #[.val (.ref (A 0)), .val (.int ux), .val (.int w2), .val (.ref (CA i4)), .val (.int v4), .unset, .unset] [(.ref (A 0))])) rfl rfl (hb hby d11_37)
        refine own_by (B := T11.setTop (mkF m 40 #[.val (.ref (A 0)), .val (.int ux), .val (.int w2), .val (.ref (CA i4)), .val (.int v4), .unset, .unset] [(.ref (A 4))])) st11 ?_
        refine own_by (B := T11.setTop (mkF m 41 #[.val (.ref (A 0)), .val (.int ux), .val (.int w2), .val (.ref (CA i4)), .val (.int v4), .unset, .unset] [(.ref (CA i4)), (.ref (A 4))])) (fun _ k => XS.aloadN X11.here hx rfl (hb hby d11_40) rfl rfl  k) ?_
        refine own_by (B := T11.setTop (mkF m 43 #[.val (.ref (A 0)), .val (.int ux), .val (.int w2), .val (.ref (CA i4)), .val (.int v4), .unset, .unset] [(.int v4), (.ref (CA i4)), (.ref (A 4))])) (fun _ k => XS.iload X11.here hx rfl (hb hby d11_41) rfl  k) ?_
        obtain ⟨w12, hw12, hF⟩ := own_bind hF
        refine own_by (B := T11.setTop (mkF m 44 #[.val (.ref (A 0)), .val (.int ux), .val (.int w2), .val (.ref (CA i4)), .val (.int v4), .unset, .unset] [(.int w12), (.ref (A 4))])) (own_ldI X11 hx hZ e11 ((own_PS_cc P1) _ _ hLc4).1 hw12 (g := (mkF m 43 #[.val (.ref (A 0)), .val (.int ux), .val (.int w2), .val (.ref (CA i4)), .val (.int v4), .unset, .unset] [(.int v4), (.ref (CA i4)), (.ref (A 4))])) rfl rfl (hb hby d11_43)) ?_
        obtain ⟨w13, hw13, hF⟩ := own_bind hF
        refine own_by (B := T11.setTop (mkF m 45 #[.val (.ref (A 0)), .val (.int ux), .val (.int w2), .val (.ref (CA i4)), .val (.int v4), .unset, .unset] [(.int w13)])) (own_ldI X11 hx hZ e11 (own_PS_v4 P1) hw13 (g := (mkF m 44 #[.val (.ref (A 0)), .val (.int ux), .val (.int w2), .val (.ref (CA i4)), .val (.int v4), .unset, .unset] [(.int w12), (.ref (A 4))])) rfl rfl (hb hby d11_44)) ?_
        refine own_by (B := T11.setTop (mkF m 46 #[.val (.ref (A 0)), .val (.int ux), .val (.int w2), .val (.ref (CA i4)), .val (.int v4), .unset, .unset] [(.int (-1 : Int32)), (.int w13)])) (fun _ k => XS.iconst X11.here hx rfl (hb hby d11_45) k) ?_
        by_cases hc14 : w13 = (-1 : Int32)
        · rw [if_pos hc14] at hF
          refine own_by (B := T11.setTop (mkF m 72 #[.val (.ref (A 0)), .val (.int ux), .val (.int w2), .val (.ref (CA i4)), .val (.int v4), .unset, .unset] [])) (fun _ k => XS.icmpYes X11.here hx rfl (pc0 := 46) (pc' := 72) rfl (hb hby d11_46) rfl (XT.ii_eq_t hc14) (by decide) (by decide) k) ?_
          obtain rfl := Option.some.inj hF
          exact kont _ _ X11 N1 _ e11 P1
        · rw [if_neg hc14] at hF
          refine own_by (B := T11.setTop (mkF m 49 #[.val (.ref (A 0)), .val (.int ux), .val (.int w2), .val (.ref (CA i4)), .val (.int v4), .unset, .unset] [])) (fun _ k => XS.icmpNo X11.here hx rfl (hb hby d11_46) rfl (XT.ii_eq_f hc14) k) ?_
          refine own_by (B := T11.setTop (mkF m 50 #[.val (.ref (A 0)), .val (.int ux), .val (.int w2), .val (.ref (CA i4)), .val (.int v4), .unset, .unset] [(.ref (A 0))])) (fun _ k => XS.aloadN X11.here hx rfl (hb hby d11_49) rfl rfl  k) ?_
          obtain ⟨T15, X15, e15, st15⟩ := getF X11 hx hZ hown (host := "") (Or.inl (hw _ (List.mem_of_getElem? (i := 25) rfl))) Via.refl e11 (own_PS_f5 P1) (g := (mkF m 50 #[.val (.ref (A 0)), .val (.int ux), .val (.int w2), .val (.ref (CA i4)), .val (.int v4), .unset, .unset] [(.ref (A 0))])) rfl rfl (hb hby d11_50)
          refine own_by (B := T15.setTop (mkF m 53 #[.val (.ref (A 0)), .val (.int ux), .val (.int w2), .val (.ref (CA i4)), .val (.int v4), .unset, .unset] [(.ref (A 5))])) st15 ?_
          refine own_by (B := T15.setTop (mkF m 54 #[.val (.ref (A 0)), .val (.int ux), .val (.int w2), .val (.ref (CA i4)), .val (.int v4), .unset, .unset] [(.ref (A 0)), (.ref (A 5))])) (fun _ k => XS.aloadN X15.here hx rfl (hb hby d11_53) rfl rfl  k) ?_
          obtain ⟨T16, X16, e16, st16⟩ := getF X15 hx hZ hown (host := "") (Or.inl (hw _ (List.mem_of_getElem? (i := 22) rfl))) Via.refl e15 (own_PS_f4 P1) (g := (mkF m 54 #[.val (.ref (A 0)), .val (.int ux), .val (.int w2), .val (.ref (CA i4)), .val (.int v4), .unset, .unset] [(.ref (A 0)), (.ref (A 5))])) rfl rfl (hb hby d11_54)
          refine own_by (B := T16.setTop (mkF m 57 #[.val (.ref (A 0)), .val (.int ux), .val (.int w2), .val (.ref (CA i4)), .val (.int v4), .unset, .unset] [(.ref (A 4)), (.ref (A 5))])) st16 ?_
          refine own_by (B := T16.setTop (mkF m 58 #[.val (.ref (A 0)), .val (.int ux), .val (.int w2), .val (.ref (CA i4)), .val (.int v4), .unset, .unset] [(.ref (CA i4)), (.ref (A 4)), (.ref (A 5))])) (fun _ k => XS.aloadN X16.here hx rfl (hb hby d11_57) rfl rfl  k) ?_
          refine own_by (B := T16.setTop (mkF m 60 #[.val (.ref (A 0)), .val (.int ux), .val (.int w2), .val (.ref (CA i4)), .val (.int v4), .unset, .unset] [(.int v4), (.ref (CA i4)), (.ref (A 4)), (.ref (A 5))])) (fun _ k => XS.iload X16.here hx rfl (hb hby d11_58) rfl  k) ?_
          obtain ⟨w17, hw17, hF⟩ := own_bind hF
          refine own_by (B := T16.setTop (mkF m 61 #[.val (.ref (A 0)), .val (.int ux), .val (.int w2), .val (.ref (CA i4)), .val (.int v4), .unset, .unset] [(.int w17), (.ref (A 4)), (.ref (A 5))])) (own_ldI X16 hx hZ e16 ((own_PS_cc P1) _ _ hLc4).1 hw17 (g := (mkF m 60 #[.val (.ref (A 0)), .val (.int ux), .val (.int w2), .val (.ref (CA i4)), .val (.int v4), .unset, .unset] [(.int v4), (.ref (CA i4)), (.ref (A 4)), (.ref (A 5))])) rfl rfl (hb hby d11_60)) ?_
          obtain ⟨w18, hw18, hF⟩ := own_bind hF
          refine own_by (B := T16.setTop (mkF m 62 #[.val (.ref (A 0)), .val (.int ux), .val (.int w2), .val (.ref (CA i4)), .val (.int v4), .unset, .unset] [(.int w18), (.ref (A 5))])) (own_ldI X16 hx hZ e16 (own_PS_v4 P1) hw18 (g := (mkF m 61 #[.val (.ref (A 0)), .val (.int ux), .val (.int w2), .val (.ref (CA i4)), .val (.int v4), .unset, .unset] [(.int w17), (.ref (A 4)), (.ref (A 5))])) rfl rfl (hb hby d11_61)) ?_
          obtain ⟨w19, hw19, hF⟩ := own_bind hF
          refine own_by (B := T16.setTop (mkF m 63 #[.val (.ref (A 0)), .val (.int ux), .val (.int w2), .val (.ref (CA i4)), .val (.int v4), .unset, .unset] [(.int w19)])) (own_ldZ X16 hx hZ e16 (own_PS_v5 P1) hw19 (g := (mkF m 62 #[.val (.ref (A 0)), .val (.int ux), .val (.int w2), .val (.ref (CA i4)), .val (.int v4), .unset, .unset] [(.int w18), (.ref (A 5))])) rfl rfl (hb hby d11_62)) ?_
          by_cases hc20 : w19 = (0 : Int32)
          · rw [if_pos hc20] at hF
            refine own_by (B := T16.setTop (mkF m 72 #[.val (.ref (A 0)), .val (.int ux), .val (.int w2), .val (.ref (CA i4)), .val (.int v4), .unset, .unset] [])) (fun _ k => XS.ifYes X16.here hx rfl (pc0 := 63) (pc' := 72) rfl (hb hby d11_63) rfl (XT.i0_eq_t hc20) (by decide) (by decide) k) ?_
            obtain rfl := Option.some.inj hF
            exact kont _ _ X16 N1 _ e16 P1
          · rw [if_neg hc20] at hF
            refine own_by (B := T16.setTop (mkF m 66 #[.val (.ref (A 0)), .val (.int ux), .val (.int w2), .val (.ref (CA i4)), .val (.int v4), .unset, .unset] [])) (fun _ k => XS.ifNo X16.here hx rfl (hb hby d11_63) rfl (XT.i0_eq_f hc20) k) ?_
            refine own_by (B := T16.setTop (mkF m 69 #[.val (.ref (A 0)), .val (.int ux), .val (.int w2), .val (.ref (CA i4)), .val (.int (v4 + (1 : Int32))), .unset, .unset] [])) (fun _ k => XS.iinc X16.here hx rfl (hb hby d11_66) rfl (l' := #[.val (.ref (A 0)), .val (.int ux), .val (.int w2), .val (.ref (CA i4)), .val (.int (v4 + (1 : Int32))), .unset, .unset]) rfl k) ?_
            refine own_by (B := T16.setTop (mkF m 29 #[.val (.ref (A 0)), .val (.int ux), .val (.int w2), .val (.ref (CA i4)), .val (.int (v4 + (1 : Int32))), .unset, .unset] [])) (fun _ k => XS.goto X16.here hx rfl (pc0 := 69) (pc' := 29) rfl (hb hby d11_69) (by decide) (by decide) k) ?_
            exact ih (v4 + (1 : Int32)) uh9 _ hF _ _ X16 N1 _ e16 P1 kont
      · rw [if_neg hc10] at hF
        refine own_by (B := T1.setTop (mkF m 72 #[.val (.ref (A 0)), .val (.int ux), .val (.int w2), .val (.ref (CA i4)), .val (.int v4), .unset, .unset] [])) (fun _ k => XS.icmpYes X1.here hx rfl (pc0 := 33) (pc' := 72) rfl (hb hby d11_33) rfl (XT.ii_ge_t hc10) (by decide) (by decide) k) ?_
        obtain rfl := Option.some.inj hF
        exact kont _ _ X1 N1 _ e1 P1
  obtain ⟨q21, hq21, hF⟩ := own_bind hF
  refine hloop29 8 w8 u6 _ hq21 _ _ X7 N6 _ e7 P6 ?_
  intro T22 lc22 X22 N22 h22 e22 P22
  refine own_by (B := T22.setTop (mkF m 73 #[.val (.ref (A 0)), .val (.int ux), .val (.int w2), .val (.ref (CA i4)), .val (.int (q21.1)), .unset, .unset] [(.ref (A 0))])) (fun _ k => XS.aloadN X22.here hx rfl (hb hby d11_72) rfl rfl  k) ?_
  obtain ⟨T23, X23, e23, st23⟩ := getF X22 hx hZ hown (host := "") (Or.inl (hw _ (List.mem_of_getElem? (i := 40) rfl))) Via.refl e22 (own_PS_f12 P22) (g := (mkF m 73 #[.val (.ref (A 0)), .val (.int ux), .val (.int w2), .val (.ref (CA i4)), .val (.int (q21.1)), .unset, .unset] [(.ref (A 0))])) rfl rfl (hb hby d11_73)
  refine own_by (B := T23.setTop (mkF m 76 #[.val (.ref (A 0)), .val (.int ux), .val (.int w2), .val (.ref (CA i4)), .val (.int (q21.1)), .unset, .unset] [(.ref (A 12))])) st23 ?_
  refine own_by (B := T23.setTop (mkF m 77 #[.val (.ref (A 0)), .val (.int ux), .val (.int w2), .val (.ref (CA i4)), .val (.int (q21.1)), .unset, .unset] [(.int w2), (.ref (A 12))])) (fun _ k => XS.iloadN X23.here hx rfl (hb hby d11_76) rfl  k) ?_
  refine own_by (B := T23.setTop (mkF m 79 #[.val (.ref (A 0)), .val (.int ux), .val (.int w2), .val (.ref (CA i4)), .val (.int (q21.1)), .unset, .unset] [(.int (q21.1)), (.int w2), (.ref (A 12))])) (fun _ k => XS.iload X23.here hx rfl (hb hby d11_77) rfl  k) ?_
  obtain ⟨u24, hu24, hF⟩ := own_bind hF
  obtain ⟨zl24, hz24, hu24'⟩ := Option.map_eq_some_iff.mp hu24
  obtain ⟨T24, h24, X24, e24, W24, V24, st24⟩ := own_stI X23 hx hZ e23 (own_PS_v12 P22) hz24 (g := (mkF m 79 #[.val (.ref (A 0)), .val (.int ux), .val (.int w2), .val (.ref (CA i4)), .val (.int (q21.1)), .unset, .unset] [(.int (q21.1)), (.int w2), (.ref (A 12))])) rfl rfl (hb hby d11_79)
  have P24 : own_PS Z h24 n0 A K zr zc CA CK CL u24 := hu24' ▸ own_w_ff P22 W24 V24
  have N24 := Fr.snoc X24 N22 (own_PS_gn P22).2.2.2.2.2.2.2.2.2.2.2.2
  refine own_by (B := T24.setTop (mkF m 80 #[.val (.ref (A 0)), .val (.int ux), .val (.int w2), .val (.ref (CA i4)), .val (.int (q21.1)), .unset, .unset] [])) st24 ?_
  refine own_by (B := T24.setTop (mkF m 81 #[.val (.ref (A 0)), .val (.int ux), .val (.int w2), .val (.ref (CA i4)), .val (.int (q21.1)), .unset, .unset] [(.int (0 : Int32))])) (fun _ k => XS.iconst X24.here hx rfl (hb hby d11_80) k) ?_
  refine own_by (B := T24.setTop (mkF m 83 #[.val (.ref (A 0)), .val (.int ux), .val (.int w2), .val (.ref (CA i4)), .val (.int (q21.1)), .val (.int (0 : Int32)), .unset] [])) (fun _ k => XS.istore X24.here hx rfl (hb hby d11_81) rfl (l' := #[.val (.ref (A 0)), .val (.int ux), .val (.int w2), .val (.ref (CA i4)), .val (.int (q21.1)), .val (.int (0 : Int32)), .unset]) rfl k) ?_
  refine own_by (B := T24.setTop (mkF m 85 #[.val (.ref (A 0)), .val (.int ux), .val (.int w2), .val (.ref (CA i4)), .val (.int (q21.1)), .val (.int (0 : Int32)), .unset] [(.int (q21.1))])) (fun _ k => XS.iload X24.here hx rfl (hb hby d11_83) rfl  k) ?_
  refine own_by (B := T24.setTop (mkF m 87 #[.val (.ref (A 0)), .val (.int ux), .val (.int w2), .val (.ref (CA i4)), .val (.int (q21.1)), .val (.int (0 : Int32)), .val (.int (q21.1))] [])) (fun _ k => XS.istore X24.here hx rfl (hb hby d11_85) rfl (l' := #[.val (.ref (A 0)), .val (.int ux), .val (.int w2), .val (.ref (CA i4)), .val (.int (q21.1)), .val (.int (0 : Int32)), .val (.int (q21.1))]) rfl k) ?_
  have hloop87 : ∀ (fuel : Nat) (v5 : Int32) (v6 : Int32) (uh25 : own_S) (q25 : Int32 × Int32 × own_S), own_lowest_L87 CL fuel ux Lc4 v5 v6 uh25 = some q25 → ∀ (T1 : State) (lc1 : List Loc) (X1 : Stand p l e ({ frames := 0, cells := 0, slots := 0, locals := 0 } : Room) s m #[(.ref (A 0)), (.int ux)] below meth c T1 lc1 0 0) (N1 : Fr n0 lc1) (h1 : Heap) (e1 : T1.heap = h1) (P1 : own_PS Z h1 n0 A K zr zc CA CK CL uh25), (∀ (T2 : State) (lc2 : List Loc) (X2 : Stand p l e ({ frames := 0, cells := 0, slots := 0, locals := 0 } : Room) s m #[(.ref (A 0)), (.int ux)] below meth c T2 lc2 0 0) (N2 : Fr n0 lc2) (h2 : Heap) (e2 : T2.heap = h2) (P2 : own_PS Z h2 n0 A K zr zc CA CK CL (q25.2.2)), own_Go p.tables e below (own_K s below (own_QPr Z ru n0 A K zr zc CA CK CL) 0 0) (T2.setTop (mkF m 129 #[.val (.ref (A 0)), .val (.int ux), .val (.int w2), .val (.ref (CA i4)), .val (.int (q21.1)), .val (.int (q25.1)), .val (.int (q25.2.1))] []))) → own_Go p.tables e below (own_K s below (own_QPr Z ru n0 A K zr zc CA CK CL) 0 0) (T1.setTop (mkF m 87 #[.val (.ref (A 0)), .val (.int ux), .val (.int w2), .val (.ref (CA i4)), .val (.int (q21.1)), .val (.int v5), .val (.int v6)] [])) := by
    intro fuel
    induction fuel with
    | zero => intro v5 v6 uh25 q25 hF; cases hF
    | succ fuel ih =>
      intro v5 v6 uh25 q25 hF T1 lc1 X1 N1 h1 e1 P1 kont
      rw [own_lowest_L87] at hF
      refine own_by (B := T1.setTop (mkF m 89 #[.val (.ref (A 0)), .val (.int ux), .val (.int w2), .val (.ref (CA i4)), .val (.int (q21.1)), .val (.int v5), .val (.int v6)] [(.int v5)])) (fun _ k => XS.iload X1.here hx rfl (hb hby d11_87) rfl  k) ?_
      by_cases hc26 : v5 = (0 : Int32)
      · rw [if_pos hc26] at hF
        refine own_by (B := T1.setTop (mkF m 92 #[.val (.ref (A 0)), .val (.int ux), .val (.int w2), .val (.ref (CA i4)), .val (.int (q21.1)), .val (.int v5), .val (.int v6)] [])) (fun _ k => XS.ifNo X1.here hx rfl (hb hby d11_89) rfl (XT.i0_ne_f hc26) k) ?_
        refine own_by (B := T1.setTop (mkF m 94 #[.val (.ref (A 0)), .val (.int ux), .val (.int w2), .val (.ref (CA i4)), .val (.int (q21.1)), .val (.int v5), .val (.int v6)] [(.int v6)])) (fun _ k => XS.iload X1.here hx rfl (hb hby d11_92) rfl  k) ?_
        refine own_by (B := T1.setTop (mkF m 95 #[.val (.ref (A 0)), .val (.int ux), .val (.int w2), .val (.ref (CA i4)), .val (.int (q21.1)), .val (.int v5), .val (.int v6)] [(.ref (CA i4)), (.int v6)])) (fun _ k => XS.aloadN X1.here hx rfl (hb hby d11_94) rfl rfl  k) ?_
        refine own_by (B := T1.setTop (mkF m 96 #[.val (.ref (A 0)), .val (.int ux), .val (.int w2), .val (.ref (CA i4)), .val (.int (q21.1)), .val (.int v5), .val (.int v6)] [(.int (Int32.ofNat Lc4.length)), (.int v6)])) (own_lenI X1 hx hZ e1 ((own_PS_cc P1) _ _ hLc4).1 (g := (mkF m 95 #[.val (.ref (A 0)), .val (.int ux), .val (.int w2), .val (.ref (CA i4)), .val (.int (q21.1)), .val (.int v5), .val (.int v6)] [(.ref (CA i4)), (.int v6)])) rfl rfl (hb hby d11_95)) ?_
        by_cases hc27 : v6 < (Int32.ofNat Lc4.length)
        · rw [if_pos hc27] at hF
          refine own_by (B := T1.setTop (mkF m 99 #[.val (.ref (A 0)), .val (.int ux), .val (.int w2), .val (.ref (CA i4)), .val (.int (q21.1)), .val (.int v5), .val (.int v6)] [])) (fun _ k => XS.icmpNo X1.here hx rfl (hb hby d11_96) rfl (XT.ii_ge_f hc27) k) ?_
          refine own_by (B := T1.setTop (mkF m 100 #[.val (.ref (A 0)), .val (.int ux), .val (.int w2), .val (.ref (CA i4)), .val (.int (q21.1)), .val (.int v5), .val (.int v6)] [(.ref (CA i4))])) (fun _ k => XS.aloadN X1.here hx rfl (hb hby d11_99) rfl rfl  k) ?_
          refine own_by (B := T1.setTop (mkF m 102 #[.val (.ref (A 0)), .val (.int ux), .val (.int w2), .val (.ref (CA i4)), .val (.int (q21.1)), .val (.int v5), .val (.int v6)] [(.int v6), (.ref (CA i4))])) (fun _ k => XS.iload X1.here hx rfl (hb hby d11_100) rfl  k) ?_
          obtain ⟨w28, hw28, hF⟩ := own_bind hF
          refine own_by (B := T1.setTop (mkF m 103 #[.val (.ref (A 0)), .val (.int ux), .val (.int w2), .val (.ref (CA i4)), .val (.int (q21.1)), .val (.int v5), .val (.int v6)] [(.int w28)])) (own_ldI X1 hx hZ e1 ((own_PS_cc P1) _ _ hLc4).1 hw28 (g := (mkF m 102 #[.val (.ref (A 0)), .val (.int ux), .val (.int w2), .val (.ref (CA i4)), .val (.int (q21.1)), .val (.int v5), .val (.int v6)] [(.int v6), (.ref (CA i4))])) rfl rfl (hb hby d11_102)) ?_
          refine own_by (B := T1.setTop (mkF m 104 #[.val (.ref (A 0)), .val (.int ux), .val (.int w2), .val (.ref (CA i4)), .val (.int (q21.1)), .val (.int v5), .val (.int v6)] [(.ref (A 0)), (.int w28)])) (fun _ k => XS.aloadN X1.here hx rfl (hb hby d11_103) rfl rfl  k) ?_
          obtain ⟨T29, X29, e29, st29⟩ := getF X1 hx hZ hown (host := "") (Or.inl (hw _ (List.mem_of_getElem? (i := 20) rfl))) Via.refl e1 (own_PS_f3 P1) (g := (mkF m 104 #[.val (.ref (A 0)), .val (.int ux), .val (.int w2), .val (.ref (CA i4)), .val (.int (q21.1)), .val (.int v5), .val (.int v6)] [(.ref (A 0)), (.int w28)])) rfl rfl (hb hby d11_104)
          refine own_by (B := T29.setTop (mkF m 107 #[.val (.ref (A 0)), .val (.int ux), .val (.int w2), .val (.ref (CA i4)), .val (.int (q21.1)), .val (.int v5), .val (.int v6)] [(.ref (A 3)), (.int w28)])) st29 ?_
          refine own_by (B := T29.setTop (mkF m 108 #[.val (.ref (A 0)), .val (.int ux), .val (.int w2), .val (.ref (CA i4)), .val (.int (q21.1)), .val (.int v5), .val (.int v6)] [(.int ux), (.ref (A 3)), (.int w28)])) (fun _ k => XS.iloadN X29.here hx rfl (hb hby d11_107) rfl  k) ?_
          obtain ⟨w30, hw30, hF⟩ := own_bind hF
          refine own_by (B := T29.setTop (mkF m 109 #[.val (.ref (A 0)), .val (.int ux), .val (.int w2), .val (.ref (CA i4)), .val (.int (q21.1)), .val (.int v5), .val (.int v6)] [(.int w30), (.int w28)])) (own_ldI X29 hx hZ e29 (own_PS_v3 P1) hw30 (g := (mkF m 108 #[.val (.ref (A 0)), .val (.int ux), .val (.int w2), .val (.ref (CA i4)), .val (.int (q21.1)), .val (.int v5), .val (.int v6)] [(.int ux), (.ref (A 3)), (.int w28)])) rfl rfl (hb hby d11_108)) ?_
          by_cases hc31 : w28 < w30
          · rw [if_pos hc31] at hF
            refine own_by (B := T29.setTop (mkF m 112 #[.val (.ref (A 0)), .val (.int ux), .val (.int w2), .val (.ref (CA i4)), .val (.int (q21.1)), .val (.int v5), .val (.int v6)] [])) (fun _ k => XS.icmpNo X29.here hx rfl (hb hby d11_109) rfl (XT.ii_ge_f hc31) k) ?_
            cases hF
          · rw [if_neg hc31] at hF
            refine own_by (B := T29.setTop (mkF m 129 #[.val (.ref (A 0)), .val (.int ux), .val (.int w2), .val (.ref (CA i4)), .val (.int (q21.1)), .val (.int v5), .val (.int v6)] [])) (fun _ k => XS.icmpYes X29.here hx rfl (pc0 := 109) (pc' := 129) rfl (hb hby d11_109) rfl (XT.ii_ge_t hc31) (by decide) (by decide) k) ?_
            obtain rfl := Option.some.inj hF
            exact kont _ _ X29 N1 _ e29 P1
        · rw [if_neg hc27] at hF
          refine own_by (B := T1.setTop (mkF m 129 #[.val (.ref (A 0)), .val (.int ux), .val (.int w2), .val (.ref (CA i4)), .val (.int (q21.1)), .val (.int v5), .val (.int v6)] [])) (fun _ k => XS.icmpYes X1.here hx rfl (pc0 := 96) (pc' := 129) rfl (hb hby d11_96) rfl (XT.ii_ge_t hc27) (by decide) (by decide) k) ?_
          obtain rfl := Option.some.inj hF
          exact kont _ _ X1 N1 _ e1 P1
      · rw [if_neg hc26] at hF
        refine own_by (B := T1.setTop (mkF m 129 #[.val (.ref (A 0)), .val (.int ux), .val (.int w2), .val (.ref (CA i4)), .val (.int (q21.1)), .val (.int v5), .val (.int v6)] [])) (fun _ k => XS.ifYes X1.here hx rfl (pc0 := 89) (pc' := 129) rfl (hb hby d11_89) rfl (XT.i0_ne_t hc26) (by decide) (by decide) k) ?_
        obtain rfl := Option.some.inj hF
        exact kont _ _ X1 N1 _ e1 P1
  obtain ⟨q32, hq32, hF⟩ := own_bind hF
  refine hloop87 8 (0 : Int32) (q21.1) u24 _ hq32 _ _ X24 N24 _ e24 P24 ?_
  intro T33 lc33 X33 N33 h33 e33 P33
  refine own_by (B := T33.setTop (mkF m 130 #[.val (.ref (A 0)), .val (.int ux), .val (.int w2), .val (.ref (CA i4)), .val (.int (q21.1)), .val (.int (q32.1)), .val (.int (q32.2.1))] [(.ref (A 0))])) (fun _ k => XS.aloadN X33.here hx rfl (hb hby d11_129) rfl rfl  k) ?_
  obtain ⟨T34, X34, e34, st34⟩ := getF X33 hx hZ hown (host := "") (Or.inl (hw _ (List.mem_of_getElem? (i := 20) rfl))) Via.refl e33 (own_PS_f3 P33) (g := (mkF m 130 #[.val (.ref (A 0)), .val (.int ux), .val (.int w2), .val (.ref (CA i4)), .val (.int (q21.1)), .val (.int (q32.1)), .val (.int (q32.2.1))] [(.ref (A 0))])) rfl rfl (hb hby d11_130)
  refine own_by (B := T34.setTop (mkF m 133 #[.val (.ref (A 0)), .val (.int ux), .val (.int w2), .val (.ref (CA i4)), .val (.int (q21.1)), .val (.int (q32.1)), .val (.int (q32.2.1))] [(.ref (A 3))])) st34 ?_
  refine own_by (B := T34.setTop (mkF m 134 #[.val (.ref (A 0)), .val (.int ux), .val (.int w2), .val (.ref (CA i4)), .val (.int (q21.1)), .val (.int (q32.1)), .val (.int (q32.2.1))] [(.int ux), (.ref (A 3))])) (fun _ k => XS.iloadN X34.here hx rfl (hb hby d11_133) rfl  k) ?_
  obtain ⟨w35, hw35, hF⟩ := own_bind hF
  refine own_by (B := T34.setTop (mkF m 135 #[.val (.ref (A 0)), .val (.int ux), .val (.int w2), .val (.ref (CA i4)), .val (.int (q21.1)), .val (.int (q32.1)), .val (.int (q32.2.1))] [(.int w35)])) (own_ldI X34 hx hZ e34 (own_PS_v3 P33) hw35 (g := (mkF m 134 #[.val (.ref (A 0)), .val (.int ux), .val (.int w2), .val (.ref (CA i4)), .val (.int (q21.1)), .val (.int (q32.1)), .val (.int (q32.2.1))] [(.int ux), (.ref (A 3))])) rfl rfl (hb hby d11_134)) ?_
  obtain rfl := Option.some.inj hF
  exact own_retI X34 hx hrt hlk (hb hby d11_135) (by decide) (by decide) (by show own_QPr Z ((w35, (q32.2.2))) n0 A K zr zc CA CK CL _ T34.heap _; rw [e34]; exact ⟨rfl, N33, P33⟩)

def own_add (CL : List (List Int32)) (u0 : own_S) (ui : Nat) : Option own_S := (own_st_F u0 (own_ro u0) ui).bind fun u3 => (own_st_ki u3 (own_ro u3) (own_ro u3)).bind fun u7 => (own_st_pa u7 (own_ro u7) (-1 : Int32)).bind fun u10 => ((some (own_ro_set u10 ((own_ro u10) + (1 : Int32))) : Option own_S)).bind fun u12 => some u12

theorem d5_0 : decode prog_77_method_2_code 0 = .ok (.aload_n 0, 1) := by decide +kernel
theorem d5_1 : decode prog_77_method_2_code 1 = .ok (.getfield 9, 3) := by decide +kernel
theorem d5_4 : decode prog_77_method_2_code 4 = .ok (.aload_n 0, 1) := by decide +kernel
theorem d5_5 : decode prog_77_method_2_code 5 = .ok (.getfield 56, 3) := by decide +kernel
theorem d5_8 : decode prog_77_method_2_code 8 = .ok (.aload_n 1, 1) := by decide +kernel
theorem d5_9 : decode prog_77_method_2_code 9 = .ok (.aastore, 1) := by decide +kernel
theorem d5_10 : decode prog_77_method_2_code 10 = .ok (.aload_n 0, 1) := by decide +kernel
theorem d5_11 : decode prog_77_method_2_code 11 = .ok (.getfield 15, 3) := by decide +kernel
theorem d5_14 : decode prog_77_method_2_code 14 = .ok (.aload_n 0, 1) := by decide +kernel
theorem d5_15 : decode prog_77_method_2_code 15 = .ok (.getfield 56, 3) := by decide +kernel
theorem d5_18 : decode prog_77_method_2_code 18 = .ok (.aload_n 0, 1) := by decide +kernel
theorem d5_19 : decode prog_77_method_2_code 19 = .ok (.getfield 56, 3) := by decide +kernel
theorem d5_22 : decode prog_77_method_2_code 22 = .ok (.iastore, 1) := by decide +kernel
theorem d5_23 : decode prog_77_method_2_code 23 = .ok (.aload_n 0, 1) := by decide +kernel
theorem d5_24 : decode prog_77_method_2_code 24 = .ok (.getfield 18, 3) := by decide +kernel
theorem d5_27 : decode prog_77_method_2_code 27 = .ok (.aload_n 0, 1) := by decide +kernel
theorem d5_28 : decode prog_77_method_2_code 28 = .ok (.getfield 56, 3) := by decide +kernel
theorem d5_31 : decode prog_77_method_2_code 31 = .ok (.iconst (-1), 1) := by decide +kernel
theorem d5_32 : decode prog_77_method_2_code 32 = .ok (.iastore, 1) := by decide +kernel
theorem d5_33 : decode prog_77_method_2_code 33 = .ok (.aload_n 0, 1) := by decide +kernel
theorem d5_34 : decode prog_77_method_2_code 34 = .ok (.dup, 1) := by decide +kernel
theorem d5_35 : decode prog_77_method_2_code 35 = .ok (.getfield 56, 3) := by decide +kernel
theorem d5_38 : decode prog_77_method_2_code 38 = .ok (.iconst 1, 1) := by decide +kernel
theorem d5_39 : decode prog_77_method_2_code 39 = .ok (.iadd, 1) := by decide +kernel
theorem d5_40 : decode prog_77_method_2_code 40 = .ok (.putfield 56, 3) := by decide +kernel
theorem d5_43 : decode prog_77_method_2_code 43 = .ok (.return_, 1) := by decide +kernel
theorem pn_rm_add : plainFor (⟨"com/example/document_pattern_rules/documentpatternrules/pattern/Pairing", "add", "([I)V"⟩ : MethodName) = true := by first | exact plainFor_of_name (by first | (simp [plainName, overriddenIn]; done) | decide +kernel) | exact Jvm.Free.JP.mathPlain rfl (by decide +kernel) | decide +kernel
theorem ef_rm_add (m : MethodId) (x0 : Nat) (x1 : Nat) : entryFrame m #[(.ref x0), (.ref x1)] 2 = mkF m 0 #[.val (.ref x0), .val (.ref x1)] [] := by first | (simp [entryFrame, mkF, argsToLocals, Value.category]; done) | rfl
set_option maxRecDepth 65536 in
set_option maxHeartbeats 40000000 in
theorem rm_add (l : Launch) (Z : State) (a0 : Array Value) (hw : ∀ d ∈ tables_1, d.before a0 Z = true) (ws : List Jvm.Cond) (A : Nat → Nat) (K : Nat → ClassId) (zr zc : Int32) (CA : Nat → Nat) (CK : Nat → ClassId) (CL : List (List Int32)) (u0 : own_S) (ru : own_S) (ui : Nat) (Lu : List Int32) (h0 : Heap) (n0 : Nat) (Z0 : n0 ≤ h0.size) (P0 : own_PS Z h0 n0 A K zr zc CA CK CL u0) (hF : own_add CL u0 ui = some ru) (hLu : CL[ui]? = some Lu) :
    MetFree l (⟨"com/example/document_pattern_rules/documentpatternrules/pattern/Pairing", "add", "([I)V"⟩ : MethodName) (head1 (Jvm.Cond.code (⟨"com/example/document_pattern_rules/documentpatternrules/pattern/Pairing", "add", "([I)V"⟩ : MethodName) prog_77_method_2_code 2 none :: ws) ({ frames := 0, cells := 0, slots := 0, locals := 0 } : Room)) (fun a U => a = #[(.ref (A 0)), (.ref (CA ui))] ∧ Z.Warmed39 U.vm ∧ U.heap = h0) (fun _ _ _ _ _ => True) (fun _ U o U' => ∃ v L, o = .returned v ∧ (own_QPv Z ru n0 A K zr zc CA CK CL) v U'.heap L ∧ FrameEnd U o U' L 0 0) := by
  refine MetFree.of_bodySF pn_rm_add hisR ?_
  intro p e s m args below meth c s₁ Bd hml0 hP hK
  obtain ⟨rfl, hZ, hh⟩ := hP
  have hx := Bd.exec
  have hby := Bd.bytes
  have hml : c.maxLocals = 2 := hml0
  have hown : s.vm.findClass "com/example/document_pattern_rules/documentpatternrules/pattern/Pairing" = some m.cls := findClass_of_methodNamed Bd.named
  have hnm := (name_of_methodNamed Bd.named Bd.method).1
  have hrt := Bd.returns
  have hlk := Bd.notSynchronized
  have X0 : Stand p l e ({ frames := 0, cells := 0, slots := 0, locals := 0 } : Room) s m #[(.ref (A 0)), (.ref (CA ui))] below meth c s₁ [] 0 0 := Stand.of_body Bd
  have e0 : s₁.heap = h0 := by rw [← hh, Bd.state]; rfl
  have N0 := Fr.nil n0
  unfold own_add at hF
  refine own_done (B := s₁.setTop (mkF m 0 #[.val (.ref (A 0)), .val (.ref (CA ui))] [])) (fun t k => castTop (ef_rm_add m (A 0) (CA ui)) k) ?_
  refine own_by (B := s₁.setTop (mkF m 1 #[.val (.ref (A 0)), .val (.ref (CA ui))] [(.ref (A 0))])) (fun _ k => XS.aloadN X0.here hx rfl (hb hby d5_0) rfl rfl  k) ?_
  obtain ⟨T1, X1, e1, st1⟩ := getF X0 hx hZ hown (host := "") (Or.inl (hw _ (List.mem_of_getElem? (i := 16) rfl))) Via.refl e0 (own_PS_f1 P0) (g := (mkF m 1 #[.val (.ref (A 0)), .val (.ref (CA ui))] [(.ref (A 0))])) rfl rfl (hb hby d5_1)
  refine own_by (B := T1.setTop (mkF m 4 #[.val (.ref (A 0)), .val (.ref (CA ui))] [(.ref (A 1))])) st1 ?_
  refine own_by (B := T1.setTop (mkF m 5 #[.val (.ref (A 0)), .val (.ref (CA ui))] [(.ref (A 0)), (.ref (A 1))])) (fun _ k => XS.aloadN X1.here hx rfl (hb hby d5_4) rfl rfl  k) ?_
  obtain ⟨T2, X2, e2, st2⟩ := getF X1 hx hZ hown (host := "") (Or.inl (hw _ (List.mem_of_getElem? (i := 51) rfl))) Via.refl e1 (own_PS_fro P0) (g := (mkF m 5 #[.val (.ref (A 0)), .val (.ref (CA ui))] [(.ref (A 0)), (.ref (A 1))])) rfl rfl (hb hby d5_5)
  refine own_by (B := T2.setTop (mkF m 8 #[.val (.ref (A 0)), .val (.ref (CA ui))] [(.int (own_ro u0)), (.ref (A 1))])) st2 ?_
  refine own_by (B := T2.setTop (mkF m 9 #[.val (.ref (A 0)), .val (.ref (CA ui))] [(.ref (CA ui)), (.int (own_ro u0)), (.ref (A 1))])) (fun _ k => XS.aloadN X2.here hx rfl (hb hby d5_8) rfl rfl  k) ?_
  obtain ⟨u3, hu3, hF⟩ := own_bind hF
  obtain ⟨zl3, hz3, hu3'⟩ := Option.map_eq_some_iff.mp hu3
  obtain ⟨T3, h3, X3, e3, W3, V3, st3⟩ := own_stF X2 hx hZ e2 (own_PS_v1 P0) ((own_PS_cc P0) _ _ hLu).2.1 hz3 (g := (mkF m 9 #[.val (.ref (A 0)), .val (.ref (CA ui))] [(.ref (CA ui)), (.int (own_ro u0)), (.ref (A 1))])) rfl rfl (hb hby d5_9)
  have P3 : own_PS Z h3 n0 A K zr zc CA CK CL u3 := hu3' ▸ own_w_F P0 W3 V3
  have N3 := Fr.snoc X3 N0 (own_PS_gn P0).2.1
  refine own_by (B := T3.setTop (mkF m 10 #[.val (.ref (A 0)), .val (.ref (CA ui))] [])) st3 ?_
  refine own_by (B := T3.setTop (mkF m 11 #[.val (.ref (A 0)), .val (.ref (CA ui))] [(.ref (A 0))])) (fun _ k => XS.aloadN X3.here hx rfl (hb hby d5_10) rfl rfl  k) ?_
  obtain ⟨T4, X4, e4, st4⟩ := getF X3 hx hZ hown (host := "") (Or.inl (hw _ (List.mem_of_getElem? (i := 18) rfl))) Via.refl e3 (own_PS_f2 P3) (g := (mkF m 11 #[.val (.ref (A 0)), .val (.ref (CA ui))] [(.ref (A 0))])) rfl rfl (hb hby d5_11)
  refine own_by (B := T4.setTop (mkF m 14 #[.val (.ref (A 0)), .val (.ref (CA ui))] [(.ref (A 2))])) st4 ?_
  refine own_by (B := T4.setTop (mkF m 15 #[.val (.ref (A 0)), .val (.ref (CA ui))] [(.ref (A 0)), (.ref (A 2))])) (fun _ k => XS.aloadN X4.here hx rfl (hb hby d5_14) rfl rfl  k) ?_
  obtain ⟨T5, X5, e5, st5⟩ := getF X4 hx hZ hown (host := "") (Or.inl (hw _ (List.mem_of_getElem? (i := 51) rfl))) Via.refl e4 (own_PS_fro P3) (g := (mkF m 15 #[.val (.ref (A 0)), .val (.ref (CA ui))] [(.ref (A 0)), (.ref (A 2))])) rfl rfl (hb hby d5_15)
  refine own_by (B := T5.setTop (mkF m 18 #[.val (.ref (A 0)), .val (.ref (CA ui))] [(.int (own_ro u3)), (.ref (A 2))])) st5 ?_
  refine own_by (B := T5.setTop (mkF m 19 #[.val (.ref (A 0)), .val (.ref (CA ui))] [(.ref (A 0)), (.int (own_ro u3)), (.ref (A 2))])) (fun _ k => XS.aloadN X5.here hx rfl (hb hby d5_18) rfl rfl  k) ?_
  obtain ⟨T6, X6, e6, st6⟩ := getF X5 hx hZ hown (host := "") (Or.inl (hw _ (List.mem_of_getElem? (i := 51) rfl))) Via.refl e5 (own_PS_fro P3) (g := (mkF m 19 #[.val (.ref (A 0)), .val (.ref (CA ui))] [(.ref (A 0)), (.int (own_ro u3)), (.ref (A 2))])) rfl rfl (hb hby d5_19)
  refine own_by (B := T6.setTop (mkF m 22 #[.val (.ref (A 0)), .val (.ref (CA ui))] [(.int (own_ro u3)), (.int (own_ro u3)), (.ref (A 2))])) st6 ?_
  obtain ⟨u7, hu7, hF⟩ := own_bind hF
  obtain ⟨zl7, hz7, hu7'⟩ := Option.map_eq_some_iff.mp hu7
  obtain ⟨T7, h7, X7, e7, W7, V7, st7⟩ := own_stI X6 hx hZ e6 (own_PS_v2 P3) hz7 (g := (mkF m 22 #[.val (.ref (A 0)), .val (.ref (CA ui))] [(.int (own_ro u3)), (.int (own_ro u3)), (.ref (A 2))])) rfl rfl (hb hby d5_22)
  have P7 : own_PS Z h7 n0 A K zr zc CA CK CL u7 := hu7' ▸ own_w_ki P3 W7 V7
  have N7 := Fr.snoc X7 N3 (own_PS_gn P3).2.2.1
  refine own_by (B := T7.setTop (mkF m 23 #[.val (.ref (A 0)), .val (.ref (CA ui))] [])) st7 ?_
  refine own_by (B := T7.setTop (mkF m 24 #[.val (.ref (A 0)), .val (.ref (CA ui))] [(.ref (A 0))])) (fun _ k => XS.aloadN X7.here hx rfl (hb hby d5_23) rfl rfl  k) ?_
  obtain ⟨T8, X8, e8, st8⟩ := getF X7 hx hZ hown (host := "") (Or.inl (hw _ (List.mem_of_getElem? (i := 20) rfl))) Via.refl e7 (own_PS_f3 P7) (g := (mkF m 24 #[.val (.ref (A 0)), .val (.ref (CA ui))] [(.ref (A 0))])) rfl rfl (hb hby d5_24)
  refine own_by (B := T8.setTop (mkF m 27 #[.val (.ref (A 0)), .val (.ref (CA ui))] [(.ref (A 3))])) st8 ?_
  refine own_by (B := T8.setTop (mkF m 28 #[.val (.ref (A 0)), .val (.ref (CA ui))] [(.ref (A 0)), (.ref (A 3))])) (fun _ k => XS.aloadN X8.here hx rfl (hb hby d5_27) rfl rfl  k) ?_
  obtain ⟨T9, X9, e9, st9⟩ := getF X8 hx hZ hown (host := "") (Or.inl (hw _ (List.mem_of_getElem? (i := 51) rfl))) Via.refl e8 (own_PS_fro P7) (g := (mkF m 28 #[.val (.ref (A 0)), .val (.ref (CA ui))] [(.ref (A 0)), (.ref (A 3))])) rfl rfl (hb hby d5_28)
  refine own_by (B := T9.setTop (mkF m 31 #[.val (.ref (A 0)), .val (.ref (CA ui))] [(.int (own_ro u7)), (.ref (A 3))])) st9 ?_
  refine own_by (B := T9.setTop (mkF m 32 #[.val (.ref (A 0)), .val (.ref (CA ui))] [(.int (-1 : Int32)), (.int (own_ro u7)), (.ref (A 3))])) (fun _ k => XS.iconst X9.here hx rfl (hb hby d5_31) k) ?_
  obtain ⟨u10, hu10, hF⟩ := own_bind hF
  obtain ⟨zl10, hz10, hu10'⟩ := Option.map_eq_some_iff.mp hu10
  obtain ⟨T10, h10, X10, e10, W10, V10, st10⟩ := own_stI X9 hx hZ e9 (own_PS_v3 P7) hz10 (g := (mkF m 32 #[.val (.ref (A 0)), .val (.ref (CA ui))] [(.int (-1 : Int32)), (.int (own_ro u7)), (.ref (A 3))])) rfl rfl (hb hby d5_32)
  have P10 : own_PS Z h10 n0 A K zr zc CA CK CL u10 := hu10' ▸ own_w_pa P7 W10 V10
  have N10 := Fr.snoc X10 N7 (own_PS_gn P7).2.2.2.1
  refine own_by (B := T10.setTop (mkF m 33 #[.val (.ref (A 0)), .val (.ref (CA ui))] [])) st10 ?_
  refine own_by (B := T10.setTop (mkF m 34 #[.val (.ref (A 0)), .val (.ref (CA ui))] [(.ref (A 0))])) (fun _ k => XS.aloadN X10.here hx rfl (hb hby d5_33) rfl rfl  k) ?_
  refine own_by (B := T10.setTop (mkF m 35 #[.val (.ref (A 0)), .val (.ref (CA ui))] [(.ref (A 0)), (.ref (A 0))])) (fun _ k => XS.dup X10.here hx rfl (hb hby d5_34) rfl rfl k) ?_
  obtain ⟨T11, X11, e11, st11⟩ := getF X10 hx hZ hown (host := "") (Or.inl (hw _ (List.mem_of_getElem? (i := 51) rfl))) Via.refl e10 (own_PS_fro P10) (g := (mkF m 35 #[.val (.ref (A 0)), .val (.ref (CA ui))] [(.ref (A 0)), (.ref (A 0))])) rfl rfl (hb hby d5_35)
  refine own_by (B := T11.setTop (mkF m 38 #[.val (.ref (A 0)), .val (.ref (CA ui))] [(.int (own_ro u10)), (.ref (A 0))])) st11 ?_
  refine own_by (B := T11.setTop (mkF m 39 #[.val (.ref (A 0)), .val (.ref (CA ui))] [(.int (1 : Int32)), (.int (own_ro u10)), (.ref (A 0))])) (fun _ k => XS.iconst X11.here hx rfl (hb hby d5_38) k) ?_
  refine own_by (B := T11.setTop (mkF m 40 #[.val (.ref (A 0)), .val (.ref (CA ui))] [(.int ((own_ro u10) + (1 : Int32))), (.ref (A 0))])) (fun _ k => XS.iadd X11.here hx rfl (hb hby d5_39) rfl k) ?_
  obtain ⟨u12, hu12, hF⟩ := own_bind hF
  obtain ⟨T12, h12, X12, e12, W12, st12⟩ := putF X11 hx hZ hown (host := "") (Or.inl (hw _ (List.mem_of_getElem? (i := 51) rfl))) Via.refl e11 (own_PS_fro P10) (own_PS_E P10) (Or.inl (hw _ (List.mem_of_getElem? (i := 52) rfl))) (hw _ (List.mem_of_getElem? (i := 6) rfl)) (ty := .int) (by decide) rfl rfl (g := (mkF m 40 #[.val (.ref (A 0)), .val (.ref (CA ui))] [(.int ((own_ro u10) + (1 : Int32))), (.ref (A 0))])) rfl rfl (hb hby d5_40)
  have P12 : own_PS Z h12 n0 A K zr zc CA CK CL u12 := Option.some.inj hu12 ▸ own_w_ro P10 hw W12
  have N12 := Fr.snoc X12 N10 (own_PS_gn P10).1
  refine own_by (B := T12.setTop (mkF m 43 #[.val (.ref (A 0)), .val (.ref (CA ui))] [])) st12 ?_
  obtain rfl := Option.some.inj hF
  exact own_retV X12 hx hrt hlk (hb hby d5_43) (by decide) (by decide) (by show own_QPv Z (u12) n0 A K zr zc CA CK CL _ T12.heap _; rw [e12]; exact ⟨rfl, N12, P12⟩)

def own_addAlike (CL : List (List Int32)) (u0 : own_S) (ux : Int32) : Option own_S := (own_ld_F u0 ux).bind fun i4 => ((CL[i4]? : Option (List Int32))).bind fun Lc4 => (own_st_F u0 (own_ro u0) i4).bind fun u5 => (own_ld_ki u5 ux).bind fun w9 => (own_st_ki u5 (own_ro u5) w9).bind fun u10 => (own_st_pa u10 (own_ro u10) (-1 : Int32)).bind fun u13 => ((some (own_ro_set u13 ((own_ro u13) + (1 : Int32))) : Option own_S)).bind fun u15 => some u15

theorem d6_0 : decode prog_77_method_3_code 0 = .ok (.aload_n 0, 1) := by decide +kernel
theorem d6_1 : decode prog_77_method_3_code 1 = .ok (.getfield 9, 3) := by decide +kernel
theorem d6_4 : decode prog_77_method_3_code 4 = .ok (.aload_n 0, 1) := by decide +kernel
theorem d6_5 : decode prog_77_method_3_code 5 = .ok (.getfield 56, 3) := by decide +kernel
theorem d6_8 : decode prog_77_method_3_code 8 = .ok (.aload_n 0, 1) := by decide +kernel
theorem d6_9 : decode prog_77_method_3_code 9 = .ok (.getfield 9, 3) := by decide +kernel
theorem d6_12 : decode prog_77_method_3_code 12 = .ok (.iload_n 1, 1) := by decide +kernel
theorem d6_13 : decode prog_77_method_3_code 13 = .ok (.aaload, 1) := by decide +kernel
theorem d6_14 : decode prog_77_method_3_code 14 = .ok (.aastore, 1) := by decide +kernel
theorem d6_15 : decode prog_77_method_3_code 15 = .ok (.aload_n 0, 1) := by decide +kernel
theorem d6_16 : decode prog_77_method_3_code 16 = .ok (.getfield 15, 3) := by decide +kernel
theorem d6_19 : decode prog_77_method_3_code 19 = .ok (.aload_n 0, 1) := by decide +kernel
theorem d6_20 : decode prog_77_method_3_code 20 = .ok (.getfield 56, 3) := by decide +kernel
theorem d6_23 : decode prog_77_method_3_code 23 = .ok (.aload_n 0, 1) := by decide +kernel
theorem d6_24 : decode prog_77_method_3_code 24 = .ok (.getfield 15, 3) := by decide +kernel
theorem d6_27 : decode prog_77_method_3_code 27 = .ok (.iload_n 1, 1) := by decide +kernel
theorem d6_28 : decode prog_77_method_3_code 28 = .ok (.iaload, 1) := by decide +kernel
theorem d6_29 : decode prog_77_method_3_code 29 = .ok (.iastore, 1) := by decide +kernel
theorem d6_30 : decode prog_77_method_3_code 30 = .ok (.aload_n 0, 1) := by decide +kernel
theorem d6_31 : decode prog_77_method_3_code 31 = .ok (.getfield 18, 3) := by decide +kernel
theorem d6_34 : decode prog_77_method_3_code 34 = .ok (.aload_n 0, 1) := by decide +kernel
theorem d6_35 : decode prog_77_method_3_code 35 = .ok (.getfield 56, 3) := by decide +kernel
theorem d6_38 : decode prog_77_method_3_code 38 = .ok (.iconst (-1), 1) := by decide +kernel
theorem d6_39 : decode prog_77_method_3_code 39 = .ok (.iastore, 1) := by decide +kernel
theorem d6_40 : decode prog_77_method_3_code 40 = .ok (.aload_n 0, 1) := by decide +kernel
theorem d6_41 : decode prog_77_method_3_code 41 = .ok (.dup, 1) := by decide +kernel
theorem d6_42 : decode prog_77_method_3_code 42 = .ok (.getfield 56, 3) := by decide +kernel
theorem d6_45 : decode prog_77_method_3_code 45 = .ok (.iconst 1, 1) := by decide +kernel
theorem d6_46 : decode prog_77_method_3_code 46 = .ok (.iadd, 1) := by decide +kernel
theorem d6_47 : decode prog_77_method_3_code 47 = .ok (.putfield 56, 3) := by decide +kernel
theorem d6_50 : decode prog_77_method_3_code 50 = .ok (.return_, 1) := by decide +kernel
theorem pn_rm_addAlike : plainFor (⟨"com/example/document_pattern_rules/documentpatternrules/pattern/Pairing", "addAlike", "(I)V"⟩ : MethodName) = true := by first | exact plainFor_of_name (by first | (simp [plainName, overriddenIn]; done) | decide +kernel) | exact Jvm.Free.JP.mathPlain rfl (by decide +kernel) | decide +kernel
theorem ef_rm_addAlike (m : MethodId) (x0 : Nat) (x1 : Int32) : entryFrame m #[(.ref x0), (.int x1)] 2 = mkF m 0 #[.val (.ref x0), .val (.int x1)] [] := by first | (simp [entryFrame, mkF, argsToLocals, Value.category]; done) | rfl
set_option maxRecDepth 65536 in
set_option maxHeartbeats 40000000 in
theorem rm_addAlike (l : Launch) (Z : State) (a0 : Array Value) (hw : ∀ d ∈ tables_1, d.before a0 Z = true) (ws : List Jvm.Cond) (A : Nat → Nat) (K : Nat → ClassId) (zr zc : Int32) (CA : Nat → Nat) (CK : Nat → ClassId) (CL : List (List Int32)) (u0 : own_S) (ru : own_S) (ux : Int32) (h0 : Heap) (n0 : Nat) (Z0 : n0 ≤ h0.size) (P0 : own_PS Z h0 n0 A K zr zc CA CK CL u0) (hF : own_addAlike CL u0 ux = some ru) :
    MetFree l (⟨"com/example/document_pattern_rules/documentpatternrules/pattern/Pairing", "addAlike", "(I)V"⟩ : MethodName) (head1 (Jvm.Cond.code (⟨"com/example/document_pattern_rules/documentpatternrules/pattern/Pairing", "addAlike", "(I)V"⟩ : MethodName) prog_77_method_3_code 2 none :: ws) ({ frames := 0, cells := 0, slots := 0, locals := 0 } : Room)) (fun a U => a = #[(.ref (A 0)), (.int ux)] ∧ Z.Warmed39 U.vm ∧ U.heap = h0) (fun _ _ _ _ _ => True) (fun _ U o U' => ∃ v L, o = .returned v ∧ (own_QPv Z ru n0 A K zr zc CA CK CL) v U'.heap L ∧ FrameEnd U o U' L 0 0) := by
  refine MetFree.of_bodySF pn_rm_addAlike hisR ?_
  intro p e s m args below meth c s₁ Bd hml0 hP hK
  obtain ⟨rfl, hZ, hh⟩ := hP
  have hx := Bd.exec
  have hby := Bd.bytes
  have hml : c.maxLocals = 2 := hml0
  have hown : s.vm.findClass "com/example/document_pattern_rules/documentpatternrules/pattern/Pairing" = some m.cls := findClass_of_methodNamed Bd.named
  have hnm := (name_of_methodNamed Bd.named Bd.method).1
  have hrt := Bd.returns
  have hlk := Bd.notSynchronized
  have X0 : Stand p l e ({ frames := 0, cells := 0, slots := 0, locals := 0 } : Room) s m #[(.ref (A 0)), (.int ux)] below meth c s₁ [] 0 0 := Stand.of_body Bd
  have e0 : s₁.heap = h0 := by rw [← hh, Bd.state]; rfl
  have N0 := Fr.nil n0
  unfold own_addAlike at hF
  refine own_done (B := s₁.setTop (mkF m 0 #[.val (.ref (A 0)), .val (.int ux)] [])) (fun t k => castTop (ef_rm_addAlike m (A 0) ux) k) ?_
  refine own_by (B := s₁.setTop (mkF m 1 #[.val (.ref (A 0)), .val (.int ux)] [(.ref (A 0))])) (fun _ k => XS.aloadN X0.here hx rfl (hb hby d6_0) rfl rfl  k) ?_
  obtain ⟨T1, X1, e1, st1⟩ := getF X0 hx hZ hown (host := "") (Or.inl (hw _ (List.mem_of_getElem? (i := 16) rfl))) Via.refl e0 (own_PS_f1 P0) (g := (mkF m 1 #[.val (.ref (A 0)), .val (.int ux)] [(.ref (A 0))])) rfl rfl (hb hby d6_1)
  refine own_by (B := T1.setTop (mkF m 4 #[.val (.ref (A 0)), .val (.int ux)] [(.ref (A 1))])) st1 ?_
  refine own_by (B := T1.setTop (mkF m 5 #[.val (.ref (A 0)), .val (.int ux)] [(.ref (A 0)), (.ref (A 1))])) (fun _ k => XS.aloadN X1.here hx rfl (hb hby d6_4) rfl rfl  k) ?_
  obtain ⟨T2, X2, e2, st2⟩ := getF X1 hx hZ hown (host := "") (Or.inl (hw _ (List.mem_of_getElem? (i := 51) rfl))) Via.refl e1 (own_PS_fro P0) (g := (mkF m 5 #[.val (.ref (A 0)), .val (.int ux)] [(.ref (A 0)), (.ref (A 1))])) rfl rfl (hb hby d6_5)
  refine own_by (B := T2.setTop (mkF m 8 #[.val (.ref (A 0)), .val (.int ux)] [(.int (own_ro u0)), (.ref (A 1))])) st2 ?_
  refine own_by (B := T2.setTop (mkF m 9 #[.val (.ref (A 0)), .val (.int ux)] [(.ref (A 0)), (.int (own_ro u0)), (.ref (A 1))])) (fun _ k => XS.aloadN X2.here hx rfl (hb hby d6_8) rfl rfl  k) ?_
  obtain ⟨T3, X3, e3, st3⟩ := getF X2 hx hZ hown (host := "") (Or.inl (hw _ (List.mem_of_getElem? (i := 16) rfl))) Via.refl e2 (own_PS_f1 P0) (g := (mkF m 9 #[.val (.ref (A 0)), .val (.int ux)] [(.ref (A 0)), (.int (own_ro u0)), (.ref (A 1))])) rfl rfl (hb hby d6_9)
  refine own_by (B := T3.setTop (mkF m 12 #[.val (.ref (A 0)), .val (.int ux)] [(.ref (A 1)), (.int (own_ro u0)), (.ref (A 1))])) st3 ?_
  refine own_by (B := T3.setTop (mkF m 13 #[.val (.ref (A 0)), .val (.int ux)] [(.int ux), (.ref (A 1)), (.int (own_ro u0)), (.ref (A 1))])) (fun _ k => XS.iloadN X3.here hx rfl (hb hby d6_12) rfl  k) ?_
  obtain ⟨i4, hi4, hF⟩ := own_bind hF
  obtain ⟨Lc4, hLc4, hF⟩ := own_bind hF
  refine own_by (B := T3.setTop (mkF m 14 #[.val (.ref (A 0)), .val (.int ux)] [(.ref (CA i4)), (.int (own_ro u0)), (.ref (A 1))])) (own_ldF X3 hx hZ e3 (own_PS_v1 P0) hi4 (g := (mkF m 13 #[.val (.ref (A 0)), .val (.int ux)] [(.int ux), (.ref (A 1)), (.int (own_ro u0)), (.ref (A 1))])) rfl rfl (hb hby d6_13)) ?_
  obtain ⟨u5, hu5, hF⟩ := own_bind hF
  obtain ⟨zl5, hz5, hu5'⟩ := Option.map_eq_some_iff.mp hu5
  obtain ⟨T5, h5, X5, e5, W5, V5, st5⟩ := own_stF X3 hx hZ e3 (own_PS_v1 P0) ((own_PS_cc P0) _ _ hLc4).2.1 hz5 (g := (mkF m 14 #[.val (.ref (A 0)), .val (.int ux)] [(.ref (CA i4)), (.int (own_ro u0)), (.ref (A 1))])) rfl rfl (hb hby d6_14)
  have P5 : own_PS Z h5 n0 A K zr zc CA CK CL u5 := hu5' ▸ own_w_F P0 W5 V5
  have N5 := Fr.snoc X5 N0 (own_PS_gn P0).2.1
  refine own_by (B := T5.setTop (mkF m 15 #[.val (.ref (A 0)), .val (.int ux)] [])) st5 ?_
  refine own_by (B := T5.setTop (mkF m 16 #[.val (.ref (A 0)), .val (.int ux)] [(.ref (A 0))])) (fun _ k => XS.aloadN X5.here hx rfl (hb hby d6_15) rfl rfl  k) ?_
  obtain ⟨T6, X6, e6, st6⟩ := getF X5 hx hZ hown (host := "") (Or.inl (hw _ (List.mem_of_getElem? (i := 18) rfl))) Via.refl e5 (own_PS_f2 P5) (g := (mkF m 16 #[.val (.ref (A 0)), .val (.int ux)] [(.ref (A 0))])) rfl rfl (hb hby d6_16)
  refine own_by (B := T6.setTop (mkF m 19 #[.val (.ref (A 0)), .val (.int ux)] [(.ref (A 2))])) st6 ?_
  refine own_by (B := T6.setTop (mkF m 20 #[.val (.ref (A 0)), .val (.int ux)] [(.ref (A 0)), (.ref (A 2))])) (fun _ k => XS.aloadN X6.here hx rfl (hb hby d6_19) rfl rfl  k) ?_
  obtain ⟨T7, X7, e7, st7⟩ := getF X6 hx hZ hown (host := "") (Or.inl (hw _ (List.mem_of_getElem? (i := 51) rfl))) Via.refl e6 (own_PS_fro P5) (g := (mkF m 20 #[.val (.ref (A 0)), .val (.int ux)] [(.ref (A 0)), (.ref (A 2))])) rfl rfl (hb hby d6_20)
  refine own_by (B := T7.setTop (mkF m 23 #[.val (.ref (A 0)), .val (.int ux)] [(.int (own_ro u5)), (.ref (A 2))])) st7 ?_
  refine own_by (B := T7.setTop (mkF m 24 #[.val (.ref (A 0)), .val (.int ux)] [(.ref (A 0)), (.int (own_ro u5)), (.ref (A 2))])) (fun _ k => XS.aloadN X7.here hx rfl (hb hby d6_23) rfl rfl  k) ?_
  obtain ⟨T8, X8, e8, st8⟩ := getF X7 hx hZ hown (host := "") (Or.inl (hw _ (List.mem_of_getElem? (i := 18) rfl))) Via.refl e7 (own_PS_f2 P5) (g := (mkF m 24 #[.val (.ref (A 0)), .val (.int ux)] [(.ref (A 0)), (.int (own_ro u5)), (.ref (A 2))])) rfl rfl (hb hby d6_24)
  refine own_by (B := T8.setTop (mkF m 27 #[.val (.ref (A 0)), .val (.int ux)] [(.ref (A 2)), (.int (own_ro u5)), (.ref (A 2))])) st8 ?_
  refine own_by (B := T8.setTop (mkF m 28 #[.val (.ref (A 0)), .val (.int ux)] [(.int ux), (.ref (A 2)), (.int (own_ro u5)), (.ref (A 2))])) (fun _ k => XS.iloadN X8.here hx rfl (hb hby d6_27) rfl  k) ?_
  obtain ⟨w9, hw9, hF⟩ := own_bind hF
  refine own_by (B := T8.setTop (mkF m 29 #[.val (.ref (A 0)), .val (.int ux)] [(.int w9), (.int (own_ro u5)), (.ref (A 2))])) (own_ldI X8 hx hZ e8 (own_PS_v2 P5) hw9 (g := (mkF m 28 #[.val (.ref (A 0)), .val (.int ux)] [(.int ux), (.ref (A 2)), (.int (own_ro u5)), (.ref (A 2))])) rfl rfl (hb hby d6_28)) ?_
  obtain ⟨u10, hu10, hF⟩ := own_bind hF
  obtain ⟨zl10, hz10, hu10'⟩ := Option.map_eq_some_iff.mp hu10
  obtain ⟨T10, h10, X10, e10, W10, V10, st10⟩ := own_stI X8 hx hZ e8 (own_PS_v2 P5) hz10 (g := (mkF m 29 #[.val (.ref (A 0)), .val (.int ux)] [(.int w9), (.int (own_ro u5)), (.ref (A 2))])) rfl rfl (hb hby d6_29)
  have P10 : own_PS Z h10 n0 A K zr zc CA CK CL u10 := hu10' ▸ own_w_ki P5 W10 V10
  have N10 := Fr.snoc X10 N5 (own_PS_gn P5).2.2.1
  refine own_by (B := T10.setTop (mkF m 30 #[.val (.ref (A 0)), .val (.int ux)] [])) st10 ?_
  refine own_by (B := T10.setTop (mkF m 31 #[.val (.ref (A 0)), .val (.int ux)] [(.ref (A 0))])) (fun _ k => XS.aloadN X10.here hx rfl (hb hby d6_30) rfl rfl  k) ?_
  obtain ⟨T11, X11, e11, st11⟩ := getF X10 hx hZ hown (host := "") (Or.inl (hw _ (List.mem_of_getElem? (i := 20) rfl))) Via.refl e10 (own_PS_f3 P10) (g := (mkF m 31 #[.val (.ref (A 0)), .val (.int ux)] [(.ref (A 0))])) rfl rfl (hb hby d6_31)
  refine own_by (B := T11.setTop (mkF m 34 #[.val (.ref (A 0)), .val (.int ux)] [(.ref (A 3))])) st11 ?_
  refine own_by (B := T11.setTop (mkF m 35 #[.val (.ref (A 0)), .val (.int ux)] [(.ref (A 0)), (.ref (A 3))])) (fun _ k => XS.aloadN X11.here hx rfl (hb hby d6_34) rfl rfl  k) ?_
  obtain ⟨T12, X12, e12, st12⟩ := getF X11 hx hZ hown (host := "") (Or.inl (hw _ (List.mem_of_getElem? (i := 51) rfl))) Via.refl e11 (own_PS_fro P10) (g := (mkF m 35 #[.val (.ref (A 0)), .val (.int ux)] [(.ref (A 0)), (.ref (A 3))])) rfl rfl (hb hby d6_35)
  refine own_by (B := T12.setTop (mkF m 38 #[.val (.ref (A 0)), .val (.int ux)] [(.int (own_ro u10)), (.ref (A 3))])) st12 ?_
  refine own_by (B := T12.setTop (mkF m 39 #[.val (.ref (A 0)), .val (.int ux)] [(.int (-1 : Int32)), (.int (own_ro u10)), (.ref (A 3))])) (fun _ k => XS.iconst X12.here hx rfl (hb hby d6_38) k) ?_
  obtain ⟨u13, hu13, hF⟩ := own_bind hF
  obtain ⟨zl13, hz13, hu13'⟩ := Option.map_eq_some_iff.mp hu13
  obtain ⟨T13, h13, X13, e13, W13, V13, st13⟩ := own_stI X12 hx hZ e12 (own_PS_v3 P10) hz13 (g := (mkF m 39 #[.val (.ref (A 0)), .val (.int ux)] [(.int (-1 : Int32)), (.int (own_ro u10)), (.ref (A 3))])) rfl rfl (hb hby d6_39)
  have P13 : own_PS Z h13 n0 A K zr zc CA CK CL u13 := hu13' ▸ own_w_pa P10 W13 V13
  have N13 := Fr.snoc X13 N10 (own_PS_gn P10).2.2.2.1
  refine own_by (B := T13.setTop (mkF m 40 #[.val (.ref (A 0)), .val (.int ux)] [])) st13 ?_
  refine own_by (B := T13.setTop (mkF m 41 #[.val (.ref (A 0)), .val (.int ux)] [(.ref (A 0))])) (fun _ k => XS.aloadN X13.here hx rfl (hb hby d6_40) rfl rfl  k) ?_
  refine own_by (B := T13.setTop (mkF m 42 #[.val (.ref (A 0)), .val (.int ux)] [(.ref (A 0)), (.ref (A 0))])) (fun _ k => XS.dup X13.here hx rfl (hb hby d6_41) rfl rfl k) ?_
  obtain ⟨T14, X14, e14, st14⟩ := getF X13 hx hZ hown (host := "") (Or.inl (hw _ (List.mem_of_getElem? (i := 51) rfl))) Via.refl e13 (own_PS_fro P13) (g := (mkF m 42 #[.val (.ref (A 0)), .val (.int ux)] [(.ref (A 0)), (.ref (A 0))])) rfl rfl (hb hby d6_42)
  refine own_by (B := T14.setTop (mkF m 45 #[.val (.ref (A 0)), .val (.int ux)] [(.int (own_ro u13)), (.ref (A 0))])) st14 ?_
  refine own_by (B := T14.setTop (mkF m 46 #[.val (.ref (A 0)), .val (.int ux)] [(.int (1 : Int32)), (.int (own_ro u13)), (.ref (A 0))])) (fun _ k => XS.iconst X14.here hx rfl (hb hby d6_45) k) ?_
  refine own_by (B := T14.setTop (mkF m 47 #[.val (.ref (A 0)), .val (.int ux)] [(.int ((own_ro u13) + (1 : Int32))), (.ref (A 0))])) (fun _ k => XS.iadd X14.here hx rfl (hb hby d6_46) rfl k) ?_
  obtain ⟨u15, hu15, hF⟩ := own_bind hF
  obtain ⟨T15, h15, X15, e15, W15, st15⟩ := putF X14 hx hZ hown (host := "") (Or.inl (hw _ (List.mem_of_getElem? (i := 51) rfl))) Via.refl e14 (own_PS_fro P13) (own_PS_E P13) (Or.inl (hw _ (List.mem_of_getElem? (i := 52) rfl))) (hw _ (List.mem_of_getElem? (i := 6) rfl)) (ty := .int) (by decide) rfl rfl (g := (mkF m 47 #[.val (.ref (A 0)), .val (.int ux)] [(.int ((own_ro u13) + (1 : Int32))), (.ref (A 0))])) rfl rfl (hb hby d6_47)
  have P15 : own_PS Z h15 n0 A K zr zc CA CK CL u15 := Option.some.inj hu15 ▸ own_w_ro P13 hw W15
  have N15 := Fr.snoc X15 N13 (own_PS_gn P13).1
  refine own_by (B := T15.setTop (mkF m 50 #[.val (.ref (A 0)), .val (.int ux)] [])) st15 ?_
  obtain rfl := Option.some.inj hF
  exact own_retV X15 hx hrt hlk (hb hby d6_50) (by decide) (by decide) (by show own_QPv Z (u15) n0 A K zr zc CA CK CL _ T15.heap _; rw [e15]; exact ⟨rfl, N15, P15⟩)

def own_QFi (Z : State) (ua : Nat) (ka : ClassId) (h0 : Heap) (n0 : Nat) (v : Option Value) (h : Heap) (L : List Loc) : Prop := v = none ∧ Fr n0 L ∧ Keep h0 h [ua] ∧ Arv Z h ua ka .int (12 : Int32) [(.int (-1 : Int32)), (.int (-1 : Int32)), (.int (-1 : Int32)), (.int (-1 : Int32)), (.int (-1 : Int32)), (.int (-1 : Int32)), (.int (-1 : Int32)), (.int (-1 : Int32)), (.int (-1 : Int32)), (.int (-1 : Int32)), (.int (-1 : Int32)), (.int (-1 : Int32))] (.int (0 : Int32))

theorem d4_0 : decode jdk_65_method_103_code 0 = .ok (.iconst 0, 1) := by decide +kernel
theorem d4_1 : decode jdk_65_method_103_code 1 = .ok (.istore_n 2, 1) := by decide +kernel
theorem d4_2 : decode jdk_65_method_103_code 2 = .ok (.aload_n 0, 1) := by decide +kernel
theorem d4_3 : decode jdk_65_method_103_code 3 = .ok (.arraylength, 1) := by decide +kernel
theorem d4_4 : decode jdk_65_method_103_code 4 = .ok (.istore_n 3, 1) := by decide +kernel
theorem d4_5 : decode jdk_65_method_103_code 5 = .ok (.iload_n 2, 1) := by decide +kernel
theorem d4_6 : decode jdk_65_method_103_code 6 = .ok (.iload_n 3, 1) := by decide +kernel
theorem d4_7 : decode jdk_65_method_103_code 7 = .ok (.if_icmp .ge 13, 3) := by decide +kernel
theorem d4_10 : decode jdk_65_method_103_code 10 = .ok (.aload_n 0, 1) := by decide +kernel
theorem d4_11 : decode jdk_65_method_103_code 11 = .ok (.iload_n 2, 1) := by decide +kernel
theorem d4_12 : decode jdk_65_method_103_code 12 = .ok (.iload_n 1, 1) := by decide +kernel
theorem d4_13 : decode jdk_65_method_103_code 13 = .ok (.iastore, 1) := by decide +kernel
theorem d4_14 : decode jdk_65_method_103_code 14 = .ok (.iinc 2 1, 3) := by decide +kernel
theorem d4_17 : decode jdk_65_method_103_code 17 = .ok (.goto (-12), 3) := by decide +kernel
theorem d4_20 : decode jdk_65_method_103_code 20 = .ok (.return_, 1) := by decide +kernel
theorem pn_rmFill : plainFor (⟨"java/util/Arrays", "fill", "([II)V"⟩ : MethodName) = true := by first | exact plainFor_of_name (by first | (simp [plainName, overriddenIn]; done) | decide +kernel) | exact Jvm.Free.JP.mathPlain rfl (by decide +kernel) | decide +kernel
theorem ef_rmFill (m : MethodId) (x0 : Nat) (x1 : Int32) : entryFrame m #[(.ref x0), (.int x1)] 4 = mkF m 0 #[.val (.ref x0), .val (.int x1), .unset, .unset] [] := by first | (simp [entryFrame, mkF, argsToLocals, Value.category]; done) | rfl
set_option maxRecDepth 65536 in
set_option maxHeartbeats 40000000 in
theorem rmFill (l : Launch) (Z : State) (a0 : Array Value) (hw : ∀ d ∈ tables_1, d.before a0 Z = true) (ws : List Jvm.Cond) (ua : Nat) (ka : ClassId) (h0 : Heap) (n0 : Nat) (Z0 : n0 ≤ h0.size) (O0 : Old Z n0 h0) (V_ua : Arv Z h0 ua ka .int (12 : Int32) [(.int (0 : Int32)), (.int (0 : Int32)), (.int (0 : Int32)), (.int (0 : Int32)), (.int (0 : Int32)), (.int (0 : Int32)), (.int (0 : Int32)), (.int (0 : Int32)), (.int (0 : Int32)), (.int (0 : Int32)), (.int (0 : Int32)), (.int (0 : Int32))] (.int (0 : Int32))) (gn_ua : n0 ≤ ua) :
    MetFree l (⟨"java/util/Arrays", "fill", "([II)V"⟩ : MethodName) (head1 (Jvm.Cond.code (⟨"java/util/Arrays", "fill", "([II)V"⟩ : MethodName) jdk_65_method_103_code 4 none :: ws) ({ frames := 0, cells := 0, slots := 0, locals := 0 } : Room)) (fun a U => a = #[(.ref ua), (.int (-1 : Int32))] ∧ Z.Warmed39 U.vm ∧ U.heap = h0) (fun _ _ _ _ _ => True) (fun _ U o U' => ∃ v L, o = .returned v ∧ (own_QFi Z ua ka h0 n0) v U'.heap L ∧ FrameEnd U o U' L 0 0) := by
  refine MetFree.of_bodySF pn_rmFill hisR ?_
  intro p e s m args below meth c s₁ Bd hml0 hP hK
  obtain ⟨rfl, hZ, hh⟩ := hP
  have hx := Bd.exec
  have hby := Bd.bytes
  have hml : c.maxLocals = 4 := hml0
  have hown : s.vm.findClass "java/util/Arrays" = some m.cls := findClass_of_methodNamed Bd.named
  have hnm := (name_of_methodNamed Bd.named Bd.method).1
  have hrt := Bd.returns
  have hlk := Bd.notSynchronized
  have X0 : Stand p l e ({ frames := 0, cells := 0, slots := 0, locals := 0 } : Room) s m #[(.ref ua), (.int (-1 : Int32))] below meth c s₁ [] 0 0 := Stand.of_body Bd
  have e0 : s₁.heap = h0 := by rw [← hh, Bd.state]; rfl
  have N0 := Fr.nil n0
  have K0 := Keep.refl h0 [ua]
  refine own_done (B := s₁.setTop (mkF m 0 #[.val (.ref ua), .val (.int (-1 : Int32)), .unset, .unset] [])) (fun t k => castTop (ef_rmFill m ua (-1 : Int32)) k) ?_
  refine own_by (B := s₁.setTop (mkF m 1 #[.val (.ref ua), .val (.int (-1 : Int32)), .unset, .unset] [(.int (0 : Int32))])) (fun _ k => XS.iconst X0.here hx rfl (hb hby d4_0) k) ?_
  refine own_by (B := s₁.setTop (mkF m 2 #[.val (.ref ua), .val (.int (-1 : Int32)), .val (.int (0 : Int32)), .unset] [])) (fun _ k => XS.istoreN X0.here hx rfl (hb hby d4_1) rfl (l' := #[.val (.ref ua), .val (.int (-1 : Int32)), .val (.int (0 : Int32)), .unset]) rfl k) ?_
  refine own_by (B := s₁.setTop (mkF m 3 #[.val (.ref ua), .val (.int (-1 : Int32)), .val (.int (0 : Int32)), .unset] [(.ref ua)])) (fun _ k => XS.aloadN X0.here hx rfl (hb hby d4_2) rfl rfl  k) ?_
  obtain ⟨cl1, Ar1, qq1, Sz1, Nn1, Hh1, Gg1⟩ := id (V_ua)
  refine own_by (B := s₁.setTop (mkF m 4 #[.val (.ref ua), .val (.int (-1 : Int32)), .val (.int (0 : Int32)), .unset] [(.int (12 : Int32))])) (fun t k => X0.arraylength hx (by rw [e0]; exact Ar1.1) (State.isArrayOf_alike hZ.alike Ar1.2.1) (g := (mkF m 3 #[.val (.ref ua), .val (.int (-1 : Int32)), .val (.int (0 : Int32)), .unset] [(.ref ua)])) rfl rfl (hb hby d4_3) t (by rw [len_of Sz1 Nn1]; exact k)) ?_
  refine own_by (B := s₁.setTop (mkF m 5 #[.val (.ref ua), .val (.int (-1 : Int32)), .val (.int (0 : Int32)), .val (.int (12 : Int32))] [])) (fun _ k => XS.istoreN X0.here hx rfl (hb hby d4_4) rfl (l' := #[.val (.ref ua), .val (.int (-1 : Int32)), .val (.int (0 : Int32)), .val (.int (12 : Int32))]) rfl k) ?_
  refine own_by (B := s₁.setTop (mkF m 6 #[.val (.ref ua), .val (.int (-1 : Int32)), .val (.int (0 : Int32)), .val (.int (12 : Int32))] [(.int (0 : Int32))])) (fun _ k => XS.iloadN X0.here hx rfl (hb hby d4_5) rfl  k) ?_
  refine own_by (B := s₁.setTop (mkF m 7 #[.val (.ref ua), .val (.int (-1 : Int32)), .val (.int (0 : Int32)), .val (.int (12 : Int32))] [(.int (12 : Int32)), (.int (0 : Int32))])) (fun _ k => XS.iloadN X0.here hx rfl (hb hby d4_6) rfl  k) ?_
  refine own_by (B := s₁.setTop (mkF m 10 #[.val (.ref ua), .val (.int (-1 : Int32)), .val (.int (0 : Int32)), .val (.int (12 : Int32))] [])) (fun _ k => XS.icmpNo X0.here hx rfl (hb hby d4_7) rfl (XT.ii_ge_f (by decide)) k) ?_
  refine own_by (B := s₁.setTop (mkF m 11 #[.val (.ref ua), .val (.int (-1 : Int32)), .val (.int (0 : Int32)), .val (.int (12 : Int32))] [(.ref ua)])) (fun _ k => XS.aloadN X0.here hx rfl (hb hby d4_10) rfl rfl  k) ?_
  refine own_by (B := s₁.setTop (mkF m 12 #[.val (.ref ua), .val (.int (-1 : Int32)), .val (.int (0 : Int32)), .val (.int (12 : Int32))] [(.int (0 : Int32)), (.ref ua)])) (fun _ k => XS.iloadN X0.here hx rfl (hb hby d4_11) rfl  k) ?_
  refine own_by (B := s₁.setTop (mkF m 13 #[.val (.ref ua), .val (.int (-1 : Int32)), .val (.int (0 : Int32)), .val (.int (12 : Int32))] [(.int (-1 : Int32)), (.int (0 : Int32)), (.ref ua)])) (fun _ k => XS.iloadN X0.here hx rfl (hb hby d4_12) rfl  k) ?_
  obtain ⟨cl2, Ar2, qq2, Sz2, Nn2, Hh2, Gg2⟩ := id (V_ua)
  have hin2 : ¬ ((0 : Int32) < 0 ∨ cl2.slots.size ≤ ((0 : Int32)).toNatClampNeg) := inb_of Sz2 ⟨by decide, by decide⟩
  obtain ⟨T2, h2, X2, e2, W2, st2⟩ := stI X0 hx hZ e0 Ar2 (j := (0 : Int32)) hin2 (g := (mkF m 13 #[.val (.ref ua), .val (.int (-1 : Int32)), .val (.int (0 : Int32)), .val (.int (12 : Int32))] [(.int (-1 : Int32)), (.int (0 : Int32)), (.ref ua)])) rfl rfl (hb hby d4_13)
  have sz2 := W2.size
  have O2 := O0.wr W2 gn_ua
  have K2 := K0.wr W2 (Or.inl (List.mem_of_getElem? (i := 0) rfl))
  have N2 := Fr.snoc X2 N0 gn_ua
  have V2 : Arv Z h2 ua ka .int (12 : Int32) [(.int (-1 : Int32)), (.int (0 : Int32)), (.int (0 : Int32)), (.int (0 : Int32)), (.int (0 : Int32)), (.int (0 : Int32)), (.int (0 : Int32)), (.int (0 : Int32)), (.int (0 : Int32)), (.int (0 : Int32)), (.int (0 : Int32)), (.int (0 : Int32))] (.int (0 : Int32)) := Arv.set Ar2 qq2 Sz2 Nn2 Hh2 Gg2 rfl W2 0 rfl (Nat.le_of_ble_eq_true rfl)
  refine own_by (B := T2.setTop (mkF m 14 #[.val (.ref ua), .val (.int (-1 : Int32)), .val (.int (0 : Int32)), .val (.int (12 : Int32))] [])) st2 ?_
  refine own_by (B := T2.setTop (mkF m 17 #[.val (.ref ua), .val (.int (-1 : Int32)), .val (.int (1 : Int32)), .val (.int (12 : Int32))] [])) (fun _ k => XS.iinc X2.here hx rfl (hb hby d4_14) rfl (l' := #[.val (.ref ua), .val (.int (-1 : Int32)), .val (.int (1 : Int32)), .val (.int (12 : Int32))]) rfl k) ?_
  refine own_by (B := T2.setTop (mkF m 5 #[.val (.ref ua), .val (.int (-1 : Int32)), .val (.int (1 : Int32)), .val (.int (12 : Int32))] [])) (fun _ k => XS.goto X2.here hx rfl (pc0 := 17) (pc' := 5) rfl (hb hby d4_17) (by decide) (by decide) k) ?_
  refine own_by (B := T2.setTop (mkF m 6 #[.val (.ref ua), .val (.int (-1 : Int32)), .val (.int (1 : Int32)), .val (.int (12 : Int32))] [(.int (1 : Int32))])) (fun _ k => XS.iloadN X2.here hx rfl (hb hby d4_5) rfl  k) ?_
  refine own_by (B := T2.setTop (mkF m 7 #[.val (.ref ua), .val (.int (-1 : Int32)), .val (.int (1 : Int32)), .val (.int (12 : Int32))] [(.int (12 : Int32)), (.int (1 : Int32))])) (fun _ k => XS.iloadN X2.here hx rfl (hb hby d4_6) rfl  k) ?_
  refine own_by (B := T2.setTop (mkF m 10 #[.val (.ref ua), .val (.int (-1 : Int32)), .val (.int (1 : Int32)), .val (.int (12 : Int32))] [])) (fun _ k => XS.icmpNo X2.here hx rfl (hb hby d4_7) rfl (XT.ii_ge_f (by decide)) k) ?_
  refine own_by (B := T2.setTop (mkF m 11 #[.val (.ref ua), .val (.int (-1 : Int32)), .val (.int (1 : Int32)), .val (.int (12 : Int32))] [(.ref ua)])) (fun _ k => XS.aloadN X2.here hx rfl (hb hby d4_10) rfl rfl  k) ?_
  refine own_by (B := T2.setTop (mkF m 12 #[.val (.ref ua), .val (.int (-1 : Int32)), .val (.int (1 : Int32)), .val (.int (12 : Int32))] [(.int (1 : Int32)), (.ref ua)])) (fun _ k => XS.iloadN X2.here hx rfl (hb hby d4_11) rfl  k) ?_
  refine own_by (B := T2.setTop (mkF m 13 #[.val (.ref ua), .val (.int (-1 : Int32)), .val (.int (1 : Int32)), .val (.int (12 : Int32))] [(.int (-1 : Int32)), (.int (1 : Int32)), (.ref ua)])) (fun _ k => XS.iloadN X2.here hx rfl (hb hby d4_12) rfl  k) ?_
  obtain ⟨cl3, Ar3, qq3, Sz3, Nn3, Hh3, Gg3⟩ := id (V2)
  have hin3 : ¬ ((1 : Int32) < 0 ∨ cl3.slots.size ≤ ((1 : Int32)).toNatClampNeg) := inb_of Sz3 ⟨by decide, by decide⟩
  obtain ⟨T3, h3, X3, e3, W3, st3⟩ := stI X2 hx hZ e2 Ar3 (j := (1 : Int32)) hin3 (g := (mkF m 13 #[.val (.ref ua), .val (.int (-1 : Int32)), .val (.int (1 : Int32)), .val (.int (12 : Int32))] [(.int (-1 : Int32)), (.int (1 : Int32)), (.ref ua)])) rfl rfl (hb hby d4_13)
  have sz3 := W3.size
  have O3 := O2.wr W3 gn_ua
  have K3 := K2.wr W3 (Or.inl (List.mem_of_getElem? (i := 0) rfl))
  have N3 := Fr.snoc X3 N2 gn_ua
  have V3 : Arv Z h3 ua ka .int (12 : Int32) [(.int (-1 : Int32)), (.int (-1 : Int32)), (.int (0 : Int32)), (.int (0 : Int32)), (.int (0 : Int32)), (.int (0 : Int32)), (.int (0 : Int32)), (.int (0 : Int32)), (.int (0 : Int32)), (.int (0 : Int32)), (.int (0 : Int32)), (.int (0 : Int32))] (.int (0 : Int32)) := Arv.set Ar3 qq3 Sz3 Nn3 Hh3 Gg3 rfl W3 1 rfl (Nat.le_of_ble_eq_true rfl)
  refine own_by (B := T3.setTop (mkF m 14 #[.val (.ref ua), .val (.int (-1 : Int32)), .val (.int (1 : Int32)), .val (.int (12 : Int32))] [])) st3 ?_
  refine own_by (B := T3.setTop (mkF m 17 #[.val (.ref ua), .val (.int (-1 : Int32)), .val (.int (2 : Int32)), .val (.int (12 : Int32))] [])) (fun _ k => XS.iinc X3.here hx rfl (hb hby d4_14) rfl (l' := #[.val (.ref ua), .val (.int (-1 : Int32)), .val (.int (2 : Int32)), .val (.int (12 : Int32))]) rfl k) ?_
  refine own_by (B := T3.setTop (mkF m 5 #[.val (.ref ua), .val (.int (-1 : Int32)), .val (.int (2 : Int32)), .val (.int (12 : Int32))] [])) (fun _ k => XS.goto X3.here hx rfl (pc0 := 17) (pc' := 5) rfl (hb hby d4_17) (by decide) (by decide) k) ?_
  refine own_by (B := T3.setTop (mkF m 6 #[.val (.ref ua), .val (.int (-1 : Int32)), .val (.int (2 : Int32)), .val (.int (12 : Int32))] [(.int (2 : Int32))])) (fun _ k => XS.iloadN X3.here hx rfl (hb hby d4_5) rfl  k) ?_
  refine own_by (B := T3.setTop (mkF m 7 #[.val (.ref ua), .val (.int (-1 : Int32)), .val (.int (2 : Int32)), .val (.int (12 : Int32))] [(.int (12 : Int32)), (.int (2 : Int32))])) (fun _ k => XS.iloadN X3.here hx rfl (hb hby d4_6) rfl  k) ?_
  refine own_by (B := T3.setTop (mkF m 10 #[.val (.ref ua), .val (.int (-1 : Int32)), .val (.int (2 : Int32)), .val (.int (12 : Int32))] [])) (fun _ k => XS.icmpNo X3.here hx rfl (hb hby d4_7) rfl (XT.ii_ge_f (by decide)) k) ?_
  refine own_by (B := T3.setTop (mkF m 11 #[.val (.ref ua), .val (.int (-1 : Int32)), .val (.int (2 : Int32)), .val (.int (12 : Int32))] [(.ref ua)])) (fun _ k => XS.aloadN X3.here hx rfl (hb hby d4_10) rfl rfl  k) ?_
  refine own_by (B := T3.setTop (mkF m 12 #[.val (.ref ua), .val (.int (-1 : Int32)), .val (.int (2 : Int32)), .val (.int (12 : Int32))] [(.int (2 : Int32)), (.ref ua)])) (fun _ k => XS.iloadN X3.here hx rfl (hb hby d4_11) rfl  k) ?_
  refine own_by (B := T3.setTop (mkF m 13 #[.val (.ref ua), .val (.int (-1 : Int32)), .val (.int (2 : Int32)), .val (.int (12 : Int32))] [(.int (-1 : Int32)), (.int (2 : Int32)), (.ref ua)])) (fun _ k => XS.iloadN X3.here hx rfl (hb hby d4_12) rfl  k) ?_
  obtain ⟨cl4, Ar4, qq4, Sz4, Nn4, Hh4, Gg4⟩ := id (V3)
  have hin4 : ¬ ((2 : Int32) < 0 ∨ cl4.slots.size ≤ ((2 : Int32)).toNatClampNeg) := inb_of Sz4 ⟨by decide, by decide⟩
  obtain ⟨T4, h4, X4, e4, W4, st4⟩ := stI X3 hx hZ e3 Ar4 (j := (2 : Int32)) hin4 (g := (mkF m 13 #[.val (.ref ua), .val (.int (-1 : Int32)), .val (.int (2 : Int32)), .val (.int (12 : Int32))] [(.int (-1 : Int32)), (.int (2 : Int32)), (.ref ua)])) rfl rfl (hb hby d4_13)
  have sz4 := W4.size
  have O4 := O3.wr W4 gn_ua
  have K4 := K3.wr W4 (Or.inl (List.mem_of_getElem? (i := 0) rfl))
  have N4 := Fr.snoc X4 N3 gn_ua
  have V4 : Arv Z h4 ua ka .int (12 : Int32) [(.int (-1 : Int32)), (.int (-1 : Int32)), (.int (-1 : Int32)), (.int (0 : Int32)), (.int (0 : Int32)), (.int (0 : Int32)), (.int (0 : Int32)), (.int (0 : Int32)), (.int (0 : Int32)), (.int (0 : Int32)), (.int (0 : Int32)), (.int (0 : Int32))] (.int (0 : Int32)) := Arv.set Ar4 qq4 Sz4 Nn4 Hh4 Gg4 rfl W4 2 rfl (Nat.le_of_ble_eq_true rfl)
  refine own_by (B := T4.setTop (mkF m 14 #[.val (.ref ua), .val (.int (-1 : Int32)), .val (.int (2 : Int32)), .val (.int (12 : Int32))] [])) st4 ?_
  refine own_by (B := T4.setTop (mkF m 17 #[.val (.ref ua), .val (.int (-1 : Int32)), .val (.int (3 : Int32)), .val (.int (12 : Int32))] [])) (fun _ k => XS.iinc X4.here hx rfl (hb hby d4_14) rfl (l' := #[.val (.ref ua), .val (.int (-1 : Int32)), .val (.int (3 : Int32)), .val (.int (12 : Int32))]) rfl k) ?_
  refine own_by (B := T4.setTop (mkF m 5 #[.val (.ref ua), .val (.int (-1 : Int32)), .val (.int (3 : Int32)), .val (.int (12 : Int32))] [])) (fun _ k => XS.goto X4.here hx rfl (pc0 := 17) (pc' := 5) rfl (hb hby d4_17) (by decide) (by decide) k) ?_
  refine own_by (B := T4.setTop (mkF m 6 #[.val (.ref ua), .val (.int (-1 : Int32)), .val (.int (3 : Int32)), .val (.int (12 : Int32))] [(.int (3 : Int32))])) (fun _ k => XS.iloadN X4.here hx rfl (hb hby d4_5) rfl  k) ?_
  refine own_by (B := T4.setTop (mkF m 7 #[.val (.ref ua), .val (.int (-1 : Int32)), .val (.int (3 : Int32)), .val (.int (12 : Int32))] [(.int (12 : Int32)), (.int (3 : Int32))])) (fun _ k => XS.iloadN X4.here hx rfl (hb hby d4_6) rfl  k) ?_
  refine own_by (B := T4.setTop (mkF m 10 #[.val (.ref ua), .val (.int (-1 : Int32)), .val (.int (3 : Int32)), .val (.int (12 : Int32))] [])) (fun _ k => XS.icmpNo X4.here hx rfl (hb hby d4_7) rfl (XT.ii_ge_f (by decide)) k) ?_
  refine own_by (B := T4.setTop (mkF m 11 #[.val (.ref ua), .val (.int (-1 : Int32)), .val (.int (3 : Int32)), .val (.int (12 : Int32))] [(.ref ua)])) (fun _ k => XS.aloadN X4.here hx rfl (hb hby d4_10) rfl rfl  k) ?_
  refine own_by (B := T4.setTop (mkF m 12 #[.val (.ref ua), .val (.int (-1 : Int32)), .val (.int (3 : Int32)), .val (.int (12 : Int32))] [(.int (3 : Int32)), (.ref ua)])) (fun _ k => XS.iloadN X4.here hx rfl (hb hby d4_11) rfl  k) ?_
  refine own_by (B := T4.setTop (mkF m 13 #[.val (.ref ua), .val (.int (-1 : Int32)), .val (.int (3 : Int32)), .val (.int (12 : Int32))] [(.int (-1 : Int32)), (.int (3 : Int32)), (.ref ua)])) (fun _ k => XS.iloadN X4.here hx rfl (hb hby d4_12) rfl  k) ?_
  obtain ⟨cl5, Ar5, qq5, Sz5, Nn5, Hh5, Gg5⟩ := id (V4)
  have hin5 : ¬ ((3 : Int32) < 0 ∨ cl5.slots.size ≤ ((3 : Int32)).toNatClampNeg) := inb_of Sz5 ⟨by decide, by decide⟩
  obtain ⟨T5, h5, X5, e5, W5, st5⟩ := stI X4 hx hZ e4 Ar5 (j := (3 : Int32)) hin5 (g := (mkF m 13 #[.val (.ref ua), .val (.int (-1 : Int32)), .val (.int (3 : Int32)), .val (.int (12 : Int32))] [(.int (-1 : Int32)), (.int (3 : Int32)), (.ref ua)])) rfl rfl (hb hby d4_13)
  have sz5 := W5.size
  have O5 := O4.wr W5 gn_ua
  have K5 := K4.wr W5 (Or.inl (List.mem_of_getElem? (i := 0) rfl))
  have N5 := Fr.snoc X5 N4 gn_ua
  have V5 : Arv Z h5 ua ka .int (12 : Int32) [(.int (-1 : Int32)), (.int (-1 : Int32)), (.int (-1 : Int32)), (.int (-1 : Int32)), (.int (0 : Int32)), (.int (0 : Int32)), (.int (0 : Int32)), (.int (0 : Int32)), (.int (0 : Int32)), (.int (0 : Int32)), (.int (0 : Int32)), (.int (0 : Int32))] (.int (0 : Int32)) := Arv.set Ar5 qq5 Sz5 Nn5 Hh5 Gg5 rfl W5 3 rfl (Nat.le_of_ble_eq_true rfl)
  refine own_by (B := T5.setTop (mkF m 14 #[.val (.ref ua), .val (.int (-1 : Int32)), .val (.int (3 : Int32)), .val (.int (12 : Int32))] [])) st5 ?_
  refine own_by (B := T5.setTop (mkF m 17 #[.val (.ref ua), .val (.int (-1 : Int32)), .val (.int (4 : Int32)), .val (.int (12 : Int32))] [])) (fun _ k => XS.iinc X5.here hx rfl (hb hby d4_14) rfl (l' := #[.val (.ref ua), .val (.int (-1 : Int32)), .val (.int (4 : Int32)), .val (.int (12 : Int32))]) rfl k) ?_
  refine own_by (B := T5.setTop (mkF m 5 #[.val (.ref ua), .val (.int (-1 : Int32)), .val (.int (4 : Int32)), .val (.int (12 : Int32))] [])) (fun _ k => XS.goto X5.here hx rfl (pc0 := 17) (pc' := 5) rfl (hb hby d4_17) (by decide) (by decide) k) ?_
  refine own_by (B := T5.setTop (mkF m 6 #[.val (.ref ua), .val (.int (-1 : Int32)), .val (.int (4 : Int32)), .val (.int (12 : Int32))] [(.int (4 : Int32))])) (fun _ k => XS.iloadN X5.here hx rfl (hb hby d4_5) rfl  k) ?_
  refine own_by (B := T5.setTop (mkF m 7 #[.val (.ref ua), .val (.int (-1 : Int32)), .val (.int (4 : Int32)), .val (.int (12 : Int32))] [(.int (12 : Int32)), (.int (4 : Int32))])) (fun _ k => XS.iloadN X5.here hx rfl (hb hby d4_6) rfl  k) ?_
  refine own_by (B := T5.setTop (mkF m 10 #[.val (.ref ua), .val (.int (-1 : Int32)), .val (.int (4 : Int32)), .val (.int (12 : Int32))] [])) (fun _ k => XS.icmpNo X5.here hx rfl (hb hby d4_7) rfl (XT.ii_ge_f (by decide)) k) ?_
  refine own_by (B := T5.setTop (mkF m 11 #[.val (.ref ua), .val (.int (-1 : Int32)), .val (.int (4 : Int32)), .val (.int (12 : Int32))] [(.ref ua)])) (fun _ k => XS.aloadN X5.here hx rfl (hb hby d4_10) rfl rfl  k) ?_
  refine own_by (B := T5.setTop (mkF m 12 #[.val (.ref ua), .val (.int (-1 : Int32)), .val (.int (4 : Int32)), .val (.int (12 : Int32))] [(.int (4 : Int32)), (.ref ua)])) (fun _ k => XS.iloadN X5.here hx rfl (hb hby d4_11) rfl  k) ?_
  refine own_by (B := T5.setTop (mkF m 13 #[.val (.ref ua), .val (.int (-1 : Int32)), .val (.int (4 : Int32)), .val (.int (12 : Int32))] [(.int (-1 : Int32)), (.int (4 : Int32)), (.ref ua)])) (fun _ k => XS.iloadN X5.here hx rfl (hb hby d4_12) rfl  k) ?_
  obtain ⟨cl6, Ar6, qq6, Sz6, Nn6, Hh6, Gg6⟩ := id (V5)
  have hin6 : ¬ ((4 : Int32) < 0 ∨ cl6.slots.size ≤ ((4 : Int32)).toNatClampNeg) := inb_of Sz6 ⟨by decide, by decide⟩
  obtain ⟨T6, h6, X6, e6, W6, st6⟩ := stI X5 hx hZ e5 Ar6 (j := (4 : Int32)) hin6 (g := (mkF m 13 #[.val (.ref ua), .val (.int (-1 : Int32)), .val (.int (4 : Int32)), .val (.int (12 : Int32))] [(.int (-1 : Int32)), (.int (4 : Int32)), (.ref ua)])) rfl rfl (hb hby d4_13)
  have sz6 := W6.size
  have O6 := O5.wr W6 gn_ua
  have K6 := K5.wr W6 (Or.inl (List.mem_of_getElem? (i := 0) rfl))
  have N6 := Fr.snoc X6 N5 gn_ua
  have V6 : Arv Z h6 ua ka .int (12 : Int32) [(.int (-1 : Int32)), (.int (-1 : Int32)), (.int (-1 : Int32)), (.int (-1 : Int32)), (.int (-1 : Int32)), (.int (0 : Int32)), (.int (0 : Int32)), (.int (0 : Int32)), (.int (0 : Int32)), (.int (0 : Int32)), (.int (0 : Int32)), (.int (0 : Int32))] (.int (0 : Int32)) := Arv.set Ar6 qq6 Sz6 Nn6 Hh6 Gg6 rfl W6 4 rfl (Nat.le_of_ble_eq_true rfl)
  refine own_by (B := T6.setTop (mkF m 14 #[.val (.ref ua), .val (.int (-1 : Int32)), .val (.int (4 : Int32)), .val (.int (12 : Int32))] [])) st6 ?_
  refine own_by (B := T6.setTop (mkF m 17 #[.val (.ref ua), .val (.int (-1 : Int32)), .val (.int (5 : Int32)), .val (.int (12 : Int32))] [])) (fun _ k => XS.iinc X6.here hx rfl (hb hby d4_14) rfl (l' := #[.val (.ref ua), .val (.int (-1 : Int32)), .val (.int (5 : Int32)), .val (.int (12 : Int32))]) rfl k) ?_
  refine own_by (B := T6.setTop (mkF m 5 #[.val (.ref ua), .val (.int (-1 : Int32)), .val (.int (5 : Int32)), .val (.int (12 : Int32))] [])) (fun _ k => XS.goto X6.here hx rfl (pc0 := 17) (pc' := 5) rfl (hb hby d4_17) (by decide) (by decide) k) ?_
  refine own_by (B := T6.setTop (mkF m 6 #[.val (.ref ua), .val (.int (-1 : Int32)), .val (.int (5 : Int32)), .val (.int (12 : Int32))] [(.int (5 : Int32))])) (fun _ k => XS.iloadN X6.here hx rfl (hb hby d4_5) rfl  k) ?_
  refine own_by (B := T6.setTop (mkF m 7 #[.val (.ref ua), .val (.int (-1 : Int32)), .val (.int (5 : Int32)), .val (.int (12 : Int32))] [(.int (12 : Int32)), (.int (5 : Int32))])) (fun _ k => XS.iloadN X6.here hx rfl (hb hby d4_6) rfl  k) ?_
  refine own_by (B := T6.setTop (mkF m 10 #[.val (.ref ua), .val (.int (-1 : Int32)), .val (.int (5 : Int32)), .val (.int (12 : Int32))] [])) (fun _ k => XS.icmpNo X6.here hx rfl (hb hby d4_7) rfl (XT.ii_ge_f (by decide)) k) ?_
  refine own_by (B := T6.setTop (mkF m 11 #[.val (.ref ua), .val (.int (-1 : Int32)), .val (.int (5 : Int32)), .val (.int (12 : Int32))] [(.ref ua)])) (fun _ k => XS.aloadN X6.here hx rfl (hb hby d4_10) rfl rfl  k) ?_
  refine own_by (B := T6.setTop (mkF m 12 #[.val (.ref ua), .val (.int (-1 : Int32)), .val (.int (5 : Int32)), .val (.int (12 : Int32))] [(.int (5 : Int32)), (.ref ua)])) (fun _ k => XS.iloadN X6.here hx rfl (hb hby d4_11) rfl  k) ?_
  refine own_by (B := T6.setTop (mkF m 13 #[.val (.ref ua), .val (.int (-1 : Int32)), .val (.int (5 : Int32)), .val (.int (12 : Int32))] [(.int (-1 : Int32)), (.int (5 : Int32)), (.ref ua)])) (fun _ k => XS.iloadN X6.here hx rfl (hb hby d4_12) rfl  k) ?_
  obtain ⟨cl7, Ar7, qq7, Sz7, Nn7, Hh7, Gg7⟩ := id (V6)
  have hin7 : ¬ ((5 : Int32) < 0 ∨ cl7.slots.size ≤ ((5 : Int32)).toNatClampNeg) := inb_of Sz7 ⟨by decide, by decide⟩
  obtain ⟨T7, h7, X7, e7, W7, st7⟩ := stI X6 hx hZ e6 Ar7 (j := (5 : Int32)) hin7 (g := (mkF m 13 #[.val (.ref ua), .val (.int (-1 : Int32)), .val (.int (5 : Int32)), .val (.int (12 : Int32))] [(.int (-1 : Int32)), (.int (5 : Int32)), (.ref ua)])) rfl rfl (hb hby d4_13)
  have sz7 := W7.size
  have O7 := O6.wr W7 gn_ua
  have K7 := K6.wr W7 (Or.inl (List.mem_of_getElem? (i := 0) rfl))
  have N7 := Fr.snoc X7 N6 gn_ua
  have V7 : Arv Z h7 ua ka .int (12 : Int32) [(.int (-1 : Int32)), (.int (-1 : Int32)), (.int (-1 : Int32)), (.int (-1 : Int32)), (.int (-1 : Int32)), (.int (-1 : Int32)), (.int (0 : Int32)), (.int (0 : Int32)), (.int (0 : Int32)), (.int (0 : Int32)), (.int (0 : Int32)), (.int (0 : Int32))] (.int (0 : Int32)) := Arv.set Ar7 qq7 Sz7 Nn7 Hh7 Gg7 rfl W7 5 rfl (Nat.le_of_ble_eq_true rfl)
  refine own_by (B := T7.setTop (mkF m 14 #[.val (.ref ua), .val (.int (-1 : Int32)), .val (.int (5 : Int32)), .val (.int (12 : Int32))] [])) st7 ?_
  refine own_by (B := T7.setTop (mkF m 17 #[.val (.ref ua), .val (.int (-1 : Int32)), .val (.int (6 : Int32)), .val (.int (12 : Int32))] [])) (fun _ k => XS.iinc X7.here hx rfl (hb hby d4_14) rfl (l' := #[.val (.ref ua), .val (.int (-1 : Int32)), .val (.int (6 : Int32)), .val (.int (12 : Int32))]) rfl k) ?_
  refine own_by (B := T7.setTop (mkF m 5 #[.val (.ref ua), .val (.int (-1 : Int32)), .val (.int (6 : Int32)), .val (.int (12 : Int32))] [])) (fun _ k => XS.goto X7.here hx rfl (pc0 := 17) (pc' := 5) rfl (hb hby d4_17) (by decide) (by decide) k) ?_
  refine own_by (B := T7.setTop (mkF m 6 #[.val (.ref ua), .val (.int (-1 : Int32)), .val (.int (6 : Int32)), .val (.int (12 : Int32))] [(.int (6 : Int32))])) (fun _ k => XS.iloadN X7.here hx rfl (hb hby d4_5) rfl  k) ?_
  refine own_by (B := T7.setTop (mkF m 7 #[.val (.ref ua), .val (.int (-1 : Int32)), .val (.int (6 : Int32)), .val (.int (12 : Int32))] [(.int (12 : Int32)), (.int (6 : Int32))])) (fun _ k => XS.iloadN X7.here hx rfl (hb hby d4_6) rfl  k) ?_
  refine own_by (B := T7.setTop (mkF m 10 #[.val (.ref ua), .val (.int (-1 : Int32)), .val (.int (6 : Int32)), .val (.int (12 : Int32))] [])) (fun _ k => XS.icmpNo X7.here hx rfl (hb hby d4_7) rfl (XT.ii_ge_f (by decide)) k) ?_
  refine own_by (B := T7.setTop (mkF m 11 #[.val (.ref ua), .val (.int (-1 : Int32)), .val (.int (6 : Int32)), .val (.int (12 : Int32))] [(.ref ua)])) (fun _ k => XS.aloadN X7.here hx rfl (hb hby d4_10) rfl rfl  k) ?_
  refine own_by (B := T7.setTop (mkF m 12 #[.val (.ref ua), .val (.int (-1 : Int32)), .val (.int (6 : Int32)), .val (.int (12 : Int32))] [(.int (6 : Int32)), (.ref ua)])) (fun _ k => XS.iloadN X7.here hx rfl (hb hby d4_11) rfl  k) ?_
  refine own_by (B := T7.setTop (mkF m 13 #[.val (.ref ua), .val (.int (-1 : Int32)), .val (.int (6 : Int32)), .val (.int (12 : Int32))] [(.int (-1 : Int32)), (.int (6 : Int32)), (.ref ua)])) (fun _ k => XS.iloadN X7.here hx rfl (hb hby d4_12) rfl  k) ?_
  obtain ⟨cl8, Ar8, qq8, Sz8, Nn8, Hh8, Gg8⟩ := id (V7)
  have hin8 : ¬ ((6 : Int32) < 0 ∨ cl8.slots.size ≤ ((6 : Int32)).toNatClampNeg) := inb_of Sz8 ⟨by decide, by decide⟩
  obtain ⟨T8, h8, X8, e8, W8, st8⟩ := stI X7 hx hZ e7 Ar8 (j := (6 : Int32)) hin8 (g := (mkF m 13 #[.val (.ref ua), .val (.int (-1 : Int32)), .val (.int (6 : Int32)), .val (.int (12 : Int32))] [(.int (-1 : Int32)), (.int (6 : Int32)), (.ref ua)])) rfl rfl (hb hby d4_13)
  have sz8 := W8.size
  have O8 := O7.wr W8 gn_ua
  have K8 := K7.wr W8 (Or.inl (List.mem_of_getElem? (i := 0) rfl))
  have N8 := Fr.snoc X8 N7 gn_ua
  have V8 : Arv Z h8 ua ka .int (12 : Int32) [(.int (-1 : Int32)), (.int (-1 : Int32)), (.int (-1 : Int32)), (.int (-1 : Int32)), (.int (-1 : Int32)), (.int (-1 : Int32)), (.int (-1 : Int32)), (.int (0 : Int32)), (.int (0 : Int32)), (.int (0 : Int32)), (.int (0 : Int32)), (.int (0 : Int32))] (.int (0 : Int32)) := Arv.set Ar8 qq8 Sz8 Nn8 Hh8 Gg8 rfl W8 6 rfl (Nat.le_of_ble_eq_true rfl)
  refine own_by (B := T8.setTop (mkF m 14 #[.val (.ref ua), .val (.int (-1 : Int32)), .val (.int (6 : Int32)), .val (.int (12 : Int32))] [])) st8 ?_
  refine own_by (B := T8.setTop (mkF m 17 #[.val (.ref ua), .val (.int (-1 : Int32)), .val (.int (7 : Int32)), .val (.int (12 : Int32))] [])) (fun _ k => XS.iinc X8.here hx rfl (hb hby d4_14) rfl (l' := #[.val (.ref ua), .val (.int (-1 : Int32)), .val (.int (7 : Int32)), .val (.int (12 : Int32))]) rfl k) ?_
  refine own_by (B := T8.setTop (mkF m 5 #[.val (.ref ua), .val (.int (-1 : Int32)), .val (.int (7 : Int32)), .val (.int (12 : Int32))] [])) (fun _ k => XS.goto X8.here hx rfl (pc0 := 17) (pc' := 5) rfl (hb hby d4_17) (by decide) (by decide) k) ?_
  refine own_by (B := T8.setTop (mkF m 6 #[.val (.ref ua), .val (.int (-1 : Int32)), .val (.int (7 : Int32)), .val (.int (12 : Int32))] [(.int (7 : Int32))])) (fun _ k => XS.iloadN X8.here hx rfl (hb hby d4_5) rfl  k) ?_
  refine own_by (B := T8.setTop (mkF m 7 #[.val (.ref ua), .val (.int (-1 : Int32)), .val (.int (7 : Int32)), .val (.int (12 : Int32))] [(.int (12 : Int32)), (.int (7 : Int32))])) (fun _ k => XS.iloadN X8.here hx rfl (hb hby d4_6) rfl  k) ?_
  refine own_by (B := T8.setTop (mkF m 10 #[.val (.ref ua), .val (.int (-1 : Int32)), .val (.int (7 : Int32)), .val (.int (12 : Int32))] [])) (fun _ k => XS.icmpNo X8.here hx rfl (hb hby d4_7) rfl (XT.ii_ge_f (by decide)) k) ?_
  refine own_by (B := T8.setTop (mkF m 11 #[.val (.ref ua), .val (.int (-1 : Int32)), .val (.int (7 : Int32)), .val (.int (12 : Int32))] [(.ref ua)])) (fun _ k => XS.aloadN X8.here hx rfl (hb hby d4_10) rfl rfl  k) ?_
  refine own_by (B := T8.setTop (mkF m 12 #[.val (.ref ua), .val (.int (-1 : Int32)), .val (.int (7 : Int32)), .val (.int (12 : Int32))] [(.int (7 : Int32)), (.ref ua)])) (fun _ k => XS.iloadN X8.here hx rfl (hb hby d4_11) rfl  k) ?_
  refine own_by (B := T8.setTop (mkF m 13 #[.val (.ref ua), .val (.int (-1 : Int32)), .val (.int (7 : Int32)), .val (.int (12 : Int32))] [(.int (-1 : Int32)), (.int (7 : Int32)), (.ref ua)])) (fun _ k => XS.iloadN X8.here hx rfl (hb hby d4_12) rfl  k) ?_
  obtain ⟨cl9, Ar9, qq9, Sz9, Nn9, Hh9, Gg9⟩ := id (V8)
  have hin9 : ¬ ((7 : Int32) < 0 ∨ cl9.slots.size ≤ ((7 : Int32)).toNatClampNeg) := inb_of Sz9 ⟨by decide, by decide⟩
  obtain ⟨T9, h9, X9, e9, W9, st9⟩ := stI X8 hx hZ e8 Ar9 (j := (7 : Int32)) hin9 (g := (mkF m 13 #[.val (.ref ua), .val (.int (-1 : Int32)), .val (.int (7 : Int32)), .val (.int (12 : Int32))] [(.int (-1 : Int32)), (.int (7 : Int32)), (.ref ua)])) rfl rfl (hb hby d4_13)
  have sz9 := W9.size
  have O9 := O8.wr W9 gn_ua
  have K9 := K8.wr W9 (Or.inl (List.mem_of_getElem? (i := 0) rfl))
  have N9 := Fr.snoc X9 N8 gn_ua
  have V9 : Arv Z h9 ua ka .int (12 : Int32) [(.int (-1 : Int32)), (.int (-1 : Int32)), (.int (-1 : Int32)), (.int (-1 : Int32)), (.int (-1 : Int32)), (.int (-1 : Int32)), (.int (-1 : Int32)), (.int (-1 : Int32)), (.int (0 : Int32)), (.int (0 : Int32)), (.int (0 : Int32)), (.int (0 : Int32))] (.int (0 : Int32)) := Arv.set Ar9 qq9 Sz9 Nn9 Hh9 Gg9 rfl W9 7 rfl (Nat.le_of_ble_eq_true rfl)
  refine own_by (B := T9.setTop (mkF m 14 #[.val (.ref ua), .val (.int (-1 : Int32)), .val (.int (7 : Int32)), .val (.int (12 : Int32))] [])) st9 ?_
  refine own_by (B := T9.setTop (mkF m 17 #[.val (.ref ua), .val (.int (-1 : Int32)), .val (.int (8 : Int32)), .val (.int (12 : Int32))] [])) (fun _ k => XS.iinc X9.here hx rfl (hb hby d4_14) rfl (l' := #[.val (.ref ua), .val (.int (-1 : Int32)), .val (.int (8 : Int32)), .val (.int (12 : Int32))]) rfl k) ?_
  refine own_by (B := T9.setTop (mkF m 5 #[.val (.ref ua), .val (.int (-1 : Int32)), .val (.int (8 : Int32)), .val (.int (12 : Int32))] [])) (fun _ k => XS.goto X9.here hx rfl (pc0 := 17) (pc' := 5) rfl (hb hby d4_17) (by decide) (by decide) k) ?_
  refine own_by (B := T9.setTop (mkF m 6 #[.val (.ref ua), .val (.int (-1 : Int32)), .val (.int (8 : Int32)), .val (.int (12 : Int32))] [(.int (8 : Int32))])) (fun _ k => XS.iloadN X9.here hx rfl (hb hby d4_5) rfl  k) ?_
  refine own_by (B := T9.setTop (mkF m 7 #[.val (.ref ua), .val (.int (-1 : Int32)), .val (.int (8 : Int32)), .val (.int (12 : Int32))] [(.int (12 : Int32)), (.int (8 : Int32))])) (fun _ k => XS.iloadN X9.here hx rfl (hb hby d4_6) rfl  k) ?_
  refine own_by (B := T9.setTop (mkF m 10 #[.val (.ref ua), .val (.int (-1 : Int32)), .val (.int (8 : Int32)), .val (.int (12 : Int32))] [])) (fun _ k => XS.icmpNo X9.here hx rfl (hb hby d4_7) rfl (XT.ii_ge_f (by decide)) k) ?_
  refine own_by (B := T9.setTop (mkF m 11 #[.val (.ref ua), .val (.int (-1 : Int32)), .val (.int (8 : Int32)), .val (.int (12 : Int32))] [(.ref ua)])) (fun _ k => XS.aloadN X9.here hx rfl (hb hby d4_10) rfl rfl  k) ?_
  refine own_by (B := T9.setTop (mkF m 12 #[.val (.ref ua), .val (.int (-1 : Int32)), .val (.int (8 : Int32)), .val (.int (12 : Int32))] [(.int (8 : Int32)), (.ref ua)])) (fun _ k => XS.iloadN X9.here hx rfl (hb hby d4_11) rfl  k) ?_
  refine own_by (B := T9.setTop (mkF m 13 #[.val (.ref ua), .val (.int (-1 : Int32)), .val (.int (8 : Int32)), .val (.int (12 : Int32))] [(.int (-1 : Int32)), (.int (8 : Int32)), (.ref ua)])) (fun _ k => XS.iloadN X9.here hx rfl (hb hby d4_12) rfl  k) ?_
  obtain ⟨cl10, Ar10, qq10, Sz10, Nn10, Hh10, Gg10⟩ := id (V9)
  have hin10 : ¬ ((8 : Int32) < 0 ∨ cl10.slots.size ≤ ((8 : Int32)).toNatClampNeg) := inb_of Sz10 ⟨by decide, by decide⟩
  obtain ⟨T10, h10, X10, e10, W10, st10⟩ := stI X9 hx hZ e9 Ar10 (j := (8 : Int32)) hin10 (g := (mkF m 13 #[.val (.ref ua), .val (.int (-1 : Int32)), .val (.int (8 : Int32)), .val (.int (12 : Int32))] [(.int (-1 : Int32)), (.int (8 : Int32)), (.ref ua)])) rfl rfl (hb hby d4_13)
  have sz10 := W10.size
  have O10 := O9.wr W10 gn_ua
  have K10 := K9.wr W10 (Or.inl (List.mem_of_getElem? (i := 0) rfl))
  have N10 := Fr.snoc X10 N9 gn_ua
  have V10 : Arv Z h10 ua ka .int (12 : Int32) [(.int (-1 : Int32)), (.int (-1 : Int32)), (.int (-1 : Int32)), (.int (-1 : Int32)), (.int (-1 : Int32)), (.int (-1 : Int32)), (.int (-1 : Int32)), (.int (-1 : Int32)), (.int (-1 : Int32)), (.int (0 : Int32)), (.int (0 : Int32)), (.int (0 : Int32))] (.int (0 : Int32)) := Arv.set Ar10 qq10 Sz10 Nn10 Hh10 Gg10 rfl W10 8 rfl (Nat.le_of_ble_eq_true rfl)
  refine own_by (B := T10.setTop (mkF m 14 #[.val (.ref ua), .val (.int (-1 : Int32)), .val (.int (8 : Int32)), .val (.int (12 : Int32))] [])) st10 ?_
  refine own_by (B := T10.setTop (mkF m 17 #[.val (.ref ua), .val (.int (-1 : Int32)), .val (.int (9 : Int32)), .val (.int (12 : Int32))] [])) (fun _ k => XS.iinc X10.here hx rfl (hb hby d4_14) rfl (l' := #[.val (.ref ua), .val (.int (-1 : Int32)), .val (.int (9 : Int32)), .val (.int (12 : Int32))]) rfl k) ?_
  refine own_by (B := T10.setTop (mkF m 5 #[.val (.ref ua), .val (.int (-1 : Int32)), .val (.int (9 : Int32)), .val (.int (12 : Int32))] [])) (fun _ k => XS.goto X10.here hx rfl (pc0 := 17) (pc' := 5) rfl (hb hby d4_17) (by decide) (by decide) k) ?_
  refine own_by (B := T10.setTop (mkF m 6 #[.val (.ref ua), .val (.int (-1 : Int32)), .val (.int (9 : Int32)), .val (.int (12 : Int32))] [(.int (9 : Int32))])) (fun _ k => XS.iloadN X10.here hx rfl (hb hby d4_5) rfl  k) ?_
  refine own_by (B := T10.setTop (mkF m 7 #[.val (.ref ua), .val (.int (-1 : Int32)), .val (.int (9 : Int32)), .val (.int (12 : Int32))] [(.int (12 : Int32)), (.int (9 : Int32))])) (fun _ k => XS.iloadN X10.here hx rfl (hb hby d4_6) rfl  k) ?_
  refine own_by (B := T10.setTop (mkF m 10 #[.val (.ref ua), .val (.int (-1 : Int32)), .val (.int (9 : Int32)), .val (.int (12 : Int32))] [])) (fun _ k => XS.icmpNo X10.here hx rfl (hb hby d4_7) rfl (XT.ii_ge_f (by decide)) k) ?_
  refine own_by (B := T10.setTop (mkF m 11 #[.val (.ref ua), .val (.int (-1 : Int32)), .val (.int (9 : Int32)), .val (.int (12 : Int32))] [(.ref ua)])) (fun _ k => XS.aloadN X10.here hx rfl (hb hby d4_10) rfl rfl  k) ?_
  refine own_by (B := T10.setTop (mkF m 12 #[.val (.ref ua), .val (.int (-1 : Int32)), .val (.int (9 : Int32)), .val (.int (12 : Int32))] [(.int (9 : Int32)), (.ref ua)])) (fun _ k => XS.iloadN X10.here hx rfl (hb hby d4_11) rfl  k) ?_
  refine own_by (B := T10.setTop (mkF m 13 #[.val (.ref ua), .val (.int (-1 : Int32)), .val (.int (9 : Int32)), .val (.int (12 : Int32))] [(.int (-1 : Int32)), (.int (9 : Int32)), (.ref ua)])) (fun _ k => XS.iloadN X10.here hx rfl (hb hby d4_12) rfl  k) ?_
  obtain ⟨cl11, Ar11, qq11, Sz11, Nn11, Hh11, Gg11⟩ := id (V10)
  have hin11 : ¬ ((9 : Int32) < 0 ∨ cl11.slots.size ≤ ((9 : Int32)).toNatClampNeg) := inb_of Sz11 ⟨by decide, by decide⟩
  obtain ⟨T11, h11, X11, e11, W11, st11⟩ := stI X10 hx hZ e10 Ar11 (j := (9 : Int32)) hin11 (g := (mkF m 13 #[.val (.ref ua), .val (.int (-1 : Int32)), .val (.int (9 : Int32)), .val (.int (12 : Int32))] [(.int (-1 : Int32)), (.int (9 : Int32)), (.ref ua)])) rfl rfl (hb hby d4_13)
  have sz11 := W11.size
  have O11 := O10.wr W11 gn_ua
  have K11 := K10.wr W11 (Or.inl (List.mem_of_getElem? (i := 0) rfl))
  have N11 := Fr.snoc X11 N10 gn_ua
  have V11 : Arv Z h11 ua ka .int (12 : Int32) [(.int (-1 : Int32)), (.int (-1 : Int32)), (.int (-1 : Int32)), (.int (-1 : Int32)), (.int (-1 : Int32)), (.int (-1 : Int32)), (.int (-1 : Int32)), (.int (-1 : Int32)), (.int (-1 : Int32)), (.int (-1 : Int32)), (.int (0 : Int32)), (.int (0 : Int32))] (.int (0 : Int32)) := Arv.set Ar11 qq11 Sz11 Nn11 Hh11 Gg11 rfl W11 9 rfl (Nat.le_of_ble_eq_true rfl)
  refine own_by (B := T11.setTop (mkF m 14 #[.val (.ref ua), .val (.int (-1 : Int32)), .val (.int (9 : Int32)), .val (.int (12 : Int32))] [])) st11 ?_
  refine own_by (B := T11.setTop (mkF m 17 #[.val (.ref ua), .val (.int (-1 : Int32)), .val (.int (10 : Int32)), .val (.int (12 : Int32))] [])) (fun _ k => XS.iinc X11.here hx rfl (hb hby d4_14) rfl (l' := #[.val (.ref ua), .val (.int (-1 : Int32)), .val (.int (10 : Int32)), .val (.int (12 : Int32))]) rfl k) ?_
  refine own_by (B := T11.setTop (mkF m 5 #[.val (.ref ua), .val (.int (-1 : Int32)), .val (.int (10 : Int32)), .val (.int (12 : Int32))] [])) (fun _ k => XS.goto X11.here hx rfl (pc0 := 17) (pc' := 5) rfl (hb hby d4_17) (by decide) (by decide) k) ?_
  refine own_by (B := T11.setTop (mkF m 6 #[.val (.ref ua), .val (.int (-1 : Int32)), .val (.int (10 : Int32)), .val (.int (12 : Int32))] [(.int (10 : Int32))])) (fun _ k => XS.iloadN X11.here hx rfl (hb hby d4_5) rfl  k) ?_
  refine own_by (B := T11.setTop (mkF m 7 #[.val (.ref ua), .val (.int (-1 : Int32)), .val (.int (10 : Int32)), .val (.int (12 : Int32))] [(.int (12 : Int32)), (.int (10 : Int32))])) (fun _ k => XS.iloadN X11.here hx rfl (hb hby d4_6) rfl  k) ?_
  refine own_by (B := T11.setTop (mkF m 10 #[.val (.ref ua), .val (.int (-1 : Int32)), .val (.int (10 : Int32)), .val (.int (12 : Int32))] [])) (fun _ k => XS.icmpNo X11.here hx rfl (hb hby d4_7) rfl (XT.ii_ge_f (by decide)) k) ?_
  refine own_by (B := T11.setTop (mkF m 11 #[.val (.ref ua), .val (.int (-1 : Int32)), .val (.int (10 : Int32)), .val (.int (12 : Int32))] [(.ref ua)])) (fun _ k => XS.aloadN X11.here hx rfl (hb hby d4_10) rfl rfl  k) ?_
  refine own_by (B := T11.setTop (mkF m 12 #[.val (.ref ua), .val (.int (-1 : Int32)), .val (.int (10 : Int32)), .val (.int (12 : Int32))] [(.int (10 : Int32)), (.ref ua)])) (fun _ k => XS.iloadN X11.here hx rfl (hb hby d4_11) rfl  k) ?_
  refine own_by (B := T11.setTop (mkF m 13 #[.val (.ref ua), .val (.int (-1 : Int32)), .val (.int (10 : Int32)), .val (.int (12 : Int32))] [(.int (-1 : Int32)), (.int (10 : Int32)), (.ref ua)])) (fun _ k => XS.iloadN X11.here hx rfl (hb hby d4_12) rfl  k) ?_
  obtain ⟨cl12, Ar12, qq12, Sz12, Nn12, Hh12, Gg12⟩ := id (V11)
  have hin12 : ¬ ((10 : Int32) < 0 ∨ cl12.slots.size ≤ ((10 : Int32)).toNatClampNeg) := inb_of Sz12 ⟨by decide, by decide⟩
  obtain ⟨T12, h12, X12, e12, W12, st12⟩ := stI X11 hx hZ e11 Ar12 (j := (10 : Int32)) hin12 (g := (mkF m 13 #[.val (.ref ua), .val (.int (-1 : Int32)), .val (.int (10 : Int32)), .val (.int (12 : Int32))] [(.int (-1 : Int32)), (.int (10 : Int32)), (.ref ua)])) rfl rfl (hb hby d4_13)
  have sz12 := W12.size
  have O12 := O11.wr W12 gn_ua
  have K12 := K11.wr W12 (Or.inl (List.mem_of_getElem? (i := 0) rfl))
  have N12 := Fr.snoc X12 N11 gn_ua
  have V12 : Arv Z h12 ua ka .int (12 : Int32) [(.int (-1 : Int32)), (.int (-1 : Int32)), (.int (-1 : Int32)), (.int (-1 : Int32)), (.int (-1 : Int32)), (.int (-1 : Int32)), (.int (-1 : Int32)), (.int (-1 : Int32)), (.int (-1 : Int32)), (.int (-1 : Int32)), (.int (-1 : Int32)), (.int (0 : Int32))] (.int (0 : Int32)) := Arv.set Ar12 qq12 Sz12 Nn12 Hh12 Gg12 rfl W12 10 rfl (Nat.le_of_ble_eq_true rfl)
  refine own_by (B := T12.setTop (mkF m 14 #[.val (.ref ua), .val (.int (-1 : Int32)), .val (.int (10 : Int32)), .val (.int (12 : Int32))] [])) st12 ?_
  refine own_by (B := T12.setTop (mkF m 17 #[.val (.ref ua), .val (.int (-1 : Int32)), .val (.int (11 : Int32)), .val (.int (12 : Int32))] [])) (fun _ k => XS.iinc X12.here hx rfl (hb hby d4_14) rfl (l' := #[.val (.ref ua), .val (.int (-1 : Int32)), .val (.int (11 : Int32)), .val (.int (12 : Int32))]) rfl k) ?_
  refine own_by (B := T12.setTop (mkF m 5 #[.val (.ref ua), .val (.int (-1 : Int32)), .val (.int (11 : Int32)), .val (.int (12 : Int32))] [])) (fun _ k => XS.goto X12.here hx rfl (pc0 := 17) (pc' := 5) rfl (hb hby d4_17) (by decide) (by decide) k) ?_
  refine own_by (B := T12.setTop (mkF m 6 #[.val (.ref ua), .val (.int (-1 : Int32)), .val (.int (11 : Int32)), .val (.int (12 : Int32))] [(.int (11 : Int32))])) (fun _ k => XS.iloadN X12.here hx rfl (hb hby d4_5) rfl  k) ?_
  refine own_by (B := T12.setTop (mkF m 7 #[.val (.ref ua), .val (.int (-1 : Int32)), .val (.int (11 : Int32)), .val (.int (12 : Int32))] [(.int (12 : Int32)), (.int (11 : Int32))])) (fun _ k => XS.iloadN X12.here hx rfl (hb hby d4_6) rfl  k) ?_
  refine own_by (B := T12.setTop (mkF m 10 #[.val (.ref ua), .val (.int (-1 : Int32)), .val (.int (11 : Int32)), .val (.int (12 : Int32))] [])) (fun _ k => XS.icmpNo X12.here hx rfl (hb hby d4_7) rfl (XT.ii_ge_f (by decide)) k) ?_
  refine own_by (B := T12.setTop (mkF m 11 #[.val (.ref ua), .val (.int (-1 : Int32)), .val (.int (11 : Int32)), .val (.int (12 : Int32))] [(.ref ua)])) (fun _ k => XS.aloadN X12.here hx rfl (hb hby d4_10) rfl rfl  k) ?_
  refine own_by (B := T12.setTop (mkF m 12 #[.val (.ref ua), .val (.int (-1 : Int32)), .val (.int (11 : Int32)), .val (.int (12 : Int32))] [(.int (11 : Int32)), (.ref ua)])) (fun _ k => XS.iloadN X12.here hx rfl (hb hby d4_11) rfl  k) ?_
  refine own_by (B := T12.setTop (mkF m 13 #[.val (.ref ua), .val (.int (-1 : Int32)), .val (.int (11 : Int32)), .val (.int (12 : Int32))] [(.int (-1 : Int32)), (.int (11 : Int32)), (.ref ua)])) (fun _ k => XS.iloadN X12.here hx rfl (hb hby d4_12) rfl  k) ?_
  obtain ⟨cl13, Ar13, qq13, Sz13, Nn13, Hh13, Gg13⟩ := id (V12)
  have hin13 : ¬ ((11 : Int32) < 0 ∨ cl13.slots.size ≤ ((11 : Int32)).toNatClampNeg) := inb_of Sz13 ⟨by decide, by decide⟩
  obtain ⟨T13, h13, X13, e13, W13, st13⟩ := stI X12 hx hZ e12 Ar13 (j := (11 : Int32)) hin13 (g := (mkF m 13 #[.val (.ref ua), .val (.int (-1 : Int32)), .val (.int (11 : Int32)), .val (.int (12 : Int32))] [(.int (-1 : Int32)), (.int (11 : Int32)), (.ref ua)])) rfl rfl (hb hby d4_13)
  have sz13 := W13.size
  have O13 := O12.wr W13 gn_ua
  have K13 := K12.wr W13 (Or.inl (List.mem_of_getElem? (i := 0) rfl))
  have N13 := Fr.snoc X13 N12 gn_ua
  have V13 : Arv Z h13 ua ka .int (12 : Int32) [(.int (-1 : Int32)), (.int (-1 : Int32)), (.int (-1 : Int32)), (.int (-1 : Int32)), (.int (-1 : Int32)), (.int (-1 : Int32)), (.int (-1 : Int32)), (.int (-1 : Int32)), (.int (-1 : Int32)), (.int (-1 : Int32)), (.int (-1 : Int32)), (.int (-1 : Int32))] (.int (0 : Int32)) := Arv.set Ar13 qq13 Sz13 Nn13 Hh13 Gg13 rfl W13 11 rfl (Nat.le_of_ble_eq_true rfl)
  refine own_by (B := T13.setTop (mkF m 14 #[.val (.ref ua), .val (.int (-1 : Int32)), .val (.int (11 : Int32)), .val (.int (12 : Int32))] [])) st13 ?_
  refine own_by (B := T13.setTop (mkF m 17 #[.val (.ref ua), .val (.int (-1 : Int32)), .val (.int (12 : Int32)), .val (.int (12 : Int32))] [])) (fun _ k => XS.iinc X13.here hx rfl (hb hby d4_14) rfl (l' := #[.val (.ref ua), .val (.int (-1 : Int32)), .val (.int (12 : Int32)), .val (.int (12 : Int32))]) rfl k) ?_
  refine own_by (B := T13.setTop (mkF m 5 #[.val (.ref ua), .val (.int (-1 : Int32)), .val (.int (12 : Int32)), .val (.int (12 : Int32))] [])) (fun _ k => XS.goto X13.here hx rfl (pc0 := 17) (pc' := 5) rfl (hb hby d4_17) (by decide) (by decide) k) ?_
  refine own_by (B := T13.setTop (mkF m 6 #[.val (.ref ua), .val (.int (-1 : Int32)), .val (.int (12 : Int32)), .val (.int (12 : Int32))] [(.int (12 : Int32))])) (fun _ k => XS.iloadN X13.here hx rfl (hb hby d4_5) rfl  k) ?_
  refine own_by (B := T13.setTop (mkF m 7 #[.val (.ref ua), .val (.int (-1 : Int32)), .val (.int (12 : Int32)), .val (.int (12 : Int32))] [(.int (12 : Int32)), (.int (12 : Int32))])) (fun _ k => XS.iloadN X13.here hx rfl (hb hby d4_6) rfl  k) ?_
  refine own_by (B := T13.setTop (mkF m 20 #[.val (.ref ua), .val (.int (-1 : Int32)), .val (.int (12 : Int32)), .val (.int (12 : Int32))] [])) (fun _ k => XS.icmpYes X13.here hx rfl (pc0 := 7) (pc' := 20) rfl (hb hby d4_7) rfl (XT.ii_ge_t (by decide)) (by decide) (by decide) k) ?_
  exact own_retV X13 hx hrt hlk (hb hby d4_20) (by decide) (by decide) (by show own_QFi Z ua ka h0 n0 _ T13.heap _; rw [e13]; exact ⟨rfl, N13, K13, V13⟩)

def own_u0 : own_S := (List.replicate 4 none, List.replicate 4 (0 : Int32), List.replicate 4 (0 : Int32), List.replicate 12 (-1 : Int32), List.replicate 4 (0 : Int32), List.replicate 12 (0 : Int64), List.replicate 4 (0 : Int32), List.replicate 4 (0 : Int32), List.replicate 4 (0 : Int32), List.replicate 4 (0 : Int64), List.replicate 4 (0 : Int32), List.replicate 4 (0 : Int32), (0 : Int64), (0 : Int32))
def own_lst (L : List Nat) (i : Nat) : Nat := L.getD i 0
def own_QCt (Z : State) (ua : Nat) (CA : Nat → Nat) (CK : Nat → ClassId) (CL : List (List Int32)) (n0 : Nat) (v : Option Value) (h : Heap) (L : List Loc) : Prop := ∃ (A : Nat → Nat) (K : Nat → ClassId), v = none ∧ Fr n0 L ∧ A 0 = ua ∧ own_PS Z h n0 A K (4 : Int32) (12 : Int32) CA CK CL own_u0

theorem d2_0 : decode prog_77_method_1_code 0 = .ok (.aload_n 0, 1) := by decide +kernel
theorem d2_1 : decode prog_77_method_1_code 1 = .ok (.invokespecial 1, 3) := by decide +kernel
theorem d2_4 : decode prog_77_method_1_code 4 = .ok (.aload_n 0, 1) := by decide +kernel
theorem d2_5 : decode prog_77_method_1_code 5 = .ok (.iload_n 1, 1) := by decide +kernel
theorem d2_6 : decode prog_77_method_1_code 6 = .ok (.anewarray 7, 3) := by decide +kernel
theorem d2_9 : decode prog_77_method_1_code 9 = .ok (.putfield 9, 3) := by decide +kernel
theorem d2_12 : decode prog_77_method_1_code 12 = .ok (.aload_n 0, 1) := by decide +kernel
theorem d2_13 : decode prog_77_method_1_code 13 = .ok (.iload_n 1, 1) := by decide +kernel
theorem d2_14 : decode prog_77_method_1_code 14 = .ok (.newarray .int, 2) := by decide +kernel
theorem d2_16 : decode prog_77_method_1_code 16 = .ok (.putfield 15, 3) := by decide +kernel
theorem d2_19 : decode prog_77_method_1_code 19 = .ok (.aload_n 0, 1) := by decide +kernel
theorem d2_20 : decode prog_77_method_1_code 20 = .ok (.iload_n 1, 1) := by decide +kernel
theorem d2_21 : decode prog_77_method_1_code 21 = .ok (.newarray .int, 2) := by decide +kernel
theorem d2_23 : decode prog_77_method_1_code 23 = .ok (.putfield 18, 3) := by decide +kernel
theorem d2_26 : decode prog_77_method_1_code 26 = .ok (.aload_n 0, 1) := by decide +kernel
theorem d2_27 : decode prog_77_method_1_code 27 = .ok (.iload_n 2, 1) := by decide +kernel
theorem d2_28 : decode prog_77_method_1_code 28 = .ok (.newarray .int, 2) := by decide +kernel
theorem d2_30 : decode prog_77_method_1_code 30 = .ok (.putfield 21, 3) := by decide +kernel
theorem d2_33 : decode prog_77_method_1_code 33 = .ok (.aload_n 0, 1) := by decide +kernel
theorem d2_34 : decode prog_77_method_1_code 34 = .ok (.iload_n 1, 1) := by decide +kernel
theorem d2_35 : decode prog_77_method_1_code 35 = .ok (.newarray .boolean, 2) := by decide +kernel
theorem d2_37 : decode prog_77_method_1_code 37 = .ok (.putfield 24, 3) := by decide +kernel
theorem d2_40 : decode prog_77_method_1_code 40 = .ok (.aload_n 0, 1) := by decide +kernel
theorem d2_41 : decode prog_77_method_1_code 41 = .ok (.iload_n 2, 1) := by decide +kernel
theorem d2_42 : decode prog_77_method_1_code 42 = .ok (.newarray .long, 2) := by decide +kernel
theorem d2_44 : decode prog_77_method_1_code 44 = .ok (.putfield 28, 3) := by decide +kernel
theorem d2_47 : decode prog_77_method_1_code 47 = .ok (.aload_n 0, 1) := by decide +kernel
theorem d2_48 : decode prog_77_method_1_code 48 = .ok (.iload_n 1, 1) := by decide +kernel
theorem d2_49 : decode prog_77_method_1_code 49 = .ok (.newarray .int, 2) := by decide +kernel
theorem d2_51 : decode prog_77_method_1_code 51 = .ok (.putfield 32, 3) := by decide +kernel
theorem d2_54 : decode prog_77_method_1_code 54 = .ok (.aload_n 0, 1) := by decide +kernel
theorem d2_55 : decode prog_77_method_1_code 55 = .ok (.iload_n 1, 1) := by decide +kernel
theorem d2_56 : decode prog_77_method_1_code 56 = .ok (.newarray .int, 2) := by decide +kernel
theorem d2_58 : decode prog_77_method_1_code 58 = .ok (.putfield 35, 3) := by decide +kernel
theorem d2_61 : decode prog_77_method_1_code 61 = .ok (.aload_n 0, 1) := by decide +kernel
theorem d2_62 : decode prog_77_method_1_code 62 = .ok (.iload_n 1, 1) := by decide +kernel
theorem d2_63 : decode prog_77_method_1_code 63 = .ok (.newarray .int, 2) := by decide +kernel
theorem d2_65 : decode prog_77_method_1_code 65 = .ok (.putfield 38, 3) := by decide +kernel
theorem d2_68 : decode prog_77_method_1_code 68 = .ok (.aload_n 0, 1) := by decide +kernel
theorem d2_69 : decode prog_77_method_1_code 69 = .ok (.iload_n 1, 1) := by decide +kernel
theorem d2_70 : decode prog_77_method_1_code 70 = .ok (.newarray .long, 2) := by decide +kernel
theorem d2_72 : decode prog_77_method_1_code 72 = .ok (.putfield 41, 3) := by decide +kernel
theorem d2_75 : decode prog_77_method_1_code 75 = .ok (.aload_n 0, 1) := by decide +kernel
theorem d2_76 : decode prog_77_method_1_code 76 = .ok (.iload_n 1, 1) := by decide +kernel
theorem d2_77 : decode prog_77_method_1_code 77 = .ok (.newarray .int, 2) := by decide +kernel
theorem d2_79 : decode prog_77_method_1_code 79 = .ok (.putfield 44, 3) := by decide +kernel
theorem d2_82 : decode prog_77_method_1_code 82 = .ok (.aload_n 0, 1) := by decide +kernel
theorem d2_83 : decode prog_77_method_1_code 83 = .ok (.iload_n 1, 1) := by decide +kernel
theorem d2_84 : decode prog_77_method_1_code 84 = .ok (.newarray .int, 2) := by decide +kernel
theorem d2_86 : decode prog_77_method_1_code 86 = .ok (.putfield 47, 3) := by decide +kernel
theorem d2_89 : decode prog_77_method_1_code 89 = .ok (.aload_n 0, 1) := by decide +kernel
theorem d2_90 : decode prog_77_method_1_code 90 = .ok (.getfield 21, 3) := by decide +kernel
theorem d2_93 : decode prog_77_method_1_code 93 = .ok (.iconst (-1), 1) := by decide +kernel
theorem d2_94 : decode prog_77_method_1_code 94 = .ok (.invokestatic 50, 3) := by decide +kernel
theorem d2_97 : decode prog_77_method_1_code 97 = .ok (.return_, 1) := by decide +kernel
theorem pd_2___II_V : parseMethodDescriptor "([II)V" = some ⟨[(.array .int), .int], none⟩ := by decide +kernel
theorem pn_rmCt : plainFor (⟨"com/example/document_pattern_rules/documentpatternrules/pattern/Pairing", "<init>", "(II)V"⟩ : MethodName) = true := by first | exact plainFor_of_name (by first | (simp [plainName, overriddenIn]; done) | decide +kernel) | exact Jvm.Free.JP.mathPlain rfl (by decide +kernel) | decide +kernel
theorem ef_rmCt (m : MethodId) (x0 : Nat) (x1 : Int32) (x2 : Int32) : entryFrame m #[(.ref x0), (.int x1), (.int x2)] 3 = mkF m 0 #[.val (.ref x0), .val (.int x1), .val (.int x2)] [] := by first | (simp [entryFrame, mkF, argsToLocals, Value.category]; done) | rfl
set_option maxRecDepth 65536 in
set_option maxHeartbeats 40000000 in
theorem rmCt (l : Launch) (Z : State) (a0 : Array Value) (hw : ∀ d ∈ tables_1, d.before a0 Z = true) (ws : List Jvm.Cond) (ua : Nat) (CA : Nat → Nat) (CK : Nat → ClassId) (CL : List (List Int32)) (h0 : Heap) (n0 : Nat) (Z0 : n0 ≤ h0.size) (O0 : Old Z n0 h0) (E_ua : Exa Z h0 ua "com/example/document_pattern_rules/documentpatternrules/pattern/Pairing") (F_fits : Fld Z h0 ua "com/example/document_pattern_rules/documentpatternrules/pattern/Pairing" "fits" "[[I" .null) (F_kind : Fld Z h0 ua "com/example/document_pattern_rules/documentpatternrules/pattern/Pairing" "kind" "[I" .null) (F_partner : Fld Z h0 ua "com/example/document_pattern_rules/documentpatternrules/pattern/Pairing" "partner" "[I" .null) (F_holder : Fld Z h0 ua "com/example/document_pattern_rules/documentpatternrules/pattern/Pairing" "holder" "[I" .null) (F_fixed : Fld Z h0 ua "com/example/document_pattern_rules/documentpatternrules/pattern/Pairing" "fixed" "[Z" .null) (F_visited : Fld Z h0 ua "com/example/document_pattern_rules/documentpatternrules/pattern/Pairing" "visited" "[J" .null) (F_path : Fld Z h0 ua "com/example/document_pattern_rules/documentpatternrules/pattern/Pairing" "path" "[I" .null) (F_via : Fld Z h0 ua "com/example/document_pattern_rules/documentpatternrules/pattern/Pairing" "via" "[I" .null) (F_ownFrom : Fld Z h0 ua "com/example/document_pattern_rules/documentpatternrules/pattern/Pairing" "ownFrom" "[I" .null) (F_scanned : Fld Z h0 ua "com/example/document_pattern_rules/documentpatternrules/pattern/Pairing" "scanned" "[J" .null) (F_next : Fld Z h0 ua "com/example/document_pattern_rules/documentpatternrules/pattern/Pairing" "next" "[I" .null) (F_fixedFrom : Fld Z h0 ua "com/example/document_pattern_rules/documentpatternrules/pattern/Pairing" "fixedFrom" "[I" .null) (F_searches : Fld Z h0 ua "com/example/document_pattern_rules/documentpatternrules/pattern/Pairing" "searches" "J" (.long (0 : Int64))) (F_rows : Fld Z h0 ua "com/example/document_pattern_rules/documentpatternrules/pattern/Pairing" "rows" "I" (.int (0 : Int32))) (gn_ua : n0 ≤ ua) (cc : ∀ i L, CL[i]? = some L → own_IA Z h0 (CA i) (CK i) .int (Int32.ofNat L.length) L ∧ Exa Z h0 (CA i) "[I" ∧ CA i < ua) :
    MetFree l (⟨"com/example/document_pattern_rules/documentpatternrules/pattern/Pairing", "<init>", "(II)V"⟩ : MethodName) (head1 (Jvm.Cond.code (⟨"com/example/document_pattern_rules/documentpatternrules/pattern/Pairing", "<init>", "(II)V"⟩ : MethodName) prog_77_method_1_code 3 none :: ws) ({ frames := 1, cells := 12, slots := 64, locals := 15 } : Room)) (fun a U => a = #[(.ref ua), (.int (4 : Int32)), (.int (12 : Int32))] ∧ Z.Warmed39 U.vm ∧ U.heap = h0) (fun _ _ _ _ _ => True) (fun _ U o U' => ∃ v L, o = .returned v ∧ (own_QCt Z ua CA CK CL n0) v U'.heap L ∧ FrameEnd U o U' L 12 64) := by
  refine MetFree.of_bodySF pn_rmCt hisR ?_
  intro p e s m args below meth c s₁ Bd hml0 hP hK
  obtain ⟨rfl, hZ, hh⟩ := hP
  have hx := Bd.exec
  have hby := Bd.bytes
  have hml : c.maxLocals = 3 := hml0
  have hown : s.vm.findClass "com/example/document_pattern_rules/documentpatternrules/pattern/Pairing" = some m.cls := findClass_of_methodNamed Bd.named
  have hnm := (name_of_methodNamed Bd.named Bd.method).1
  have hrt := Bd.returns
  have hlk := Bd.notSynchronized
  have X0 : Stand p l e ({ frames := 1, cells := 12, slots := 64, locals := 15 } : Room) s m #[(.ref ua), (.int (4 : Int32)), (.int (12 : Int32))] below meth c s₁ [] 0 0 := Stand.of_body Bd
  have e0 : s₁.heap = h0 := by rw [← hh, Bd.state]; rfl
  have N0 := Fr.nil n0
  have K0 := Keep.refl h0 [ua]
  have lt_ua := own_lt E_ua.lt
  refine own_done (B := s₁.setTop (mkF m 0 #[.val (.ref ua), .val (.int (4 : Int32)), .val (.int (12 : Int32))] [])) (fun t k => castTop (ef_rmCt m ua (4 : Int32) (12 : Int32)) k) ?_
  refine own_by (B := s₁.setTop (mkF m 1 #[.val (.ref ua), .val (.int (4 : Int32)), .val (.int (12 : Int32))] [(.ref ua)])) (fun _ k => XS.aloadN X0.here hx rfl (hb hby d2_0) rfl rfl  k) ?_
  obtain ⟨T1, X1, e1, st1⟩ := initO X0 hx hZ hown (hw _ (List.mem_of_getElem? (i := 11) rfl)) (hw _ (List.mem_of_getElem? (i := 12) rfl)) (hw _ (List.mem_of_getElem? (i := 13) rfl)) e0 (g := (mkF m 1 #[.val (.ref ua), .val (.int (4 : Int32)), .val (.int (12 : Int32))] [(.ref ua)])) rfl (by rw [hml]; rfl) rfl (hb hby d2_1) (by decide) (W := 0) (by show 2 * 0 + _ ≤ _; exact Nat.le_of_eq rfl) (by decide)
  refine own_by (B := T1.setTop (mkF m 4 #[.val (.ref ua), .val (.int (4 : Int32)), .val (.int (12 : Int32))] [])) st1 ?_
  refine own_by (B := T1.setTop (mkF m 5 #[.val (.ref ua), .val (.int (4 : Int32)), .val (.int (12 : Int32))] [(.ref ua)])) (fun _ k => XS.aloadN X1.here hx rfl (hb hby d2_4) rfl rfl  k) ?_
  refine own_by (B := T1.setTop (mkF m 6 #[.val (.ref ua), .val (.int (4 : Int32)), .val (.int (12 : Int32))] [(.int (4 : Int32)), (.ref ua)])) (fun _ k => XS.iloadN X1.here hx rfl (hb hby d2_5) rfl  k) ?_
  obtain ⟨T2, h2, ka2, X2, e2, E2, A2, EA2, Ov2, st2⟩ := newRA X1 hx hZ hown (ty := .int) (C := "[I") (by decide) (hw _ (List.mem_of_getElem? (i := 14) rfl)) (hw _ (List.mem_of_getElem? (i := 15) rfl)) e1 (g := (mkF m 6 #[.val (.ref ua), .val (.int (4 : Int32)), .val (.int (12 : Int32))] [(.int (4 : Int32)), (.ref ua)])) rfl (hb hby d2_6) rfl (by decide) (cap := 4) (by decide) (by decide) (by decide) (by decide) (ad := "[[I") (by decide)
  obtain ⟨b2, g2⟩ : ∃ z, z = h0.size := ⟨_, rfl⟩
  rw [← g2] at A2 EA2 st2
  have sz2 := E2.1
  have gn2 : n0 ≤ b2 := g2 ▸ own_old_le O0
  have fz2 : h0.size ≤ b2 := g2 ▸ K0.1
  have lt2 := own_lt A2.lt
  have O2 := O0.ext E2
  have K2 := K0.ext E2
  have V2 : Arv Z h2 b2 ka2 (.array .int) (4 : Int32) [.null, .null, .null, .null] .null := (Arv.new A2 (by decide)).pad (pad_rep [] .null 4)
  refine own_by (B := T2.setTop (mkF m 9 #[.val (.ref ua), .val (.int (4 : Int32)), .val (.int (12 : Int32))] [(.ref b2), (.ref ua)])) st2 ?_
  have c4 := (E_ua.ext E2)
  have c5 := (F_fits.ext E2)
  obtain ⟨T3, h3, X3, e3, W3, st3⟩ := putF X2 hx hZ hown (host := "") (Or.inl (hw _ (List.mem_of_getElem? (i := 16) rfl))) Via.refl e2 c5 c4 (Or.inr ⟨(hw _ (List.mem_of_getElem? (i := 17) rfl)), rfl, hnm⟩) (hw _ (List.mem_of_getElem? (i := 6) rfl)) (ty := (.array (.array .int))) (by decide) rfl rfl (g := (mkF m 9 #[.val (.ref ua), .val (.int (4 : Int32)), .val (.int (12 : Int32))] [(.ref b2), (.ref ua)])) rfl rfl (hb hby d2_9)
  have sz3 := W3.size
  have O3 := O2.wr W3 gn_ua
  have K3 := K2.wr W3 (Or.inl (List.mem_of_getElem? (i := 0) rfl))
  have N3 := Fr.snoc X3 N0 gn_ua
  have F3 := c5.same W3
  refine own_by (B := T3.setTop (mkF m 12 #[.val (.ref ua), .val (.int (4 : Int32)), .val (.int (12 : Int32))] [])) st3 ?_
  refine own_by (B := T3.setTop (mkF m 13 #[.val (.ref ua), .val (.int (4 : Int32)), .val (.int (12 : Int32))] [(.ref ua)])) (fun _ k => XS.aloadN X3.here hx rfl (hb hby d2_12) rfl rfl  k) ?_
  refine own_by (B := T3.setTop (mkF m 14 #[.val (.ref ua), .val (.int (4 : Int32)), .val (.int (12 : Int32))] [(.int (4 : Int32)), (.ref ua)])) (fun _ k => XS.iloadN X3.here hx rfl (hb hby d2_13) rfl  k) ?_
  obtain ⟨T6, h6, ka6, X6, e6, E6, A6, EA6, st6⟩ := newPE X3 hx hZ (hw _ (List.mem_of_getElem? (i := 4) rfl)) e3 (g := (mkF m 14 #[.val (.ref ua), .val (.int (4 : Int32)), .val (.int (12 : Int32))] [(.int (4 : Int32)), (.ref ua)])) rfl (hb hby d2_14) rfl (by decide) (cap := 4) (by decide) (by decide) (by decide) (by decide) (ad := "[I") (by decide)
  obtain ⟨b6, g6⟩ : ∃ z, z = h3.size := ⟨_, rfl⟩
  rw [← g6] at A6 EA6 st6
  have sz6 := E6.1
  have gn6 : n0 ≤ b6 := g6 ▸ own_old_le O3
  have fz6 : h0.size ≤ b6 := g6 ▸ K3.1
  have lt6 := own_lt A6.lt
  have O6 := O3.ext E6
  have K6 := K3.ext E6
  have V6 : Arv Z h6 b6 ka6 .int (4 : Int32) [(.int (0 : Int32)), (.int (0 : Int32)), (.int (0 : Int32)), (.int (0 : Int32))] (.int (0 : Int32)) := (Arv.new A6 (by decide)).pad (pad_rep [] (.int (0 : Int32)) 4)
  refine own_by (B := T6.setTop (mkF m 16 #[.val (.ref ua), .val (.int (4 : Int32)), .val (.int (12 : Int32))] [(.ref b6), (.ref ua)])) st6 ?_
  have c8 := ((c4.wr W3).ext E6)
  have c9 := (((F_kind.ext E2).other W3 (Or.inr (slot_ne (Or.inr (hw _ (List.mem_of_getElem? (i := 19) rfl))) (Or.inr (hw _ (List.mem_of_getElem? (i := 17) rfl))) (by decide) (t := (.array .int)) (t' := (.array (.array .int))) (by decide) (by decide)))).ext E6)
  obtain ⟨T7, h7, X7, e7, W7, st7⟩ := putF X6 hx hZ hown (host := "") (Or.inl (hw _ (List.mem_of_getElem? (i := 18) rfl))) Via.refl e6 c9 c8 (Or.inr ⟨(hw _ (List.mem_of_getElem? (i := 19) rfl)), rfl, hnm⟩) (hw _ (List.mem_of_getElem? (i := 6) rfl)) (ty := (.array .int)) (by decide) rfl rfl (g := (mkF m 16 #[.val (.ref ua), .val (.int (4 : Int32)), .val (.int (12 : Int32))] [(.ref b6), (.ref ua)])) rfl rfl (hb hby d2_16)
  have sz7 := W7.size
  have O7 := O6.wr W7 gn_ua
  have K7 := K6.wr W7 (Or.inl (List.mem_of_getElem? (i := 0) rfl))
  have N7 := Fr.snoc X7 N3 gn_ua
  have F7 := c9.same W7
  refine own_by (B := T7.setTop (mkF m 19 #[.val (.ref ua), .val (.int (4 : Int32)), .val (.int (12 : Int32))] [])) st7 ?_
  refine own_by (B := T7.setTop (mkF m 20 #[.val (.ref ua), .val (.int (4 : Int32)), .val (.int (12 : Int32))] [(.ref ua)])) (fun _ k => XS.aloadN X7.here hx rfl (hb hby d2_19) rfl rfl  k) ?_
  refine own_by (B := T7.setTop (mkF m 21 #[.val (.ref ua), .val (.int (4 : Int32)), .val (.int (12 : Int32))] [(.int (4 : Int32)), (.ref ua)])) (fun _ k => XS.iloadN X7.here hx rfl (hb hby d2_20) rfl  k) ?_
  obtain ⟨T10, h10, ka10, X10, e10, E10, A10, EA10, st10⟩ := newPE X7 hx hZ (hw _ (List.mem_of_getElem? (i := 4) rfl)) e7 (g := (mkF m 21 #[.val (.ref ua), .val (.int (4 : Int32)), .val (.int (12 : Int32))] [(.int (4 : Int32)), (.ref ua)])) rfl (hb hby d2_21) rfl (by decide) (cap := 4) (by decide) (by decide) (by decide) (by decide) (ad := "[I") (by decide)
  obtain ⟨b10, g10⟩ : ∃ z, z = h7.size := ⟨_, rfl⟩
  rw [← g10] at A10 EA10 st10
  have sz10 := E10.1
  have gn10 : n0 ≤ b10 := g10 ▸ own_old_le O7
  have fz10 : h0.size ≤ b10 := g10 ▸ K7.1
  have lt10 := own_lt A10.lt
  have O10 := O7.ext E10
  have K10 := K7.ext E10
  have V10 : Arv Z h10 b10 ka10 .int (4 : Int32) [(.int (0 : Int32)), (.int (0 : Int32)), (.int (0 : Int32)), (.int (0 : Int32))] (.int (0 : Int32)) := (Arv.new A10 (by decide)).pad (pad_rep [] (.int (0 : Int32)) 4)
  refine own_by (B := T10.setTop (mkF m 23 #[.val (.ref ua), .val (.int (4 : Int32)), .val (.int (12 : Int32))] [(.ref b10), (.ref ua)])) st10 ?_
  have c12 := ((c8.wr W7).ext E10)
  have c13 := (((((F_partner.ext E2).other W3 (Or.inr (slot_ne (Or.inr (hw _ (List.mem_of_getElem? (i := 21) rfl))) (Or.inr (hw _ (List.mem_of_getElem? (i := 17) rfl))) (by decide) (t := (.array .int)) (t' := (.array (.array .int))) (by decide) (by decide)))).ext E6).other W7 (Or.inr (slot_ne (Or.inr (hw _ (List.mem_of_getElem? (i := 21) rfl))) (Or.inr (hw _ (List.mem_of_getElem? (i := 19) rfl))) (by decide) (t := (.array .int)) (t' := (.array .int)) (by decide) (by decide)))).ext E10)
  obtain ⟨T11, h11, X11, e11, W11, st11⟩ := putF X10 hx hZ hown (host := "") (Or.inl (hw _ (List.mem_of_getElem? (i := 20) rfl))) Via.refl e10 c13 c12 (Or.inr ⟨(hw _ (List.mem_of_getElem? (i := 21) rfl)), rfl, hnm⟩) (hw _ (List.mem_of_getElem? (i := 6) rfl)) (ty := (.array .int)) (by decide) rfl rfl (g := (mkF m 23 #[.val (.ref ua), .val (.int (4 : Int32)), .val (.int (12 : Int32))] [(.ref b10), (.ref ua)])) rfl rfl (hb hby d2_23)
  have sz11 := W11.size
  have O11 := O10.wr W11 gn_ua
  have K11 := K10.wr W11 (Or.inl (List.mem_of_getElem? (i := 0) rfl))
  have N11 := Fr.snoc X11 N7 gn_ua
  have F11 := c13.same W11
  refine own_by (B := T11.setTop (mkF m 26 #[.val (.ref ua), .val (.int (4 : Int32)), .val (.int (12 : Int32))] [])) st11 ?_
  refine own_by (B := T11.setTop (mkF m 27 #[.val (.ref ua), .val (.int (4 : Int32)), .val (.int (12 : Int32))] [(.ref ua)])) (fun _ k => XS.aloadN X11.here hx rfl (hb hby d2_26) rfl rfl  k) ?_
  refine own_by (B := T11.setTop (mkF m 28 #[.val (.ref ua), .val (.int (4 : Int32)), .val (.int (12 : Int32))] [(.int (12 : Int32)), (.ref ua)])) (fun _ k => XS.iloadN X11.here hx rfl (hb hby d2_27) rfl  k) ?_
  obtain ⟨T14, h14, ka14, X14, e14, E14, A14, EA14, st14⟩ := newPE X11 hx hZ (hw _ (List.mem_of_getElem? (i := 4) rfl)) e11 (g := (mkF m 28 #[.val (.ref ua), .val (.int (4 : Int32)), .val (.int (12 : Int32))] [(.int (12 : Int32)), (.ref ua)])) rfl (hb hby d2_28) rfl (by decide) (cap := 12) (by decide) (by decide) (by decide) (by decide) (ad := "[I") (by decide)
  obtain ⟨b14, g14⟩ : ∃ z, z = h11.size := ⟨_, rfl⟩
  rw [← g14] at A14 EA14 st14
  have sz14 := E14.1
  have gn14 : n0 ≤ b14 := g14 ▸ own_old_le O11
  have fz14 : h0.size ≤ b14 := g14 ▸ K11.1
  have lt14 := own_lt A14.lt
  have O14 := O11.ext E14
  have K14 := K11.ext E14
  have V14 : Arv Z h14 b14 ka14 .int (12 : Int32) [(.int (0 : Int32)), (.int (0 : Int32)), (.int (0 : Int32)), (.int (0 : Int32)), (.int (0 : Int32)), (.int (0 : Int32)), (.int (0 : Int32)), (.int (0 : Int32)), (.int (0 : Int32)), (.int (0 : Int32)), (.int (0 : Int32)), (.int (0 : Int32))] (.int (0 : Int32)) := (Arv.new A14 (by decide)).pad (pad_rep [] (.int (0 : Int32)) 12)
  refine own_by (B := T14.setTop (mkF m 30 #[.val (.ref ua), .val (.int (4 : Int32)), .val (.int (12 : Int32))] [(.ref b14), (.ref ua)])) st14 ?_
  have c16 := ((c12.wr W11).ext E14)
  have c17 := (((((((F_holder.ext E2).other W3 (Or.inr (slot_ne (Or.inr (hw _ (List.mem_of_getElem? (i := 23) rfl))) (Or.inr (hw _ (List.mem_of_getElem? (i := 17) rfl))) (by decide) (t := (.array .int)) (t' := (.array (.array .int))) (by decide) (by decide)))).ext E6).other W7 (Or.inr (slot_ne (Or.inr (hw _ (List.mem_of_getElem? (i := 23) rfl))) (Or.inr (hw _ (List.mem_of_getElem? (i := 19) rfl))) (by decide) (t := (.array .int)) (t' := (.array .int)) (by decide) (by decide)))).ext E10).other W11 (Or.inr (slot_ne (Or.inr (hw _ (List.mem_of_getElem? (i := 23) rfl))) (Or.inr (hw _ (List.mem_of_getElem? (i := 21) rfl))) (by decide) (t := (.array .int)) (t' := (.array .int)) (by decide) (by decide)))).ext E14)
  obtain ⟨T15, h15, X15, e15, W15, st15⟩ := putF X14 hx hZ hown (host := "") (Or.inl (hw _ (List.mem_of_getElem? (i := 22) rfl))) Via.refl e14 c17 c16 (Or.inr ⟨(hw _ (List.mem_of_getElem? (i := 23) rfl)), rfl, hnm⟩) (hw _ (List.mem_of_getElem? (i := 6) rfl)) (ty := (.array .int)) (by decide) rfl rfl (g := (mkF m 30 #[.val (.ref ua), .val (.int (4 : Int32)), .val (.int (12 : Int32))] [(.ref b14), (.ref ua)])) rfl rfl (hb hby d2_30)
  have sz15 := W15.size
  have O15 := O14.wr W15 gn_ua
  have K15 := K14.wr W15 (Or.inl (List.mem_of_getElem? (i := 0) rfl))
  have N15 := Fr.snoc X15 N11 gn_ua
  have F15 := c17.same W15
  refine own_by (B := T15.setTop (mkF m 33 #[.val (.ref ua), .val (.int (4 : Int32)), .val (.int (12 : Int32))] [])) st15 ?_
  refine own_by (B := T15.setTop (mkF m 34 #[.val (.ref ua), .val (.int (4 : Int32)), .val (.int (12 : Int32))] [(.ref ua)])) (fun _ k => XS.aloadN X15.here hx rfl (hb hby d2_33) rfl rfl  k) ?_
  refine own_by (B := T15.setTop (mkF m 35 #[.val (.ref ua), .val (.int (4 : Int32)), .val (.int (12 : Int32))] [(.int (4 : Int32)), (.ref ua)])) (fun _ k => XS.iloadN X15.here hx rfl (hb hby d2_34) rfl  k) ?_
  obtain ⟨T18, h18, ka18, X18, e18, E18, A18, EA18, st18⟩ := newPE X15 hx hZ (hw _ (List.mem_of_getElem? (i := 24) rfl)) e15 (g := (mkF m 35 #[.val (.ref ua), .val (.int (4 : Int32)), .val (.int (12 : Int32))] [(.int (4 : Int32)), (.ref ua)])) rfl (hb hby d2_35) rfl (by decide) (cap := 4) (by decide) (by decide) (by decide) (by decide) (ad := "[Z") (by decide)
  obtain ⟨b18, g18⟩ : ∃ z, z = h15.size := ⟨_, rfl⟩
  rw [← g18] at A18 EA18 st18
  have sz18 := E18.1
  have gn18 : n0 ≤ b18 := g18 ▸ own_old_le O15
  have fz18 : h0.size ≤ b18 := g18 ▸ K15.1
  have lt18 := own_lt A18.lt
  have O18 := O15.ext E18
  have K18 := K15.ext E18
  have V18 : Arv Z h18 b18 ka18 .boolean (4 : Int32) [(.int (0 : Int32)), (.int (0 : Int32)), (.int (0 : Int32)), (.int (0 : Int32))] (.int (0 : Int32)) := (Arv.new A18 (by decide)).pad (pad_rep [] (.int (0 : Int32)) 4)
  refine own_by (B := T18.setTop (mkF m 37 #[.val (.ref ua), .val (.int (4 : Int32)), .val (.int (12 : Int32))] [(.ref b18), (.ref ua)])) st18 ?_
  have c20 := ((c16.wr W15).ext E18)
  have c21 := (((((((((F_fixed.ext E2).other W3 (Or.inr (slot_ne (Or.inr (hw _ (List.mem_of_getElem? (i := 26) rfl))) (Or.inr (hw _ (List.mem_of_getElem? (i := 17) rfl))) (by decide) (t := (.array .boolean)) (t' := (.array (.array .int))) (by decide) (by decide)))).ext E6).other W7 (Or.inr (slot_ne (Or.inr (hw _ (List.mem_of_getElem? (i := 26) rfl))) (Or.inr (hw _ (List.mem_of_getElem? (i := 19) rfl))) (by decide) (t := (.array .boolean)) (t' := (.array .int)) (by decide) (by decide)))).ext E10).other W11 (Or.inr (slot_ne (Or.inr (hw _ (List.mem_of_getElem? (i := 26) rfl))) (Or.inr (hw _ (List.mem_of_getElem? (i := 21) rfl))) (by decide) (t := (.array .boolean)) (t' := (.array .int)) (by decide) (by decide)))).ext E14).other W15 (Or.inr (slot_ne (Or.inr (hw _ (List.mem_of_getElem? (i := 26) rfl))) (Or.inr (hw _ (List.mem_of_getElem? (i := 23) rfl))) (by decide) (t := (.array .boolean)) (t' := (.array .int)) (by decide) (by decide)))).ext E18)
  obtain ⟨T19, h19, X19, e19, W19, st19⟩ := putF X18 hx hZ hown (host := "") (Or.inl (hw _ (List.mem_of_getElem? (i := 25) rfl))) Via.refl e18 c21 c20 (Or.inr ⟨(hw _ (List.mem_of_getElem? (i := 26) rfl)), rfl, hnm⟩) (hw _ (List.mem_of_getElem? (i := 6) rfl)) (ty := (.array .boolean)) (by decide) rfl rfl (g := (mkF m 37 #[.val (.ref ua), .val (.int (4 : Int32)), .val (.int (12 : Int32))] [(.ref b18), (.ref ua)])) rfl rfl (hb hby d2_37)
  have sz19 := W19.size
  have O19 := O18.wr W19 gn_ua
  have K19 := K18.wr W19 (Or.inl (List.mem_of_getElem? (i := 0) rfl))
  have N19 := Fr.snoc X19 N15 gn_ua
  have F19 := c21.same W19
  refine own_by (B := T19.setTop (mkF m 40 #[.val (.ref ua), .val (.int (4 : Int32)), .val (.int (12 : Int32))] [])) st19 ?_
  refine own_by (B := T19.setTop (mkF m 41 #[.val (.ref ua), .val (.int (4 : Int32)), .val (.int (12 : Int32))] [(.ref ua)])) (fun _ k => XS.aloadN X19.here hx rfl (hb hby d2_40) rfl rfl  k) ?_
  refine own_by (B := T19.setTop (mkF m 42 #[.val (.ref ua), .val (.int (4 : Int32)), .val (.int (12 : Int32))] [(.int (12 : Int32)), (.ref ua)])) (fun _ k => XS.iloadN X19.here hx rfl (hb hby d2_41) rfl  k) ?_
  obtain ⟨T22, h22, ka22, X22, e22, E22, A22, EA22, st22⟩ := newPE X19 hx hZ (hw _ (List.mem_of_getElem? (i := 27) rfl)) e19 (g := (mkF m 42 #[.val (.ref ua), .val (.int (4 : Int32)), .val (.int (12 : Int32))] [(.int (12 : Int32)), (.ref ua)])) rfl (hb hby d2_42) rfl (by decide) (cap := 12) (by decide) (by decide) (by decide) (by decide) (ad := "[J") (by decide)
  obtain ⟨b22, g22⟩ : ∃ z, z = h19.size := ⟨_, rfl⟩
  rw [← g22] at A22 EA22 st22
  have sz22 := E22.1
  have gn22 : n0 ≤ b22 := g22 ▸ own_old_le O19
  have fz22 : h0.size ≤ b22 := g22 ▸ K19.1
  have lt22 := own_lt A22.lt
  have O22 := O19.ext E22
  have K22 := K19.ext E22
  have V22 : Arv Z h22 b22 ka22 .long (12 : Int32) [(.long (0 : Int64)), (.long (0 : Int64)), (.long (0 : Int64)), (.long (0 : Int64)), (.long (0 : Int64)), (.long (0 : Int64)), (.long (0 : Int64)), (.long (0 : Int64)), (.long (0 : Int64)), (.long (0 : Int64)), (.long (0 : Int64)), (.long (0 : Int64))] (.long (0 : Int64)) := (Arv.new A22 (by decide)).pad (pad_rep [] (.long (0 : Int64)) 12)
  refine own_by (B := T22.setTop (mkF m 44 #[.val (.ref ua), .val (.int (4 : Int32)), .val (.int (12 : Int32))] [(.ref b22), (.ref ua)])) st22 ?_
  have c24 := ((c20.wr W19).ext E22)
  have c25 := (((((((((((F_visited.ext E2).other W3 (Or.inr (slot_ne (Or.inr (hw _ (List.mem_of_getElem? (i := 29) rfl))) (Or.inr (hw _ (List.mem_of_getElem? (i := 17) rfl))) (by decide) (t := (.array .long)) (t' := (.array (.array .int))) (by decide) (by decide)))).ext E6).other W7 (Or.inr (slot_ne (Or.inr (hw _ (List.mem_of_getElem? (i := 29) rfl))) (Or.inr (hw _ (List.mem_of_getElem? (i := 19) rfl))) (by decide) (t := (.array .long)) (t' := (.array .int)) (by decide) (by decide)))).ext E10).other W11 (Or.inr (slot_ne (Or.inr (hw _ (List.mem_of_getElem? (i := 29) rfl))) (Or.inr (hw _ (List.mem_of_getElem? (i := 21) rfl))) (by decide) (t := (.array .long)) (t' := (.array .int)) (by decide) (by decide)))).ext E14).other W15 (Or.inr (slot_ne (Or.inr (hw _ (List.mem_of_getElem? (i := 29) rfl))) (Or.inr (hw _ (List.mem_of_getElem? (i := 23) rfl))) (by decide) (t := (.array .long)) (t' := (.array .int)) (by decide) (by decide)))).ext E18).other W19 (Or.inr (slot_ne (Or.inr (hw _ (List.mem_of_getElem? (i := 29) rfl))) (Or.inr (hw _ (List.mem_of_getElem? (i := 26) rfl))) (by decide) (t := (.array .long)) (t' := (.array .boolean)) (by decide) (by decide)))).ext E22)
  obtain ⟨T23, h23, X23, e23, W23, st23⟩ := putF X22 hx hZ hown (host := "") (Or.inl (hw _ (List.mem_of_getElem? (i := 28) rfl))) Via.refl e22 c25 c24 (Or.inr ⟨(hw _ (List.mem_of_getElem? (i := 29) rfl)), rfl, hnm⟩) (hw _ (List.mem_of_getElem? (i := 6) rfl)) (ty := (.array .long)) (by decide) rfl rfl (g := (mkF m 44 #[.val (.ref ua), .val (.int (4 : Int32)), .val (.int (12 : Int32))] [(.ref b22), (.ref ua)])) rfl rfl (hb hby d2_44)
  have sz23 := W23.size
  have O23 := O22.wr W23 gn_ua
  have K23 := K22.wr W23 (Or.inl (List.mem_of_getElem? (i := 0) rfl))
  have N23 := Fr.snoc X23 N19 gn_ua
  have F23 := c25.same W23
  refine own_by (B := T23.setTop (mkF m 47 #[.val (.ref ua), .val (.int (4 : Int32)), .val (.int (12 : Int32))] [])) st23 ?_
  refine own_by (B := T23.setTop (mkF m 48 #[.val (.ref ua), .val (.int (4 : Int32)), .val (.int (12 : Int32))] [(.ref ua)])) (fun _ k => XS.aloadN X23.here hx rfl (hb hby d2_47) rfl rfl  k) ?_
  refine own_by (B := T23.setTop (mkF m 49 #[.val (.ref ua), .val (.int (4 : Int32)), .val (.int (12 : Int32))] [(.int (4 : Int32)), (.ref ua)])) (fun _ k => XS.iloadN X23.here hx rfl (hb hby d2_48) rfl  k) ?_
  obtain ⟨T26, h26, ka26, X26, e26, E26, A26, EA26, st26⟩ := newPE X23 hx hZ (hw _ (List.mem_of_getElem? (i := 4) rfl)) e23 (g := (mkF m 49 #[.val (.ref ua), .val (.int (4 : Int32)), .val (.int (12 : Int32))] [(.int (4 : Int32)), (.ref ua)])) rfl (hb hby d2_49) rfl (by decide) (cap := 4) (by decide) (by decide) (by decide) (by decide) (ad := "[I") (by decide)
  obtain ⟨b26, g26⟩ : ∃ z, z = h23.size := ⟨_, rfl⟩
  rw [← g26] at A26 EA26 st26
  have sz26 := E26.1
  have gn26 : n0 ≤ b26 := g26 ▸ own_old_le O23
  have fz26 : h0.size ≤ b26 := g26 ▸ K23.1
  have lt26 := own_lt A26.lt
  have O26 := O23.ext E26
  have K26 := K23.ext E26
  have V26 : Arv Z h26 b26 ka26 .int (4 : Int32) [(.int (0 : Int32)), (.int (0 : Int32)), (.int (0 : Int32)), (.int (0 : Int32))] (.int (0 : Int32)) := (Arv.new A26 (by decide)).pad (pad_rep [] (.int (0 : Int32)) 4)
  refine own_by (B := T26.setTop (mkF m 51 #[.val (.ref ua), .val (.int (4 : Int32)), .val (.int (12 : Int32))] [(.ref b26), (.ref ua)])) st26 ?_
  have c28 := ((c24.wr W23).ext E26)
  have c29 := (((((((((((((F_path.ext E2).other W3 (Or.inr (slot_ne (Or.inr (hw _ (List.mem_of_getElem? (i := 31) rfl))) (Or.inr (hw _ (List.mem_of_getElem? (i := 17) rfl))) (by decide) (t := (.array .int)) (t' := (.array (.array .int))) (by decide) (by decide)))).ext E6).other W7 (Or.inr (slot_ne (Or.inr (hw _ (List.mem_of_getElem? (i := 31) rfl))) (Or.inr (hw _ (List.mem_of_getElem? (i := 19) rfl))) (by decide) (t := (.array .int)) (t' := (.array .int)) (by decide) (by decide)))).ext E10).other W11 (Or.inr (slot_ne (Or.inr (hw _ (List.mem_of_getElem? (i := 31) rfl))) (Or.inr (hw _ (List.mem_of_getElem? (i := 21) rfl))) (by decide) (t := (.array .int)) (t' := (.array .int)) (by decide) (by decide)))).ext E14).other W15 (Or.inr (slot_ne (Or.inr (hw _ (List.mem_of_getElem? (i := 31) rfl))) (Or.inr (hw _ (List.mem_of_getElem? (i := 23) rfl))) (by decide) (t := (.array .int)) (t' := (.array .int)) (by decide) (by decide)))).ext E18).other W19 (Or.inr (slot_ne (Or.inr (hw _ (List.mem_of_getElem? (i := 31) rfl))) (Or.inr (hw _ (List.mem_of_getElem? (i := 26) rfl))) (by decide) (t := (.array .int)) (t' := (.array .boolean)) (by decide) (by decide)))).ext E22).other W23 (Or.inr (slot_ne (Or.inr (hw _ (List.mem_of_getElem? (i := 31) rfl))) (Or.inr (hw _ (List.mem_of_getElem? (i := 29) rfl))) (by decide) (t := (.array .int)) (t' := (.array .long)) (by decide) (by decide)))).ext E26)
  obtain ⟨T27, h27, X27, e27, W27, st27⟩ := putF X26 hx hZ hown (host := "") (Or.inl (hw _ (List.mem_of_getElem? (i := 30) rfl))) Via.refl e26 c29 c28 (Or.inr ⟨(hw _ (List.mem_of_getElem? (i := 31) rfl)), rfl, hnm⟩) (hw _ (List.mem_of_getElem? (i := 6) rfl)) (ty := (.array .int)) (by decide) rfl rfl (g := (mkF m 51 #[.val (.ref ua), .val (.int (4 : Int32)), .val (.int (12 : Int32))] [(.ref b26), (.ref ua)])) rfl rfl (hb hby d2_51)
  have sz27 := W27.size
  have O27 := O26.wr W27 gn_ua
  have K27 := K26.wr W27 (Or.inl (List.mem_of_getElem? (i := 0) rfl))
  have N27 := Fr.snoc X27 N23 gn_ua
  have F27 := c29.same W27
  refine own_by (B := T27.setTop (mkF m 54 #[.val (.ref ua), .val (.int (4 : Int32)), .val (.int (12 : Int32))] [])) st27 ?_
  refine own_by (B := T27.setTop (mkF m 55 #[.val (.ref ua), .val (.int (4 : Int32)), .val (.int (12 : Int32))] [(.ref ua)])) (fun _ k => XS.aloadN X27.here hx rfl (hb hby d2_54) rfl rfl  k) ?_
  refine own_by (B := T27.setTop (mkF m 56 #[.val (.ref ua), .val (.int (4 : Int32)), .val (.int (12 : Int32))] [(.int (4 : Int32)), (.ref ua)])) (fun _ k => XS.iloadN X27.here hx rfl (hb hby d2_55) rfl  k) ?_
  obtain ⟨T30, h30, ka30, X30, e30, E30, A30, EA30, st30⟩ := newPE X27 hx hZ (hw _ (List.mem_of_getElem? (i := 4) rfl)) e27 (g := (mkF m 56 #[.val (.ref ua), .val (.int (4 : Int32)), .val (.int (12 : Int32))] [(.int (4 : Int32)), (.ref ua)])) rfl (hb hby d2_56) rfl (by decide) (cap := 4) (by decide) (by decide) (by decide) (by decide) (ad := "[I") (by decide)
  obtain ⟨b30, g30⟩ : ∃ z, z = h27.size := ⟨_, rfl⟩
  rw [← g30] at A30 EA30 st30
  have sz30 := E30.1
  have gn30 : n0 ≤ b30 := g30 ▸ own_old_le O27
  have fz30 : h0.size ≤ b30 := g30 ▸ K27.1
  have lt30 := own_lt A30.lt
  have O30 := O27.ext E30
  have K30 := K27.ext E30
  have V30 : Arv Z h30 b30 ka30 .int (4 : Int32) [(.int (0 : Int32)), (.int (0 : Int32)), (.int (0 : Int32)), (.int (0 : Int32))] (.int (0 : Int32)) := (Arv.new A30 (by decide)).pad (pad_rep [] (.int (0 : Int32)) 4)
  refine own_by (B := T30.setTop (mkF m 58 #[.val (.ref ua), .val (.int (4 : Int32)), .val (.int (12 : Int32))] [(.ref b30), (.ref ua)])) st30 ?_
  have c32 := ((c28.wr W27).ext E30)
  have c33 := (((((((((((((((F_via.ext E2).other W3 (Or.inr (slot_ne (Or.inr (hw _ (List.mem_of_getElem? (i := 33) rfl))) (Or.inr (hw _ (List.mem_of_getElem? (i := 17) rfl))) (by decide) (t := (.array .int)) (t' := (.array (.array .int))) (by decide) (by decide)))).ext E6).other W7 (Or.inr (slot_ne (Or.inr (hw _ (List.mem_of_getElem? (i := 33) rfl))) (Or.inr (hw _ (List.mem_of_getElem? (i := 19) rfl))) (by decide) (t := (.array .int)) (t' := (.array .int)) (by decide) (by decide)))).ext E10).other W11 (Or.inr (slot_ne (Or.inr (hw _ (List.mem_of_getElem? (i := 33) rfl))) (Or.inr (hw _ (List.mem_of_getElem? (i := 21) rfl))) (by decide) (t := (.array .int)) (t' := (.array .int)) (by decide) (by decide)))).ext E14).other W15 (Or.inr (slot_ne (Or.inr (hw _ (List.mem_of_getElem? (i := 33) rfl))) (Or.inr (hw _ (List.mem_of_getElem? (i := 23) rfl))) (by decide) (t := (.array .int)) (t' := (.array .int)) (by decide) (by decide)))).ext E18).other W19 (Or.inr (slot_ne (Or.inr (hw _ (List.mem_of_getElem? (i := 33) rfl))) (Or.inr (hw _ (List.mem_of_getElem? (i := 26) rfl))) (by decide) (t := (.array .int)) (t' := (.array .boolean)) (by decide) (by decide)))).ext E22).other W23 (Or.inr (slot_ne (Or.inr (hw _ (List.mem_of_getElem? (i := 33) rfl))) (Or.inr (hw _ (List.mem_of_getElem? (i := 29) rfl))) (by decide) (t := (.array .int)) (t' := (.array .long)) (by decide) (by decide)))).ext E26).other W27 (Or.inr (slot_ne (Or.inr (hw _ (List.mem_of_getElem? (i := 33) rfl))) (Or.inr (hw _ (List.mem_of_getElem? (i := 31) rfl))) (by decide) (t := (.array .int)) (t' := (.array .int)) (by decide) (by decide)))).ext E30)
  obtain ⟨T31, h31, X31, e31, W31, st31⟩ := putF X30 hx hZ hown (host := "") (Or.inl (hw _ (List.mem_of_getElem? (i := 32) rfl))) Via.refl e30 c33 c32 (Or.inr ⟨(hw _ (List.mem_of_getElem? (i := 33) rfl)), rfl, hnm⟩) (hw _ (List.mem_of_getElem? (i := 6) rfl)) (ty := (.array .int)) (by decide) rfl rfl (g := (mkF m 58 #[.val (.ref ua), .val (.int (4 : Int32)), .val (.int (12 : Int32))] [(.ref b30), (.ref ua)])) rfl rfl (hb hby d2_58)
  have sz31 := W31.size
  have O31 := O30.wr W31 gn_ua
  have K31 := K30.wr W31 (Or.inl (List.mem_of_getElem? (i := 0) rfl))
  have N31 := Fr.snoc X31 N27 gn_ua
  have F31 := c33.same W31
  refine own_by (B := T31.setTop (mkF m 61 #[.val (.ref ua), .val (.int (4 : Int32)), .val (.int (12 : Int32))] [])) st31 ?_
  refine own_by (B := T31.setTop (mkF m 62 #[.val (.ref ua), .val (.int (4 : Int32)), .val (.int (12 : Int32))] [(.ref ua)])) (fun _ k => XS.aloadN X31.here hx rfl (hb hby d2_61) rfl rfl  k) ?_
  refine own_by (B := T31.setTop (mkF m 63 #[.val (.ref ua), .val (.int (4 : Int32)), .val (.int (12 : Int32))] [(.int (4 : Int32)), (.ref ua)])) (fun _ k => XS.iloadN X31.here hx rfl (hb hby d2_62) rfl  k) ?_
  obtain ⟨T34, h34, ka34, X34, e34, E34, A34, EA34, st34⟩ := newPE X31 hx hZ (hw _ (List.mem_of_getElem? (i := 4) rfl)) e31 (g := (mkF m 63 #[.val (.ref ua), .val (.int (4 : Int32)), .val (.int (12 : Int32))] [(.int (4 : Int32)), (.ref ua)])) rfl (hb hby d2_63) rfl (by decide) (cap := 4) (by decide) (by decide) (by decide) (by decide) (ad := "[I") (by decide)
  obtain ⟨b34, g34⟩ : ∃ z, z = h31.size := ⟨_, rfl⟩
  rw [← g34] at A34 EA34 st34
  have sz34 := E34.1
  have gn34 : n0 ≤ b34 := g34 ▸ own_old_le O31
  have fz34 : h0.size ≤ b34 := g34 ▸ K31.1
  have lt34 := own_lt A34.lt
  have O34 := O31.ext E34
  have K34 := K31.ext E34
  have V34 : Arv Z h34 b34 ka34 .int (4 : Int32) [(.int (0 : Int32)), (.int (0 : Int32)), (.int (0 : Int32)), (.int (0 : Int32))] (.int (0 : Int32)) := (Arv.new A34 (by decide)).pad (pad_rep [] (.int (0 : Int32)) 4)
  refine own_by (B := T34.setTop (mkF m 65 #[.val (.ref ua), .val (.int (4 : Int32)), .val (.int (12 : Int32))] [(.ref b34), (.ref ua)])) st34 ?_
  have c36 := ((c32.wr W31).ext E34)
  have c37 := (((((((((((((((((F_ownFrom.ext E2).other W3 (Or.inr (slot_ne (Or.inr (hw _ (List.mem_of_getElem? (i := 35) rfl))) (Or.inr (hw _ (List.mem_of_getElem? (i := 17) rfl))) (by decide) (t := (.array .int)) (t' := (.array (.array .int))) (by decide) (by decide)))).ext E6).other W7 (Or.inr (slot_ne (Or.inr (hw _ (List.mem_of_getElem? (i := 35) rfl))) (Or.inr (hw _ (List.mem_of_getElem? (i := 19) rfl))) (by decide) (t := (.array .int)) (t' := (.array .int)) (by decide) (by decide)))).ext E10).other W11 (Or.inr (slot_ne (Or.inr (hw _ (List.mem_of_getElem? (i := 35) rfl))) (Or.inr (hw _ (List.mem_of_getElem? (i := 21) rfl))) (by decide) (t := (.array .int)) (t' := (.array .int)) (by decide) (by decide)))).ext E14).other W15 (Or.inr (slot_ne (Or.inr (hw _ (List.mem_of_getElem? (i := 35) rfl))) (Or.inr (hw _ (List.mem_of_getElem? (i := 23) rfl))) (by decide) (t := (.array .int)) (t' := (.array .int)) (by decide) (by decide)))).ext E18).other W19 (Or.inr (slot_ne (Or.inr (hw _ (List.mem_of_getElem? (i := 35) rfl))) (Or.inr (hw _ (List.mem_of_getElem? (i := 26) rfl))) (by decide) (t := (.array .int)) (t' := (.array .boolean)) (by decide) (by decide)))).ext E22).other W23 (Or.inr (slot_ne (Or.inr (hw _ (List.mem_of_getElem? (i := 35) rfl))) (Or.inr (hw _ (List.mem_of_getElem? (i := 29) rfl))) (by decide) (t := (.array .int)) (t' := (.array .long)) (by decide) (by decide)))).ext E26).other W27 (Or.inr (slot_ne (Or.inr (hw _ (List.mem_of_getElem? (i := 35) rfl))) (Or.inr (hw _ (List.mem_of_getElem? (i := 31) rfl))) (by decide) (t := (.array .int)) (t' := (.array .int)) (by decide) (by decide)))).ext E30).other W31 (Or.inr (slot_ne (Or.inr (hw _ (List.mem_of_getElem? (i := 35) rfl))) (Or.inr (hw _ (List.mem_of_getElem? (i := 33) rfl))) (by decide) (t := (.array .int)) (t' := (.array .int)) (by decide) (by decide)))).ext E34)
  obtain ⟨T35, h35, X35, e35, W35, st35⟩ := putF X34 hx hZ hown (host := "") (Or.inl (hw _ (List.mem_of_getElem? (i := 34) rfl))) Via.refl e34 c37 c36 (Or.inr ⟨(hw _ (List.mem_of_getElem? (i := 35) rfl)), rfl, hnm⟩) (hw _ (List.mem_of_getElem? (i := 6) rfl)) (ty := (.array .int)) (by decide) rfl rfl (g := (mkF m 65 #[.val (.ref ua), .val (.int (4 : Int32)), .val (.int (12 : Int32))] [(.ref b34), (.ref ua)])) rfl rfl (hb hby d2_65)
  have sz35 := W35.size
  have O35 := O34.wr W35 gn_ua
  have K35 := K34.wr W35 (Or.inl (List.mem_of_getElem? (i := 0) rfl))
  have N35 := Fr.snoc X35 N31 gn_ua
  have F35 := c37.same W35
  refine own_by (B := T35.setTop (mkF m 68 #[.val (.ref ua), .val (.int (4 : Int32)), .val (.int (12 : Int32))] [])) st35 ?_
  refine own_by (B := T35.setTop (mkF m 69 #[.val (.ref ua), .val (.int (4 : Int32)), .val (.int (12 : Int32))] [(.ref ua)])) (fun _ k => XS.aloadN X35.here hx rfl (hb hby d2_68) rfl rfl  k) ?_
  refine own_by (B := T35.setTop (mkF m 70 #[.val (.ref ua), .val (.int (4 : Int32)), .val (.int (12 : Int32))] [(.int (4 : Int32)), (.ref ua)])) (fun _ k => XS.iloadN X35.here hx rfl (hb hby d2_69) rfl  k) ?_
  obtain ⟨T38, h38, ka38, X38, e38, E38, A38, EA38, st38⟩ := newPE X35 hx hZ (hw _ (List.mem_of_getElem? (i := 27) rfl)) e35 (g := (mkF m 70 #[.val (.ref ua), .val (.int (4 : Int32)), .val (.int (12 : Int32))] [(.int (4 : Int32)), (.ref ua)])) rfl (hb hby d2_70) rfl (by decide) (cap := 4) (by decide) (by decide) (by decide) (by decide) (ad := "[J") (by decide)
  obtain ⟨b38, g38⟩ : ∃ z, z = h35.size := ⟨_, rfl⟩
  rw [← g38] at A38 EA38 st38
  have sz38 := E38.1
  have gn38 : n0 ≤ b38 := g38 ▸ own_old_le O35
  have fz38 : h0.size ≤ b38 := g38 ▸ K35.1
  have lt38 := own_lt A38.lt
  have O38 := O35.ext E38
  have K38 := K35.ext E38
  have V38 : Arv Z h38 b38 ka38 .long (4 : Int32) [(.long (0 : Int64)), (.long (0 : Int64)), (.long (0 : Int64)), (.long (0 : Int64))] (.long (0 : Int64)) := (Arv.new A38 (by decide)).pad (pad_rep [] (.long (0 : Int64)) 4)
  refine own_by (B := T38.setTop (mkF m 72 #[.val (.ref ua), .val (.int (4 : Int32)), .val (.int (12 : Int32))] [(.ref b38), (.ref ua)])) st38 ?_
  have c40 := ((c36.wr W35).ext E38)
  have c41 := (((((((((((((((((((F_scanned.ext E2).other W3 (Or.inr (slot_ne (Or.inr (hw _ (List.mem_of_getElem? (i := 37) rfl))) (Or.inr (hw _ (List.mem_of_getElem? (i := 17) rfl))) (by decide) (t := (.array .long)) (t' := (.array (.array .int))) (by decide) (by decide)))).ext E6).other W7 (Or.inr (slot_ne (Or.inr (hw _ (List.mem_of_getElem? (i := 37) rfl))) (Or.inr (hw _ (List.mem_of_getElem? (i := 19) rfl))) (by decide) (t := (.array .long)) (t' := (.array .int)) (by decide) (by decide)))).ext E10).other W11 (Or.inr (slot_ne (Or.inr (hw _ (List.mem_of_getElem? (i := 37) rfl))) (Or.inr (hw _ (List.mem_of_getElem? (i := 21) rfl))) (by decide) (t := (.array .long)) (t' := (.array .int)) (by decide) (by decide)))).ext E14).other W15 (Or.inr (slot_ne (Or.inr (hw _ (List.mem_of_getElem? (i := 37) rfl))) (Or.inr (hw _ (List.mem_of_getElem? (i := 23) rfl))) (by decide) (t := (.array .long)) (t' := (.array .int)) (by decide) (by decide)))).ext E18).other W19 (Or.inr (slot_ne (Or.inr (hw _ (List.mem_of_getElem? (i := 37) rfl))) (Or.inr (hw _ (List.mem_of_getElem? (i := 26) rfl))) (by decide) (t := (.array .long)) (t' := (.array .boolean)) (by decide) (by decide)))).ext E22).other W23 (Or.inr (slot_ne (Or.inr (hw _ (List.mem_of_getElem? (i := 37) rfl))) (Or.inr (hw _ (List.mem_of_getElem? (i := 29) rfl))) (by decide) (t := (.array .long)) (t' := (.array .long)) (by decide) (by decide)))).ext E26).other W27 (Or.inr (slot_ne (Or.inr (hw _ (List.mem_of_getElem? (i := 37) rfl))) (Or.inr (hw _ (List.mem_of_getElem? (i := 31) rfl))) (by decide) (t := (.array .long)) (t' := (.array .int)) (by decide) (by decide)))).ext E30).other W31 (Or.inr (slot_ne (Or.inr (hw _ (List.mem_of_getElem? (i := 37) rfl))) (Or.inr (hw _ (List.mem_of_getElem? (i := 33) rfl))) (by decide) (t := (.array .long)) (t' := (.array .int)) (by decide) (by decide)))).ext E34).other W35 (Or.inr (slot_ne (Or.inr (hw _ (List.mem_of_getElem? (i := 37) rfl))) (Or.inr (hw _ (List.mem_of_getElem? (i := 35) rfl))) (by decide) (t := (.array .long)) (t' := (.array .int)) (by decide) (by decide)))).ext E38)
  obtain ⟨T39, h39, X39, e39, W39, st39⟩ := putF X38 hx hZ hown (host := "") (Or.inl (hw _ (List.mem_of_getElem? (i := 36) rfl))) Via.refl e38 c41 c40 (Or.inr ⟨(hw _ (List.mem_of_getElem? (i := 37) rfl)), rfl, hnm⟩) (hw _ (List.mem_of_getElem? (i := 6) rfl)) (ty := (.array .long)) (by decide) rfl rfl (g := (mkF m 72 #[.val (.ref ua), .val (.int (4 : Int32)), .val (.int (12 : Int32))] [(.ref b38), (.ref ua)])) rfl rfl (hb hby d2_72)
  have sz39 := W39.size
  have O39 := O38.wr W39 gn_ua
  have K39 := K38.wr W39 (Or.inl (List.mem_of_getElem? (i := 0) rfl))
  have N39 := Fr.snoc X39 N35 gn_ua
  have F39 := c41.same W39
  refine own_by (B := T39.setTop (mkF m 75 #[.val (.ref ua), .val (.int (4 : Int32)), .val (.int (12 : Int32))] [])) st39 ?_
  refine own_by (B := T39.setTop (mkF m 76 #[.val (.ref ua), .val (.int (4 : Int32)), .val (.int (12 : Int32))] [(.ref ua)])) (fun _ k => XS.aloadN X39.here hx rfl (hb hby d2_75) rfl rfl  k) ?_
  refine own_by (B := T39.setTop (mkF m 77 #[.val (.ref ua), .val (.int (4 : Int32)), .val (.int (12 : Int32))] [(.int (4 : Int32)), (.ref ua)])) (fun _ k => XS.iloadN X39.here hx rfl (hb hby d2_76) rfl  k) ?_
  obtain ⟨T42, h42, ka42, X42, e42, E42, A42, EA42, st42⟩ := newPE X39 hx hZ (hw _ (List.mem_of_getElem? (i := 4) rfl)) e39 (g := (mkF m 77 #[.val (.ref ua), .val (.int (4 : Int32)), .val (.int (12 : Int32))] [(.int (4 : Int32)), (.ref ua)])) rfl (hb hby d2_77) rfl (by decide) (cap := 4) (by decide) (by decide) (by decide) (by decide) (ad := "[I") (by decide)
  obtain ⟨b42, g42⟩ : ∃ z, z = h39.size := ⟨_, rfl⟩
  rw [← g42] at A42 EA42 st42
  have sz42 := E42.1
  have gn42 : n0 ≤ b42 := g42 ▸ own_old_le O39
  have fz42 : h0.size ≤ b42 := g42 ▸ K39.1
  have lt42 := own_lt A42.lt
  have O42 := O39.ext E42
  have K42 := K39.ext E42
  have V42 : Arv Z h42 b42 ka42 .int (4 : Int32) [(.int (0 : Int32)), (.int (0 : Int32)), (.int (0 : Int32)), (.int (0 : Int32))] (.int (0 : Int32)) := (Arv.new A42 (by decide)).pad (pad_rep [] (.int (0 : Int32)) 4)
  refine own_by (B := T42.setTop (mkF m 79 #[.val (.ref ua), .val (.int (4 : Int32)), .val (.int (12 : Int32))] [(.ref b42), (.ref ua)])) st42 ?_
  have c44 := ((c40.wr W39).ext E42)
  have c45 := (((((((((((((((((((((F_next.ext E2).other W3 (Or.inr (slot_ne (Or.inr (hw _ (List.mem_of_getElem? (i := 39) rfl))) (Or.inr (hw _ (List.mem_of_getElem? (i := 17) rfl))) (by decide) (t := (.array .int)) (t' := (.array (.array .int))) (by decide) (by decide)))).ext E6).other W7 (Or.inr (slot_ne (Or.inr (hw _ (List.mem_of_getElem? (i := 39) rfl))) (Or.inr (hw _ (List.mem_of_getElem? (i := 19) rfl))) (by decide) (t := (.array .int)) (t' := (.array .int)) (by decide) (by decide)))).ext E10).other W11 (Or.inr (slot_ne (Or.inr (hw _ (List.mem_of_getElem? (i := 39) rfl))) (Or.inr (hw _ (List.mem_of_getElem? (i := 21) rfl))) (by decide) (t := (.array .int)) (t' := (.array .int)) (by decide) (by decide)))).ext E14).other W15 (Or.inr (slot_ne (Or.inr (hw _ (List.mem_of_getElem? (i := 39) rfl))) (Or.inr (hw _ (List.mem_of_getElem? (i := 23) rfl))) (by decide) (t := (.array .int)) (t' := (.array .int)) (by decide) (by decide)))).ext E18).other W19 (Or.inr (slot_ne (Or.inr (hw _ (List.mem_of_getElem? (i := 39) rfl))) (Or.inr (hw _ (List.mem_of_getElem? (i := 26) rfl))) (by decide) (t := (.array .int)) (t' := (.array .boolean)) (by decide) (by decide)))).ext E22).other W23 (Or.inr (slot_ne (Or.inr (hw _ (List.mem_of_getElem? (i := 39) rfl))) (Or.inr (hw _ (List.mem_of_getElem? (i := 29) rfl))) (by decide) (t := (.array .int)) (t' := (.array .long)) (by decide) (by decide)))).ext E26).other W27 (Or.inr (slot_ne (Or.inr (hw _ (List.mem_of_getElem? (i := 39) rfl))) (Or.inr (hw _ (List.mem_of_getElem? (i := 31) rfl))) (by decide) (t := (.array .int)) (t' := (.array .int)) (by decide) (by decide)))).ext E30).other W31 (Or.inr (slot_ne (Or.inr (hw _ (List.mem_of_getElem? (i := 39) rfl))) (Or.inr (hw _ (List.mem_of_getElem? (i := 33) rfl))) (by decide) (t := (.array .int)) (t' := (.array .int)) (by decide) (by decide)))).ext E34).other W35 (Or.inr (slot_ne (Or.inr (hw _ (List.mem_of_getElem? (i := 39) rfl))) (Or.inr (hw _ (List.mem_of_getElem? (i := 35) rfl))) (by decide) (t := (.array .int)) (t' := (.array .int)) (by decide) (by decide)))).ext E38).other W39 (Or.inr (slot_ne (Or.inr (hw _ (List.mem_of_getElem? (i := 39) rfl))) (Or.inr (hw _ (List.mem_of_getElem? (i := 37) rfl))) (by decide) (t := (.array .int)) (t' := (.array .long)) (by decide) (by decide)))).ext E42)
  obtain ⟨T43, h43, X43, e43, W43, st43⟩ := putF X42 hx hZ hown (host := "") (Or.inl (hw _ (List.mem_of_getElem? (i := 38) rfl))) Via.refl e42 c45 c44 (Or.inr ⟨(hw _ (List.mem_of_getElem? (i := 39) rfl)), rfl, hnm⟩) (hw _ (List.mem_of_getElem? (i := 6) rfl)) (ty := (.array .int)) (by decide) rfl rfl (g := (mkF m 79 #[.val (.ref ua), .val (.int (4 : Int32)), .val (.int (12 : Int32))] [(.ref b42), (.ref ua)])) rfl rfl (hb hby d2_79)
  have sz43 := W43.size
  have O43 := O42.wr W43 gn_ua
  have K43 := K42.wr W43 (Or.inl (List.mem_of_getElem? (i := 0) rfl))
  have N43 := Fr.snoc X43 N39 gn_ua
  have F43 := c45.same W43
  refine own_by (B := T43.setTop (mkF m 82 #[.val (.ref ua), .val (.int (4 : Int32)), .val (.int (12 : Int32))] [])) st43 ?_
  refine own_by (B := T43.setTop (mkF m 83 #[.val (.ref ua), .val (.int (4 : Int32)), .val (.int (12 : Int32))] [(.ref ua)])) (fun _ k => XS.aloadN X43.here hx rfl (hb hby d2_82) rfl rfl  k) ?_
  refine own_by (B := T43.setTop (mkF m 84 #[.val (.ref ua), .val (.int (4 : Int32)), .val (.int (12 : Int32))] [(.int (4 : Int32)), (.ref ua)])) (fun _ k => XS.iloadN X43.here hx rfl (hb hby d2_83) rfl  k) ?_
  obtain ⟨T46, h46, ka46, X46, e46, E46, A46, EA46, st46⟩ := newPE X43 hx hZ (hw _ (List.mem_of_getElem? (i := 4) rfl)) e43 (g := (mkF m 84 #[.val (.ref ua), .val (.int (4 : Int32)), .val (.int (12 : Int32))] [(.int (4 : Int32)), (.ref ua)])) rfl (hb hby d2_84) rfl (by decide) (cap := 4) (by decide) (by decide) (by decide) (by decide) (ad := "[I") (by decide)
  obtain ⟨b46, g46⟩ : ∃ z, z = h43.size := ⟨_, rfl⟩
  rw [← g46] at A46 EA46 st46
  have sz46 := E46.1
  have gn46 : n0 ≤ b46 := g46 ▸ own_old_le O43
  have fz46 : h0.size ≤ b46 := g46 ▸ K43.1
  have lt46 := own_lt A46.lt
  have O46 := O43.ext E46
  have K46 := K43.ext E46
  have V46 : Arv Z h46 b46 ka46 .int (4 : Int32) [(.int (0 : Int32)), (.int (0 : Int32)), (.int (0 : Int32)), (.int (0 : Int32))] (.int (0 : Int32)) := (Arv.new A46 (by decide)).pad (pad_rep [] (.int (0 : Int32)) 4)
  refine own_by (B := T46.setTop (mkF m 86 #[.val (.ref ua), .val (.int (4 : Int32)), .val (.int (12 : Int32))] [(.ref b46), (.ref ua)])) st46 ?_
  have c48 := ((c44.wr W43).ext E46)
  have c49 := (((((((((((((((((((((((F_fixedFrom.ext E2).other W3 (Or.inr (slot_ne (Or.inr (hw _ (List.mem_of_getElem? (i := 41) rfl))) (Or.inr (hw _ (List.mem_of_getElem? (i := 17) rfl))) (by decide) (t := (.array .int)) (t' := (.array (.array .int))) (by decide) (by decide)))).ext E6).other W7 (Or.inr (slot_ne (Or.inr (hw _ (List.mem_of_getElem? (i := 41) rfl))) (Or.inr (hw _ (List.mem_of_getElem? (i := 19) rfl))) (by decide) (t := (.array .int)) (t' := (.array .int)) (by decide) (by decide)))).ext E10).other W11 (Or.inr (slot_ne (Or.inr (hw _ (List.mem_of_getElem? (i := 41) rfl))) (Or.inr (hw _ (List.mem_of_getElem? (i := 21) rfl))) (by decide) (t := (.array .int)) (t' := (.array .int)) (by decide) (by decide)))).ext E14).other W15 (Or.inr (slot_ne (Or.inr (hw _ (List.mem_of_getElem? (i := 41) rfl))) (Or.inr (hw _ (List.mem_of_getElem? (i := 23) rfl))) (by decide) (t := (.array .int)) (t' := (.array .int)) (by decide) (by decide)))).ext E18).other W19 (Or.inr (slot_ne (Or.inr (hw _ (List.mem_of_getElem? (i := 41) rfl))) (Or.inr (hw _ (List.mem_of_getElem? (i := 26) rfl))) (by decide) (t := (.array .int)) (t' := (.array .boolean)) (by decide) (by decide)))).ext E22).other W23 (Or.inr (slot_ne (Or.inr (hw _ (List.mem_of_getElem? (i := 41) rfl))) (Or.inr (hw _ (List.mem_of_getElem? (i := 29) rfl))) (by decide) (t := (.array .int)) (t' := (.array .long)) (by decide) (by decide)))).ext E26).other W27 (Or.inr (slot_ne (Or.inr (hw _ (List.mem_of_getElem? (i := 41) rfl))) (Or.inr (hw _ (List.mem_of_getElem? (i := 31) rfl))) (by decide) (t := (.array .int)) (t' := (.array .int)) (by decide) (by decide)))).ext E30).other W31 (Or.inr (slot_ne (Or.inr (hw _ (List.mem_of_getElem? (i := 41) rfl))) (Or.inr (hw _ (List.mem_of_getElem? (i := 33) rfl))) (by decide) (t := (.array .int)) (t' := (.array .int)) (by decide) (by decide)))).ext E34).other W35 (Or.inr (slot_ne (Or.inr (hw _ (List.mem_of_getElem? (i := 41) rfl))) (Or.inr (hw _ (List.mem_of_getElem? (i := 35) rfl))) (by decide) (t := (.array .int)) (t' := (.array .int)) (by decide) (by decide)))).ext E38).other W39 (Or.inr (slot_ne (Or.inr (hw _ (List.mem_of_getElem? (i := 41) rfl))) (Or.inr (hw _ (List.mem_of_getElem? (i := 37) rfl))) (by decide) (t := (.array .int)) (t' := (.array .long)) (by decide) (by decide)))).ext E42).other W43 (Or.inr (slot_ne (Or.inr (hw _ (List.mem_of_getElem? (i := 41) rfl))) (Or.inr (hw _ (List.mem_of_getElem? (i := 39) rfl))) (by decide) (t := (.array .int)) (t' := (.array .int)) (by decide) (by decide)))).ext E46)
  obtain ⟨T47, h47, X47, e47, W47, st47⟩ := putF X46 hx hZ hown (host := "") (Or.inl (hw _ (List.mem_of_getElem? (i := 40) rfl))) Via.refl e46 c49 c48 (Or.inr ⟨(hw _ (List.mem_of_getElem? (i := 41) rfl)), rfl, hnm⟩) (hw _ (List.mem_of_getElem? (i := 6) rfl)) (ty := (.array .int)) (by decide) rfl rfl (g := (mkF m 86 #[.val (.ref ua), .val (.int (4 : Int32)), .val (.int (12 : Int32))] [(.ref b46), (.ref ua)])) rfl rfl (hb hby d2_86)
  have sz47 := W47.size
  have O47 := O46.wr W47 gn_ua
  have K47 := K46.wr W47 (Or.inl (List.mem_of_getElem? (i := 0) rfl))
  have N47 := Fr.snoc X47 N43 gn_ua
  have F47 := c49.same W47
  refine own_by (B := T47.setTop (mkF m 89 #[.val (.ref ua), .val (.int (4 : Int32)), .val (.int (12 : Int32))] [])) st47 ?_
  refine own_by (B := T47.setTop (mkF m 90 #[.val (.ref ua), .val (.int (4 : Int32)), .val (.int (12 : Int32))] [(.ref ua)])) (fun _ k => XS.aloadN X47.here hx rfl (hb hby d2_89) rfl rfl  k) ?_
  have c50 := ((((((((((((((((F15.ext E18).other W19 (Or.inr (slot_ne (Or.inr (hw _ (List.mem_of_getElem? (i := 23) rfl))) (Or.inr (hw _ (List.mem_of_getElem? (i := 26) rfl))) (by decide) (t := (.array .int)) (t' := (.array .boolean)) (by decide) (by decide)))).ext E22).other W23 (Or.inr (slot_ne (Or.inr (hw _ (List.mem_of_getElem? (i := 23) rfl))) (Or.inr (hw _ (List.mem_of_getElem? (i := 29) rfl))) (by decide) (t := (.array .int)) (t' := (.array .long)) (by decide) (by decide)))).ext E26).other W27 (Or.inr (slot_ne (Or.inr (hw _ (List.mem_of_getElem? (i := 23) rfl))) (Or.inr (hw _ (List.mem_of_getElem? (i := 31) rfl))) (by decide) (t := (.array .int)) (t' := (.array .int)) (by decide) (by decide)))).ext E30).other W31 (Or.inr (slot_ne (Or.inr (hw _ (List.mem_of_getElem? (i := 23) rfl))) (Or.inr (hw _ (List.mem_of_getElem? (i := 33) rfl))) (by decide) (t := (.array .int)) (t' := (.array .int)) (by decide) (by decide)))).ext E34).other W35 (Or.inr (slot_ne (Or.inr (hw _ (List.mem_of_getElem? (i := 23) rfl))) (Or.inr (hw _ (List.mem_of_getElem? (i := 35) rfl))) (by decide) (t := (.array .int)) (t' := (.array .int)) (by decide) (by decide)))).ext E38).other W39 (Or.inr (slot_ne (Or.inr (hw _ (List.mem_of_getElem? (i := 23) rfl))) (Or.inr (hw _ (List.mem_of_getElem? (i := 37) rfl))) (by decide) (t := (.array .int)) (t' := (.array .long)) (by decide) (by decide)))).ext E42).other W43 (Or.inr (slot_ne (Or.inr (hw _ (List.mem_of_getElem? (i := 23) rfl))) (Or.inr (hw _ (List.mem_of_getElem? (i := 39) rfl))) (by decide) (t := (.array .int)) (t' := (.array .int)) (by decide) (by decide)))).ext E46).other W47 (Or.inr (slot_ne (Or.inr (hw _ (List.mem_of_getElem? (i := 23) rfl))) (Or.inr (hw _ (List.mem_of_getElem? (i := 41) rfl))) (by decide) (t := (.array .int)) (t' := (.array .int)) (by decide) (by decide))))
  obtain ⟨T51, X51, e51, st51⟩ := getF X47 hx hZ hown (host := "") (Or.inl (hw _ (List.mem_of_getElem? (i := 22) rfl))) Via.refl e47 c50 (g := (mkF m 90 #[.val (.ref ua), .val (.int (4 : Int32)), .val (.int (12 : Int32))] [(.ref ua)])) rfl rfl (hb hby d2_90)
  refine own_by (B := T51.setTop (mkF m 93 #[.val (.ref ua), .val (.int (4 : Int32)), .val (.int (12 : Int32))] [(.ref b14)])) st51 ?_
  refine own_by (B := T51.setTop (mkF m 94 #[.val (.ref ua), .val (.int (4 : Int32)), .val (.int (12 : Int32))] [(.int (-1 : Int32)), (.ref b14)])) (fun _ k => XS.iconst X51.here hx rfl (hb hby d2_93) k) ?_
  have c52 := (((((((((((((((((V14.other W15 (own_ne (by omega))).ext E18).other W19 (own_ne (by omega))).ext E22).other W23 (own_ne (by omega))).ext E26).other W27 (own_ne (by omega))).ext E30).other W31 (own_ne (by omega))).ext E34).other W35 (own_ne (by omega))).ext E38).other W39 (own_ne (by omega))).ext E42).other W43 (own_ne (by omega))).ext E46).other W47 (own_ne (by omega)))
  obtain ⟨_, _, ⟨T53, L53, k53, n53⟩, -, X53, ⟨Lc53, hQ53, l53, y53, z53⟩, st53⟩ := Jvm.LawKit.callS X51 hx (y := (⟨"java/util/Arrays", "fill", "([II)V"⟩ : MethodName)) hown (mvT hZ (hw _ (List.mem_of_getElem? (i := 42) rfl))) (mvT hZ (hw _ (List.mem_of_getElem? (i := 43) rfl))) (mvT hZ (hw _ (List.mem_of_getElem? (i := 44) rfl))) (mvT hZ (hw _ (List.mem_of_getElem? (i := 45) rfl))) (by decide) (backOf (W := 0) (rmFill l Z a0 hw [] b14 ka14 h47 n0 (own_old_le O47) O47 c52 gn14) hZ (hw _ (List.mem_of_getElem? (i := 45) rfl)) (hw _ (List.mem_of_getElem? (i := 44) rfl)) (by decide) (by decide)) (g := (mkF m 94 #[.val (.ref ua), .val (.int (4 : Int32)), .val (.int (12 : Int32))] [(.int (-1 : Int32)), (.ref b14)])) rfl (by rw [hml]; rfl) (argsL := [(.ref b14), (.int (-1 : Int32))]) (rest := []) (lenOf pd_2___II_V rfl) rfl (by show 2 * 0 + _ ≤ _; exact Nat.le_of_eq rfl) (hb hby d2_94) (fun _ _ => ⟨rfl, e51, (by decide : 12 + 0 ≤ _), (by decide : 64 + 0 ≤ _)⟩)
  dsimp only [Pt.U, Pt.locs, Pt.cells, Pt.slots] at X53 l53 y53 z53 st53 hQ53
  subst l53 y53 z53
  obtain ⟨rfl, NC53, KC53, VC53⟩ := hQ53
  refine own_by (B := T53.setTop (mkF m 97 #[.val (.ref ua), .val (.int (4 : Int32)), .val (.int (12 : Int32))] [])) st53 ?_
  obtain ⟨h53, e53⟩ : ∃ z, T53.heap = z := ⟨_, rfl⟩
  rw [e53] at KC53 VC53
  have sz53 := KC53.1
  have O53 := O47.keep KC53 (allS gn14 all0)
  have K53 := K47.trans KC53 (allS (Or.inr fz14) all0)
  have N53 := Fr.app N47 NC53
  have c54 := ((c48.wr W47).keep KC53)
  have c55 := (((((((((((((((((((((((F3.ext E6).other W7 (Or.inr (slot_ne (Or.inr (hw _ (List.mem_of_getElem? (i := 17) rfl))) (Or.inr (hw _ (List.mem_of_getElem? (i := 19) rfl))) (by decide) (t := (.array (.array .int))) (t' := (.array .int)) (by decide) (by decide)))).ext E10).other W11 (Or.inr (slot_ne (Or.inr (hw _ (List.mem_of_getElem? (i := 17) rfl))) (Or.inr (hw _ (List.mem_of_getElem? (i := 21) rfl))) (by decide) (t := (.array (.array .int))) (t' := (.array .int)) (by decide) (by decide)))).ext E14).other W15 (Or.inr (slot_ne (Or.inr (hw _ (List.mem_of_getElem? (i := 17) rfl))) (Or.inr (hw _ (List.mem_of_getElem? (i := 23) rfl))) (by decide) (t := (.array (.array .int))) (t' := (.array .int)) (by decide) (by decide)))).ext E18).other W19 (Or.inr (slot_ne (Or.inr (hw _ (List.mem_of_getElem? (i := 17) rfl))) (Or.inr (hw _ (List.mem_of_getElem? (i := 26) rfl))) (by decide) (t := (.array (.array .int))) (t' := (.array .boolean)) (by decide) (by decide)))).ext E22).other W23 (Or.inr (slot_ne (Or.inr (hw _ (List.mem_of_getElem? (i := 17) rfl))) (Or.inr (hw _ (List.mem_of_getElem? (i := 29) rfl))) (by decide) (t := (.array (.array .int))) (t' := (.array .long)) (by decide) (by decide)))).ext E26).other W27 (Or.inr (slot_ne (Or.inr (hw _ (List.mem_of_getElem? (i := 17) rfl))) (Or.inr (hw _ (List.mem_of_getElem? (i := 31) rfl))) (by decide) (t := (.array (.array .int))) (t' := (.array .int)) (by decide) (by decide)))).ext E30).other W31 (Or.inr (slot_ne (Or.inr (hw _ (List.mem_of_getElem? (i := 17) rfl))) (Or.inr (hw _ (List.mem_of_getElem? (i := 33) rfl))) (by decide) (t := (.array (.array .int))) (t' := (.array .int)) (by decide) (by decide)))).ext E34).other W35 (Or.inr (slot_ne (Or.inr (hw _ (List.mem_of_getElem? (i := 17) rfl))) (Or.inr (hw _ (List.mem_of_getElem? (i := 35) rfl))) (by decide) (t := (.array (.array .int))) (t' := (.array .int)) (by decide) (by decide)))).ext E38).other W39 (Or.inr (slot_ne (Or.inr (hw _ (List.mem_of_getElem? (i := 17) rfl))) (Or.inr (hw _ (List.mem_of_getElem? (i := 37) rfl))) (by decide) (t := (.array (.array .int))) (t' := (.array .long)) (by decide) (by decide)))).ext E42).other W43 (Or.inr (slot_ne (Or.inr (hw _ (List.mem_of_getElem? (i := 17) rfl))) (Or.inr (hw _ (List.mem_of_getElem? (i := 39) rfl))) (by decide) (t := (.array (.array .int))) (t' := (.array .int)) (by decide) (by decide)))).ext E46).other W47 (Or.inr (slot_ne (Or.inr (hw _ (List.mem_of_getElem? (i := 17) rfl))) (Or.inr (hw _ (List.mem_of_getElem? (i := 41) rfl))) (by decide) (t := (.array (.array .int))) (t' := (.array .int)) (by decide) (by decide)))).keep KC53 (ninS (own_ne (by omega)) nin0))
  have c56 := (((((((((((((((((((((F7.ext E10).other W11 (Or.inr (slot_ne (Or.inr (hw _ (List.mem_of_getElem? (i := 19) rfl))) (Or.inr (hw _ (List.mem_of_getElem? (i := 21) rfl))) (by decide) (t := (.array .int)) (t' := (.array .int)) (by decide) (by decide)))).ext E14).other W15 (Or.inr (slot_ne (Or.inr (hw _ (List.mem_of_getElem? (i := 19) rfl))) (Or.inr (hw _ (List.mem_of_getElem? (i := 23) rfl))) (by decide) (t := (.array .int)) (t' := (.array .int)) (by decide) (by decide)))).ext E18).other W19 (Or.inr (slot_ne (Or.inr (hw _ (List.mem_of_getElem? (i := 19) rfl))) (Or.inr (hw _ (List.mem_of_getElem? (i := 26) rfl))) (by decide) (t := (.array .int)) (t' := (.array .boolean)) (by decide) (by decide)))).ext E22).other W23 (Or.inr (slot_ne (Or.inr (hw _ (List.mem_of_getElem? (i := 19) rfl))) (Or.inr (hw _ (List.mem_of_getElem? (i := 29) rfl))) (by decide) (t := (.array .int)) (t' := (.array .long)) (by decide) (by decide)))).ext E26).other W27 (Or.inr (slot_ne (Or.inr (hw _ (List.mem_of_getElem? (i := 19) rfl))) (Or.inr (hw _ (List.mem_of_getElem? (i := 31) rfl))) (by decide) (t := (.array .int)) (t' := (.array .int)) (by decide) (by decide)))).ext E30).other W31 (Or.inr (slot_ne (Or.inr (hw _ (List.mem_of_getElem? (i := 19) rfl))) (Or.inr (hw _ (List.mem_of_getElem? (i := 33) rfl))) (by decide) (t := (.array .int)) (t' := (.array .int)) (by decide) (by decide)))).ext E34).other W35 (Or.inr (slot_ne (Or.inr (hw _ (List.mem_of_getElem? (i := 19) rfl))) (Or.inr (hw _ (List.mem_of_getElem? (i := 35) rfl))) (by decide) (t := (.array .int)) (t' := (.array .int)) (by decide) (by decide)))).ext E38).other W39 (Or.inr (slot_ne (Or.inr (hw _ (List.mem_of_getElem? (i := 19) rfl))) (Or.inr (hw _ (List.mem_of_getElem? (i := 37) rfl))) (by decide) (t := (.array .int)) (t' := (.array .long)) (by decide) (by decide)))).ext E42).other W43 (Or.inr (slot_ne (Or.inr (hw _ (List.mem_of_getElem? (i := 19) rfl))) (Or.inr (hw _ (List.mem_of_getElem? (i := 39) rfl))) (by decide) (t := (.array .int)) (t' := (.array .int)) (by decide) (by decide)))).ext E46).other W47 (Or.inr (slot_ne (Or.inr (hw _ (List.mem_of_getElem? (i := 19) rfl))) (Or.inr (hw _ (List.mem_of_getElem? (i := 41) rfl))) (by decide) (t := (.array .int)) (t' := (.array .int)) (by decide) (by decide)))).keep KC53 (ninS (own_ne (by omega)) nin0))
  have c57 := (((((((((((((((((((F11.ext E14).other W15 (Or.inr (slot_ne (Or.inr (hw _ (List.mem_of_getElem? (i := 21) rfl))) (Or.inr (hw _ (List.mem_of_getElem? (i := 23) rfl))) (by decide) (t := (.array .int)) (t' := (.array .int)) (by decide) (by decide)))).ext E18).other W19 (Or.inr (slot_ne (Or.inr (hw _ (List.mem_of_getElem? (i := 21) rfl))) (Or.inr (hw _ (List.mem_of_getElem? (i := 26) rfl))) (by decide) (t := (.array .int)) (t' := (.array .boolean)) (by decide) (by decide)))).ext E22).other W23 (Or.inr (slot_ne (Or.inr (hw _ (List.mem_of_getElem? (i := 21) rfl))) (Or.inr (hw _ (List.mem_of_getElem? (i := 29) rfl))) (by decide) (t := (.array .int)) (t' := (.array .long)) (by decide) (by decide)))).ext E26).other W27 (Or.inr (slot_ne (Or.inr (hw _ (List.mem_of_getElem? (i := 21) rfl))) (Or.inr (hw _ (List.mem_of_getElem? (i := 31) rfl))) (by decide) (t := (.array .int)) (t' := (.array .int)) (by decide) (by decide)))).ext E30).other W31 (Or.inr (slot_ne (Or.inr (hw _ (List.mem_of_getElem? (i := 21) rfl))) (Or.inr (hw _ (List.mem_of_getElem? (i := 33) rfl))) (by decide) (t := (.array .int)) (t' := (.array .int)) (by decide) (by decide)))).ext E34).other W35 (Or.inr (slot_ne (Or.inr (hw _ (List.mem_of_getElem? (i := 21) rfl))) (Or.inr (hw _ (List.mem_of_getElem? (i := 35) rfl))) (by decide) (t := (.array .int)) (t' := (.array .int)) (by decide) (by decide)))).ext E38).other W39 (Or.inr (slot_ne (Or.inr (hw _ (List.mem_of_getElem? (i := 21) rfl))) (Or.inr (hw _ (List.mem_of_getElem? (i := 37) rfl))) (by decide) (t := (.array .int)) (t' := (.array .long)) (by decide) (by decide)))).ext E42).other W43 (Or.inr (slot_ne (Or.inr (hw _ (List.mem_of_getElem? (i := 21) rfl))) (Or.inr (hw _ (List.mem_of_getElem? (i := 39) rfl))) (by decide) (t := (.array .int)) (t' := (.array .int)) (by decide) (by decide)))).ext E46).other W47 (Or.inr (slot_ne (Or.inr (hw _ (List.mem_of_getElem? (i := 21) rfl))) (Or.inr (hw _ (List.mem_of_getElem? (i := 41) rfl))) (by decide) (t := (.array .int)) (t' := (.array .int)) (by decide) (by decide)))).keep KC53 (ninS (own_ne (by omega)) nin0))
  have c58 := (c50.keep KC53 (ninS (own_ne (by omega)) nin0))
  have c59 := (((((((((((((((F19.ext E22).other W23 (Or.inr (slot_ne (Or.inr (hw _ (List.mem_of_getElem? (i := 26) rfl))) (Or.inr (hw _ (List.mem_of_getElem? (i := 29) rfl))) (by decide) (t := (.array .boolean)) (t' := (.array .long)) (by decide) (by decide)))).ext E26).other W27 (Or.inr (slot_ne (Or.inr (hw _ (List.mem_of_getElem? (i := 26) rfl))) (Or.inr (hw _ (List.mem_of_getElem? (i := 31) rfl))) (by decide) (t := (.array .boolean)) (t' := (.array .int)) (by decide) (by decide)))).ext E30).other W31 (Or.inr (slot_ne (Or.inr (hw _ (List.mem_of_getElem? (i := 26) rfl))) (Or.inr (hw _ (List.mem_of_getElem? (i := 33) rfl))) (by decide) (t := (.array .boolean)) (t' := (.array .int)) (by decide) (by decide)))).ext E34).other W35 (Or.inr (slot_ne (Or.inr (hw _ (List.mem_of_getElem? (i := 26) rfl))) (Or.inr (hw _ (List.mem_of_getElem? (i := 35) rfl))) (by decide) (t := (.array .boolean)) (t' := (.array .int)) (by decide) (by decide)))).ext E38).other W39 (Or.inr (slot_ne (Or.inr (hw _ (List.mem_of_getElem? (i := 26) rfl))) (Or.inr (hw _ (List.mem_of_getElem? (i := 37) rfl))) (by decide) (t := (.array .boolean)) (t' := (.array .long)) (by decide) (by decide)))).ext E42).other W43 (Or.inr (slot_ne (Or.inr (hw _ (List.mem_of_getElem? (i := 26) rfl))) (Or.inr (hw _ (List.mem_of_getElem? (i := 39) rfl))) (by decide) (t := (.array .boolean)) (t' := (.array .int)) (by decide) (by decide)))).ext E46).other W47 (Or.inr (slot_ne (Or.inr (hw _ (List.mem_of_getElem? (i := 26) rfl))) (Or.inr (hw _ (List.mem_of_getElem? (i := 41) rfl))) (by decide) (t := (.array .boolean)) (t' := (.array .int)) (by decide) (by decide)))).keep KC53 (ninS (own_ne (by omega)) nin0))
  have c60 := (((((((((((((F23.ext E26).other W27 (Or.inr (slot_ne (Or.inr (hw _ (List.mem_of_getElem? (i := 29) rfl))) (Or.inr (hw _ (List.mem_of_getElem? (i := 31) rfl))) (by decide) (t := (.array .long)) (t' := (.array .int)) (by decide) (by decide)))).ext E30).other W31 (Or.inr (slot_ne (Or.inr (hw _ (List.mem_of_getElem? (i := 29) rfl))) (Or.inr (hw _ (List.mem_of_getElem? (i := 33) rfl))) (by decide) (t := (.array .long)) (t' := (.array .int)) (by decide) (by decide)))).ext E34).other W35 (Or.inr (slot_ne (Or.inr (hw _ (List.mem_of_getElem? (i := 29) rfl))) (Or.inr (hw _ (List.mem_of_getElem? (i := 35) rfl))) (by decide) (t := (.array .long)) (t' := (.array .int)) (by decide) (by decide)))).ext E38).other W39 (Or.inr (slot_ne (Or.inr (hw _ (List.mem_of_getElem? (i := 29) rfl))) (Or.inr (hw _ (List.mem_of_getElem? (i := 37) rfl))) (by decide) (t := (.array .long)) (t' := (.array .long)) (by decide) (by decide)))).ext E42).other W43 (Or.inr (slot_ne (Or.inr (hw _ (List.mem_of_getElem? (i := 29) rfl))) (Or.inr (hw _ (List.mem_of_getElem? (i := 39) rfl))) (by decide) (t := (.array .long)) (t' := (.array .int)) (by decide) (by decide)))).ext E46).other W47 (Or.inr (slot_ne (Or.inr (hw _ (List.mem_of_getElem? (i := 29) rfl))) (Or.inr (hw _ (List.mem_of_getElem? (i := 41) rfl))) (by decide) (t := (.array .long)) (t' := (.array .int)) (by decide) (by decide)))).keep KC53 (ninS (own_ne (by omega)) nin0))
  have c61 := (((((((((((F27.ext E30).other W31 (Or.inr (slot_ne (Or.inr (hw _ (List.mem_of_getElem? (i := 31) rfl))) (Or.inr (hw _ (List.mem_of_getElem? (i := 33) rfl))) (by decide) (t := (.array .int)) (t' := (.array .int)) (by decide) (by decide)))).ext E34).other W35 (Or.inr (slot_ne (Or.inr (hw _ (List.mem_of_getElem? (i := 31) rfl))) (Or.inr (hw _ (List.mem_of_getElem? (i := 35) rfl))) (by decide) (t := (.array .int)) (t' := (.array .int)) (by decide) (by decide)))).ext E38).other W39 (Or.inr (slot_ne (Or.inr (hw _ (List.mem_of_getElem? (i := 31) rfl))) (Or.inr (hw _ (List.mem_of_getElem? (i := 37) rfl))) (by decide) (t := (.array .int)) (t' := (.array .long)) (by decide) (by decide)))).ext E42).other W43 (Or.inr (slot_ne (Or.inr (hw _ (List.mem_of_getElem? (i := 31) rfl))) (Or.inr (hw _ (List.mem_of_getElem? (i := 39) rfl))) (by decide) (t := (.array .int)) (t' := (.array .int)) (by decide) (by decide)))).ext E46).other W47 (Or.inr (slot_ne (Or.inr (hw _ (List.mem_of_getElem? (i := 31) rfl))) (Or.inr (hw _ (List.mem_of_getElem? (i := 41) rfl))) (by decide) (t := (.array .int)) (t' := (.array .int)) (by decide) (by decide)))).keep KC53 (ninS (own_ne (by omega)) nin0))
  have c62 := (((((((((F31.ext E34).other W35 (Or.inr (slot_ne (Or.inr (hw _ (List.mem_of_getElem? (i := 33) rfl))) (Or.inr (hw _ (List.mem_of_getElem? (i := 35) rfl))) (by decide) (t := (.array .int)) (t' := (.array .int)) (by decide) (by decide)))).ext E38).other W39 (Or.inr (slot_ne (Or.inr (hw _ (List.mem_of_getElem? (i := 33) rfl))) (Or.inr (hw _ (List.mem_of_getElem? (i := 37) rfl))) (by decide) (t := (.array .int)) (t' := (.array .long)) (by decide) (by decide)))).ext E42).other W43 (Or.inr (slot_ne (Or.inr (hw _ (List.mem_of_getElem? (i := 33) rfl))) (Or.inr (hw _ (List.mem_of_getElem? (i := 39) rfl))) (by decide) (t := (.array .int)) (t' := (.array .int)) (by decide) (by decide)))).ext E46).other W47 (Or.inr (slot_ne (Or.inr (hw _ (List.mem_of_getElem? (i := 33) rfl))) (Or.inr (hw _ (List.mem_of_getElem? (i := 41) rfl))) (by decide) (t := (.array .int)) (t' := (.array .int)) (by decide) (by decide)))).keep KC53 (ninS (own_ne (by omega)) nin0))
  have c63 := (((((((F35.ext E38).other W39 (Or.inr (slot_ne (Or.inr (hw _ (List.mem_of_getElem? (i := 35) rfl))) (Or.inr (hw _ (List.mem_of_getElem? (i := 37) rfl))) (by decide) (t := (.array .int)) (t' := (.array .long)) (by decide) (by decide)))).ext E42).other W43 (Or.inr (slot_ne (Or.inr (hw _ (List.mem_of_getElem? (i := 35) rfl))) (Or.inr (hw _ (List.mem_of_getElem? (i := 39) rfl))) (by decide) (t := (.array .int)) (t' := (.array .int)) (by decide) (by decide)))).ext E46).other W47 (Or.inr (slot_ne (Or.inr (hw _ (List.mem_of_getElem? (i := 35) rfl))) (Or.inr (hw _ (List.mem_of_getElem? (i := 41) rfl))) (by decide) (t := (.array .int)) (t' := (.array .int)) (by decide) (by decide)))).keep KC53 (ninS (own_ne (by omega)) nin0))
  have c64 := (((((F39.ext E42).other W43 (Or.inr (slot_ne (Or.inr (hw _ (List.mem_of_getElem? (i := 37) rfl))) (Or.inr (hw _ (List.mem_of_getElem? (i := 39) rfl))) (by decide) (t := (.array .long)) (t' := (.array .int)) (by decide) (by decide)))).ext E46).other W47 (Or.inr (slot_ne (Or.inr (hw _ (List.mem_of_getElem? (i := 37) rfl))) (Or.inr (hw _ (List.mem_of_getElem? (i := 41) rfl))) (by decide) (t := (.array .long)) (t' := (.array .int)) (by decide) (by decide)))).keep KC53 (ninS (own_ne (by omega)) nin0))
  have c65 := (((F43.ext E46).other W47 (Or.inr (slot_ne (Or.inr (hw _ (List.mem_of_getElem? (i := 39) rfl))) (Or.inr (hw _ (List.mem_of_getElem? (i := 41) rfl))) (by decide) (t := (.array .int)) (t' := (.array .int)) (by decide) (by decide)))).keep KC53 (ninS (own_ne (by omega)) nin0))
  have c66 := (F47.keep KC53 (ninS (own_ne (by omega)) nin0))
  have c67 := (((((((((((((((((((((((((F_searches.ext E2).other W3 (Or.inr (slot_ne (Or.inl (hw _ (List.mem_of_getElem? (i := 65) rfl))) (Or.inr (hw _ (List.mem_of_getElem? (i := 17) rfl))) (by decide) (t := .long) (t' := (.array (.array .int))) (by decide) (by decide)))).ext E6).other W7 (Or.inr (slot_ne (Or.inl (hw _ (List.mem_of_getElem? (i := 65) rfl))) (Or.inr (hw _ (List.mem_of_getElem? (i := 19) rfl))) (by decide) (t := .long) (t' := (.array .int)) (by decide) (by decide)))).ext E10).other W11 (Or.inr (slot_ne (Or.inl (hw _ (List.mem_of_getElem? (i := 65) rfl))) (Or.inr (hw _ (List.mem_of_getElem? (i := 21) rfl))) (by decide) (t := .long) (t' := (.array .int)) (by decide) (by decide)))).ext E14).other W15 (Or.inr (slot_ne (Or.inl (hw _ (List.mem_of_getElem? (i := 65) rfl))) (Or.inr (hw _ (List.mem_of_getElem? (i := 23) rfl))) (by decide) (t := .long) (t' := (.array .int)) (by decide) (by decide)))).ext E18).other W19 (Or.inr (slot_ne (Or.inl (hw _ (List.mem_of_getElem? (i := 65) rfl))) (Or.inr (hw _ (List.mem_of_getElem? (i := 26) rfl))) (by decide) (t := .long) (t' := (.array .boolean)) (by decide) (by decide)))).ext E22).other W23 (Or.inr (slot_ne (Or.inl (hw _ (List.mem_of_getElem? (i := 65) rfl))) (Or.inr (hw _ (List.mem_of_getElem? (i := 29) rfl))) (by decide) (t := .long) (t' := (.array .long)) (by decide) (by decide)))).ext E26).other W27 (Or.inr (slot_ne (Or.inl (hw _ (List.mem_of_getElem? (i := 65) rfl))) (Or.inr (hw _ (List.mem_of_getElem? (i := 31) rfl))) (by decide) (t := .long) (t' := (.array .int)) (by decide) (by decide)))).ext E30).other W31 (Or.inr (slot_ne (Or.inl (hw _ (List.mem_of_getElem? (i := 65) rfl))) (Or.inr (hw _ (List.mem_of_getElem? (i := 33) rfl))) (by decide) (t := .long) (t' := (.array .int)) (by decide) (by decide)))).ext E34).other W35 (Or.inr (slot_ne (Or.inl (hw _ (List.mem_of_getElem? (i := 65) rfl))) (Or.inr (hw _ (List.mem_of_getElem? (i := 35) rfl))) (by decide) (t := .long) (t' := (.array .int)) (by decide) (by decide)))).ext E38).other W39 (Or.inr (slot_ne (Or.inl (hw _ (List.mem_of_getElem? (i := 65) rfl))) (Or.inr (hw _ (List.mem_of_getElem? (i := 37) rfl))) (by decide) (t := .long) (t' := (.array .long)) (by decide) (by decide)))).ext E42).other W43 (Or.inr (slot_ne (Or.inl (hw _ (List.mem_of_getElem? (i := 65) rfl))) (Or.inr (hw _ (List.mem_of_getElem? (i := 39) rfl))) (by decide) (t := .long) (t' := (.array .int)) (by decide) (by decide)))).ext E46).other W47 (Or.inr (slot_ne (Or.inl (hw _ (List.mem_of_getElem? (i := 65) rfl))) (Or.inr (hw _ (List.mem_of_getElem? (i := 41) rfl))) (by decide) (t := .long) (t' := (.array .int)) (by decide) (by decide)))).keep KC53 (ninS (own_ne (by omega)) nin0))
  have c68 := (((((((((((((((((((((((((F_rows.ext E2).other W3 (Or.inr (slot_ne (Or.inl (hw _ (List.mem_of_getElem? (i := 52) rfl))) (Or.inr (hw _ (List.mem_of_getElem? (i := 17) rfl))) (by decide) (t := .int) (t' := (.array (.array .int))) (by decide) (by decide)))).ext E6).other W7 (Or.inr (slot_ne (Or.inl (hw _ (List.mem_of_getElem? (i := 52) rfl))) (Or.inr (hw _ (List.mem_of_getElem? (i := 19) rfl))) (by decide) (t := .int) (t' := (.array .int)) (by decide) (by decide)))).ext E10).other W11 (Or.inr (slot_ne (Or.inl (hw _ (List.mem_of_getElem? (i := 52) rfl))) (Or.inr (hw _ (List.mem_of_getElem? (i := 21) rfl))) (by decide) (t := .int) (t' := (.array .int)) (by decide) (by decide)))).ext E14).other W15 (Or.inr (slot_ne (Or.inl (hw _ (List.mem_of_getElem? (i := 52) rfl))) (Or.inr (hw _ (List.mem_of_getElem? (i := 23) rfl))) (by decide) (t := .int) (t' := (.array .int)) (by decide) (by decide)))).ext E18).other W19 (Or.inr (slot_ne (Or.inl (hw _ (List.mem_of_getElem? (i := 52) rfl))) (Or.inr (hw _ (List.mem_of_getElem? (i := 26) rfl))) (by decide) (t := .int) (t' := (.array .boolean)) (by decide) (by decide)))).ext E22).other W23 (Or.inr (slot_ne (Or.inl (hw _ (List.mem_of_getElem? (i := 52) rfl))) (Or.inr (hw _ (List.mem_of_getElem? (i := 29) rfl))) (by decide) (t := .int) (t' := (.array .long)) (by decide) (by decide)))).ext E26).other W27 (Or.inr (slot_ne (Or.inl (hw _ (List.mem_of_getElem? (i := 52) rfl))) (Or.inr (hw _ (List.mem_of_getElem? (i := 31) rfl))) (by decide) (t := .int) (t' := (.array .int)) (by decide) (by decide)))).ext E30).other W31 (Or.inr (slot_ne (Or.inl (hw _ (List.mem_of_getElem? (i := 52) rfl))) (Or.inr (hw _ (List.mem_of_getElem? (i := 33) rfl))) (by decide) (t := .int) (t' := (.array .int)) (by decide) (by decide)))).ext E34).other W35 (Or.inr (slot_ne (Or.inl (hw _ (List.mem_of_getElem? (i := 52) rfl))) (Or.inr (hw _ (List.mem_of_getElem? (i := 35) rfl))) (by decide) (t := .int) (t' := (.array .int)) (by decide) (by decide)))).ext E38).other W39 (Or.inr (slot_ne (Or.inl (hw _ (List.mem_of_getElem? (i := 52) rfl))) (Or.inr (hw _ (List.mem_of_getElem? (i := 37) rfl))) (by decide) (t := .int) (t' := (.array .long)) (by decide) (by decide)))).ext E42).other W43 (Or.inr (slot_ne (Or.inl (hw _ (List.mem_of_getElem? (i := 52) rfl))) (Or.inr (hw _ (List.mem_of_getElem? (i := 39) rfl))) (by decide) (t := .int) (t' := (.array .int)) (by decide) (by decide)))).ext E46).other W47 (Or.inr (slot_ne (Or.inl (hw _ (List.mem_of_getElem? (i := 52) rfl))) (Or.inr (hw _ (List.mem_of_getElem? (i := 41) rfl))) (by decide) (t := .int) (t' := (.array .int)) (by decide) (by decide)))).keep KC53 (ninS (own_ne (by omega)) nin0))
  have c69 := ((((((((((((((((((((((((V2.other W3 (own_ne (by omega))).ext E6).other W7 (own_ne (by omega))).ext E10).other W11 (own_ne (by omega))).ext E14).other W15 (own_ne (by omega))).ext E18).other W19 (own_ne (by omega))).ext E22).other W23 (own_ne (by omega))).ext E26).other W27 (own_ne (by omega))).ext E30).other W31 (own_ne (by omega))).ext E34).other W35 (own_ne (by omega))).ext E38).other W39 (own_ne (by omega))).ext E42).other W43 (own_ne (by omega))).ext E46).other W47 (own_ne (by omega))).keep KC53 (ninS (own_ne (by omega)) nin0))
  have c70 := ((((((((((((((((((((((V6.other W7 (own_ne (by omega))).ext E10).other W11 (own_ne (by omega))).ext E14).other W15 (own_ne (by omega))).ext E18).other W19 (own_ne (by omega))).ext E22).other W23 (own_ne (by omega))).ext E26).other W27 (own_ne (by omega))).ext E30).other W31 (own_ne (by omega))).ext E34).other W35 (own_ne (by omega))).ext E38).other W39 (own_ne (by omega))).ext E42).other W43 (own_ne (by omega))).ext E46).other W47 (own_ne (by omega))).keep KC53 (ninS (own_ne (by omega)) nin0))
  have c71 := ((((((((((((((((((((V10.other W11 (own_ne (by omega))).ext E14).other W15 (own_ne (by omega))).ext E18).other W19 (own_ne (by omega))).ext E22).other W23 (own_ne (by omega))).ext E26).other W27 (own_ne (by omega))).ext E30).other W31 (own_ne (by omega))).ext E34).other W35 (own_ne (by omega))).ext E38).other W39 (own_ne (by omega))).ext E42).other W43 (own_ne (by omega))).ext E46).other W47 (own_ne (by omega))).keep KC53 (ninS (own_ne (by omega)) nin0))
  have c72 := ((((((((((((((((V18.other W19 (own_ne (by omega))).ext E22).other W23 (own_ne (by omega))).ext E26).other W27 (own_ne (by omega))).ext E30).other W31 (own_ne (by omega))).ext E34).other W35 (own_ne (by omega))).ext E38).other W39 (own_ne (by omega))).ext E42).other W43 (own_ne (by omega))).ext E46).other W47 (own_ne (by omega))).keep KC53 (ninS (own_ne (by omega)) nin0))
  have c73 := ((((((((((((((V22.other W23 (own_ne (by omega))).ext E26).other W27 (own_ne (by omega))).ext E30).other W31 (own_ne (by omega))).ext E34).other W35 (own_ne (by omega))).ext E38).other W39 (own_ne (by omega))).ext E42).other W43 (own_ne (by omega))).ext E46).other W47 (own_ne (by omega))).keep KC53 (ninS (own_ne (by omega)) nin0))
  have c74 := ((((((((((((V26.other W27 (own_ne (by omega))).ext E30).other W31 (own_ne (by omega))).ext E34).other W35 (own_ne (by omega))).ext E38).other W39 (own_ne (by omega))).ext E42).other W43 (own_ne (by omega))).ext E46).other W47 (own_ne (by omega))).keep KC53 (ninS (own_ne (by omega)) nin0))
  have c75 := ((((((((((V30.other W31 (own_ne (by omega))).ext E34).other W35 (own_ne (by omega))).ext E38).other W39 (own_ne (by omega))).ext E42).other W43 (own_ne (by omega))).ext E46).other W47 (own_ne (by omega))).keep KC53 (ninS (own_ne (by omega)) nin0))
  have c76 := ((((((((V34.other W35 (own_ne (by omega))).ext E38).other W39 (own_ne (by omega))).ext E42).other W43 (own_ne (by omega))).ext E46).other W47 (own_ne (by omega))).keep KC53 (ninS (own_ne (by omega)) nin0))
  have c77 := ((((((V38.other W39 (own_ne (by omega))).ext E42).other W43 (own_ne (by omega))).ext E46).other W47 (own_ne (by omega))).keep KC53 (ninS (own_ne (by omega)) nin0))
  have c78 := ((((V42.other W43 (own_ne (by omega))).ext E46).other W47 (own_ne (by omega))).keep KC53 (ninS (own_ne (by omega)) nin0))
  have c79 := ((V46.other W47 (own_ne (by omega))).keep KC53 (ninS (own_ne (by omega)) nin0))
  have own_o0 : ua < b2 := by omega
  have own_o1 : b2 < b6 := by omega
  have own_o2 : b6 < b10 := by omega
  have own_o3 : b10 < b14 := by omega
  have own_o4 : b14 < b18 := by omega
  have own_o5 : b18 < b22 := by omega
  have own_o6 : b22 < b26 := by omega
  have own_o7 : b26 < b30 := by omega
  have own_o8 : b30 < b34 := by omega
  have own_o9 : b34 < b38 := by omega
  have own_o10 : b38 < b42 := by omega
  have own_o11 : b42 < b46 := by omega
  exact own_retV X53 hx hrt hlk (hb hby d2_97) (by decide) (by decide) (by show own_QCt Z ua CA CK CL n0 _ T53.heap _; rw [e53]; exact ⟨(own_lst [ua, b2, b6, b10, b14, b18, b22, b26, b30, b34, b38, b42, b46]), (own_lst [0, ka2, ka6, ka10, ka14, ka18, ka22, ka26, ka30, ka34, ka38, ka42, ka46]), rfl, N53, rfl, gn_ua, own_o0, own_o1, own_o2, own_o3, own_o4, own_o5, own_o6, own_o7, own_o8, own_o9, own_o10, own_o11, c54, c55, c56, c57, c58, c59, c60, c61, c62, c63, c64, c65, c66, c67, c68, ⟨c69, rfl, Ov2⟩, ⟨c70, rfl⟩, ⟨c71, rfl⟩, ⟨VC53, rfl⟩, ⟨c72, rfl⟩, ⟨c73, rfl⟩, ⟨c74, rfl⟩, ⟨c75, rfl⟩, ⟨c76, rfl⟩, ⟨c77, rfl⟩, ⟨c78, rfl⟩, ⟨c79, rfl⟩, fun i L hi => by obtain ⟨x1, x2, x3⟩ := cc i L hi; exact ⟨⟨x1.1.keep K53 (ninS (Nat.ne_of_lt x3) nin0), x1.2⟩, x2.keep K53, x3⟩⟩)

def own_list (ub ux : Int32) : List Int32 := if ((ux >>> ((3 : Int32) &&& 31)) &&& (3 : Int32)) = (0 : Int32) then [] else if ((ux >>> ((3 : Int32) &&& 31)) &&& (3 : Int32)) = (1 : Int32) then [(ub + (ux &&& (1 : Int32)))] else if ((ux >>> ((3 : Int32) &&& 31)) &&& (3 : Int32)) = (2 : Int32) then [(ub + (ux &&& (1 : Int32))), (((ub + (ux &&& (1 : Int32))) + (1 : Int32)) + ((ux >>> ((1 : Int32) &&& 31)) &&& (1 : Int32)))] else [(ub + (ux &&& (1 : Int32))), (((ub + (ux &&& (1 : Int32))) + (1 : Int32)) + ((ux >>> ((1 : Int32) &&& 31)) &&& (1 : Int32))), (((((ub + (ux &&& (1 : Int32))) + (1 : Int32)) + ((ux >>> ((1 : Int32) &&& 31)) &&& (1 : Int32))) + (1 : Int32)) + ((ux >>> ((2 : Int32) &&& 31)) &&& (1 : Int32)))]

def own_QLi (Z : State) (ub ux : Int32) (h0 : Heap) (n0 : Nat) (v : Option Value) (h : Heap) (L : List Loc) : Prop := ∃ (b : Nat) (k : ClassId), v = some (.ref b) ∧ Fr n0 L ∧ Keep h0 h [] ∧ h0.size ≤ b ∧ own_IA Z h b k .int (Int32.ofNat (own_list ub ux).length) (own_list ub ux) ∧ Exa Z h b "[I"

theorem d1_0 : decode method_3_code 0 = .ok (.iload_n 0, 1) := by decide +kernel
theorem d1_1 : decode method_3_code 1 = .ok (.iload_n 1, 1) := by decide +kernel
theorem d1_2 : decode method_3_code 2 = .ok (.iconst 1, 1) := by decide +kernel
theorem d1_3 : decode method_3_code 3 = .ok (.iand, 1) := by decide +kernel
theorem d1_4 : decode method_3_code 4 = .ok (.iadd, 1) := by decide +kernel
theorem d1_5 : decode method_3_code 5 = .ok (.istore_n 2, 1) := by decide +kernel
theorem d1_6 : decode method_3_code 6 = .ok (.iload_n 2, 1) := by decide +kernel
theorem d1_7 : decode method_3_code 7 = .ok (.iconst 1, 1) := by decide +kernel
theorem d1_8 : decode method_3_code 8 = .ok (.iadd, 1) := by decide +kernel
theorem d1_9 : decode method_3_code 9 = .ok (.iload_n 1, 1) := by decide +kernel
theorem d1_10 : decode method_3_code 10 = .ok (.iconst 1, 1) := by decide +kernel
theorem d1_11 : decode method_3_code 11 = .ok (.ishr, 1) := by decide +kernel
theorem d1_12 : decode method_3_code 12 = .ok (.iconst 1, 1) := by decide +kernel
theorem d1_13 : decode method_3_code 13 = .ok (.iand, 1) := by decide +kernel
theorem d1_14 : decode method_3_code 14 = .ok (.iadd, 1) := by decide +kernel
theorem d1_15 : decode method_3_code 15 = .ok (.istore_n 3, 1) := by decide +kernel
theorem d1_16 : decode method_3_code 16 = .ok (.iload_n 3, 1) := by decide +kernel
theorem d1_17 : decode method_3_code 17 = .ok (.iconst 1, 1) := by decide +kernel
theorem d1_18 : decode method_3_code 18 = .ok (.iadd, 1) := by decide +kernel
theorem d1_19 : decode method_3_code 19 = .ok (.iload_n 1, 1) := by decide +kernel
theorem d1_20 : decode method_3_code 20 = .ok (.iconst 2, 1) := by decide +kernel
theorem d1_21 : decode method_3_code 21 = .ok (.ishr, 1) := by decide +kernel
theorem d1_22 : decode method_3_code 22 = .ok (.iconst 1, 1) := by decide +kernel
theorem d1_23 : decode method_3_code 23 = .ok (.iand, 1) := by decide +kernel
theorem d1_24 : decode method_3_code 24 = .ok (.iadd, 1) := by decide +kernel
theorem d1_25 : decode method_3_code 25 = .ok (.istore 4, 2) := by decide +kernel
theorem d1_27 : decode method_3_code 27 = .ok (.iload_n 1, 1) := by decide +kernel
theorem d1_28 : decode method_3_code 28 = .ok (.iconst 3, 1) := by decide +kernel
theorem d1_29 : decode method_3_code 29 = .ok (.ishr, 1) := by decide +kernel
theorem d1_30 : decode method_3_code 30 = .ok (.iconst 3, 1) := by decide +kernel
theorem d1_31 : decode method_3_code 31 = .ok (.iand, 1) := by decide +kernel
theorem d1_32 : decode method_3_code 32 = .ok (.istore 5, 2) := by decide +kernel
theorem d1_34 : decode method_3_code 34 = .ok (.iload 5, 2) := by decide +kernel
theorem d1_36 : decode method_3_code 36 = .ok (.ifCond .ne 7, 3) := by decide +kernel
theorem d1_39 : decode method_3_code 39 = .ok (.iconst 0, 1) := by decide +kernel
theorem d1_40 : decode method_3_code 40 = .ok (.newarray .int, 2) := by decide +kernel
theorem d1_42 : decode method_3_code 42 = .ok (.areturn, 1) := by decide +kernel
theorem d1_43 : decode method_3_code 43 = .ok (.iload 5, 2) := by decide +kernel
theorem d1_45 : decode method_3_code 45 = .ok (.iconst 1, 1) := by decide +kernel
theorem d1_46 : decode method_3_code 46 = .ok (.if_icmp .ne 11, 3) := by decide +kernel
theorem d1_49 : decode method_3_code 49 = .ok (.iconst 1, 1) := by decide +kernel
theorem d1_50 : decode method_3_code 50 = .ok (.newarray .int, 2) := by decide +kernel
theorem d1_52 : decode method_3_code 52 = .ok (.dup, 1) := by decide +kernel
theorem d1_53 : decode method_3_code 53 = .ok (.iconst 0, 1) := by decide +kernel
theorem d1_54 : decode method_3_code 54 = .ok (.iload_n 2, 1) := by decide +kernel
theorem d1_55 : decode method_3_code 55 = .ok (.iastore, 1) := by decide +kernel
theorem d1_56 : decode method_3_code 56 = .ok (.areturn, 1) := by decide +kernel
theorem d1_57 : decode method_3_code 57 = .ok (.iload 5, 2) := by decide +kernel
theorem d1_59 : decode method_3_code 59 = .ok (.iconst 2, 1) := by decide +kernel
theorem d1_60 : decode method_3_code 60 = .ok (.if_icmp .ne 15, 3) := by decide +kernel
theorem d1_63 : decode method_3_code 63 = .ok (.iconst 2, 1) := by decide +kernel
theorem d1_64 : decode method_3_code 64 = .ok (.newarray .int, 2) := by decide +kernel
theorem d1_66 : decode method_3_code 66 = .ok (.dup, 1) := by decide +kernel
theorem d1_67 : decode method_3_code 67 = .ok (.iconst 0, 1) := by decide +kernel
theorem d1_68 : decode method_3_code 68 = .ok (.iload_n 2, 1) := by decide +kernel
theorem d1_69 : decode method_3_code 69 = .ok (.iastore, 1) := by decide +kernel
theorem d1_70 : decode method_3_code 70 = .ok (.dup, 1) := by decide +kernel
theorem d1_71 : decode method_3_code 71 = .ok (.iconst 1, 1) := by decide +kernel
theorem d1_72 : decode method_3_code 72 = .ok (.iload_n 3, 1) := by decide +kernel
theorem d1_73 : decode method_3_code 73 = .ok (.iastore, 1) := by decide +kernel
theorem d1_74 : decode method_3_code 74 = .ok (.areturn, 1) := by decide +kernel
theorem d1_75 : decode method_3_code 75 = .ok (.iconst 3, 1) := by decide +kernel
theorem d1_76 : decode method_3_code 76 = .ok (.newarray .int, 2) := by decide +kernel
theorem d1_78 : decode method_3_code 78 = .ok (.dup, 1) := by decide +kernel
theorem d1_79 : decode method_3_code 79 = .ok (.iconst 0, 1) := by decide +kernel
theorem d1_80 : decode method_3_code 80 = .ok (.iload_n 2, 1) := by decide +kernel
theorem d1_81 : decode method_3_code 81 = .ok (.iastore, 1) := by decide +kernel
theorem d1_82 : decode method_3_code 82 = .ok (.dup, 1) := by decide +kernel
theorem d1_83 : decode method_3_code 83 = .ok (.iconst 1, 1) := by decide +kernel
theorem d1_84 : decode method_3_code 84 = .ok (.iload_n 3, 1) := by decide +kernel
theorem d1_85 : decode method_3_code 85 = .ok (.iastore, 1) := by decide +kernel
theorem d1_86 : decode method_3_code 86 = .ok (.dup, 1) := by decide +kernel
theorem d1_87 : decode method_3_code 87 = .ok (.iconst 2, 1) := by decide +kernel
theorem d1_88 : decode method_3_code 88 = .ok (.iload 4, 2) := by decide +kernel
theorem d1_90 : decode method_3_code 90 = .ok (.iastore, 1) := by decide +kernel
theorem d1_91 : decode method_3_code 91 = .ok (.areturn, 1) := by decide +kernel
theorem pn_rmLi : plainFor (⟨"com/example/document_pattern_rules/documentpatternrules/pattern/PairingAddAlikePinLaw", "list", "(II)[I"⟩ : MethodName) = true := by first | exact plainFor_of_name (by first | (simp [plainName, overriddenIn]; done) | decide +kernel) | exact Jvm.Free.JP.mathPlain rfl (by decide +kernel) | decide +kernel
theorem ef_rmLi (m : MethodId) (x0 : Int32) (x1 : Int32) : entryFrame m #[(.int x0), (.int x1)] 6 = mkF m 0 #[.val (.int x0), .val (.int x1), .unset, .unset, .unset, .unset] [] := by first | (simp [entryFrame, mkF, argsToLocals, Value.category]; done) | rfl
set_option maxRecDepth 65536 in
set_option maxHeartbeats 40000000 in
theorem rmLi (l : Launch) (Z : State) (a0 : Array Value) (hw : ∀ d ∈ tables_1, d.before a0 Z = true) (ws : List Jvm.Cond) (ub ux : Int32) (h0 : Heap) (n0 : Nat) (Z0 : n0 ≤ h0.size) (O0 : Old Z n0 h0) :
    MetFree l (⟨"com/example/document_pattern_rules/documentpatternrules/pattern/PairingAddAlikePinLaw", "list", "(II)[I"⟩ : MethodName) (head1 (Jvm.Cond.code (⟨"com/example/document_pattern_rules/documentpatternrules/pattern/PairingAddAlikePinLaw", "list", "(II)[I"⟩ : MethodName) method_3_code 6 (some (.array .int)) :: ws) ({ frames := 0, cells := 1, slots := 3, locals := 0 } : Room)) (fun a U => a = #[(.int ub), (.int ux)] ∧ Z.Warmed39 U.vm ∧ U.heap = h0) (fun _ _ _ _ _ => True) (fun _ U o U' => ∃ v L, o = .returned v ∧ (own_QLi Z ub ux h0 n0) v U'.heap L ∧ FrameEnd U o U' L 1 3) := by
  refine MetFree.of_bodySF pn_rmLi hisR ?_
  intro p e s m args below meth c s₁ Bd hml0 hP hK
  obtain ⟨rfl, hZ, hh⟩ := hP
  have hx := Bd.exec
  have hby := Bd.bytes
  have hml : c.maxLocals = 6 := hml0
  have hown : s.vm.findClass "com/example/document_pattern_rules/documentpatternrules/pattern/PairingAddAlikePinLaw" = some m.cls := findClass_of_methodNamed Bd.named
  have hnm := (name_of_methodNamed Bd.named Bd.method).1
  have hrt := Bd.returns
  have hlk := Bd.notSynchronized
  have X0 : Stand p l e ({ frames := 0, cells := 1, slots := 3, locals := 0 } : Room) s m #[(.int ub), (.int ux)] below meth c s₁ [] 0 0 := Stand.of_body Bd
  have e0 : s₁.heap = h0 := by rw [← hh, Bd.state]; rfl
  have N0 := Fr.nil n0
  have K0 := Keep.refl h0 []
  refine own_done (B := s₁.setTop (mkF m 0 #[.val (.int ub), .val (.int ux), .unset, .unset, .unset, .unset] [])) (fun t k => castTop (ef_rmLi m ub ux) k) ?_
  refine own_by (B := s₁.setTop (mkF m 1 #[.val (.int ub), .val (.int ux), .unset, .unset, .unset, .unset] [(.int ub)])) (fun _ k => XS.iloadN X0.here hx rfl (hb hby d1_0) rfl  k) ?_
  refine own_by (B := s₁.setTop (mkF m 2 #[.val (.int ub), .val (.int ux), .unset, .unset, .unset, .unset] [(.int ux), (.int ub)])) (fun _ k => XS.iloadN X0.here hx rfl (hb hby d1_1) rfl  k) ?_
  refine own_by (B := s₁.setTop (mkF m 3 #[.val (.int ub), .val (.int ux), .unset, .unset, .unset, .unset] [(.int (1 : Int32)), (.int ux), (.int ub)])) (fun _ k => XS.iconst X0.here hx rfl (hb hby d1_2) k) ?_
  refine own_by (B := s₁.setTop (mkF m 4 #[.val (.int ub), .val (.int ux), .unset, .unset, .unset, .unset] [(.int (ux &&& (1 : Int32))), (.int ub)])) (fun _ k => XS.iand X0.here hx rfl (hb hby d1_3) rfl k) ?_
  refine own_by (B := s₁.setTop (mkF m 5 #[.val (.int ub), .val (.int ux), .unset, .unset, .unset, .unset] [(.int (ub + (ux &&& (1 : Int32))))])) (fun _ k => XS.iadd X0.here hx rfl (hb hby d1_4) rfl k) ?_
  refine own_by (B := s₁.setTop (mkF m 6 #[.val (.int ub), .val (.int ux), .val (.int (ub + (ux &&& (1 : Int32)))), .unset, .unset, .unset] [])) (fun _ k => XS.istoreN X0.here hx rfl (hb hby d1_5) rfl (l' := #[.val (.int ub), .val (.int ux), .val (.int (ub + (ux &&& (1 : Int32)))), .unset, .unset, .unset]) rfl k) ?_
  refine own_by (B := s₁.setTop (mkF m 7 #[.val (.int ub), .val (.int ux), .val (.int (ub + (ux &&& (1 : Int32)))), .unset, .unset, .unset] [(.int (ub + (ux &&& (1 : Int32))))])) (fun _ k => XS.iloadN X0.here hx rfl (hb hby d1_6) rfl  k) ?_
  refine own_by (B := s₁.setTop (mkF m 8 #[.val (.int ub), .val (.int ux), .val (.int (ub + (ux &&& (1 : Int32)))), .unset, .unset, .unset] [(.int (1 : Int32)), (.int (ub + (ux &&& (1 : Int32))))])) (fun _ k => XS.iconst X0.here hx rfl (hb hby d1_7) k) ?_
  refine own_by (B := s₁.setTop (mkF m 9 #[.val (.int ub), .val (.int ux), .val (.int (ub + (ux &&& (1 : Int32)))), .unset, .unset, .unset] [(.int ((ub + (ux &&& (1 : Int32))) + (1 : Int32)))])) (fun _ k => XS.iadd X0.here hx rfl (hb hby d1_8) rfl k) ?_
  refine own_by (B := s₁.setTop (mkF m 10 #[.val (.int ub), .val (.int ux), .val (.int (ub + (ux &&& (1 : Int32)))), .unset, .unset, .unset] [(.int ux), (.int ((ub + (ux &&& (1 : Int32))) + (1 : Int32)))])) (fun _ k => XS.iloadN X0.here hx rfl (hb hby d1_9) rfl  k) ?_
  refine own_by (B := s₁.setTop (mkF m 11 #[.val (.int ub), .val (.int ux), .val (.int (ub + (ux &&& (1 : Int32)))), .unset, .unset, .unset] [(.int (1 : Int32)), (.int ux), (.int ((ub + (ux &&& (1 : Int32))) + (1 : Int32)))])) (fun _ k => XS.iconst X0.here hx rfl (hb hby d1_10) k) ?_
  refine own_by (B := s₁.setTop (mkF m 12 #[.val (.int ub), .val (.int ux), .val (.int (ub + (ux &&& (1 : Int32)))), .unset, .unset, .unset] [(.int (ux >>> ((1 : Int32) &&& 31))), (.int ((ub + (ux &&& (1 : Int32))) + (1 : Int32)))])) (fun _ k => XT.ishr X0.here hx rfl (hb hby d1_11) rfl k) ?_
  refine own_by (B := s₁.setTop (mkF m 13 #[.val (.int ub), .val (.int ux), .val (.int (ub + (ux &&& (1 : Int32)))), .unset, .unset, .unset] [(.int (1 : Int32)), (.int (ux >>> ((1 : Int32) &&& 31))), (.int ((ub + (ux &&& (1 : Int32))) + (1 : Int32)))])) (fun _ k => XS.iconst X0.here hx rfl (hb hby d1_12) k) ?_
  refine own_by (B := s₁.setTop (mkF m 14 #[.val (.int ub), .val (.int ux), .val (.int (ub + (ux &&& (1 : Int32)))), .unset, .unset, .unset] [(.int ((ux >>> ((1 : Int32) &&& 31)) &&& (1 : Int32))), (.int ((ub + (ux &&& (1 : Int32))) + (1 : Int32)))])) (fun _ k => XS.iand X0.here hx rfl (hb hby d1_13) rfl k) ?_
  refine own_by (B := s₁.setTop (mkF m 15 #[.val (.int ub), .val (.int ux), .val (.int (ub + (ux &&& (1 : Int32)))), .unset, .unset, .unset] [(.int (((ub + (ux &&& (1 : Int32))) + (1 : Int32)) + ((ux >>> ((1 : Int32) &&& 31)) &&& (1 : Int32))))])) (fun _ k => XS.iadd X0.here hx rfl (hb hby d1_14) rfl k) ?_
  refine own_by (B := s₁.setTop (mkF m 16 #[.val (.int ub), .val (.int ux), .val (.int (ub + (ux &&& (1 : Int32)))), .val (.int (((ub + (ux &&& (1 : Int32))) + (1 : Int32)) + ((ux >>> ((1 : Int32) &&& 31)) &&& (1 : Int32)))), .unset, .unset] [])) (fun _ k => XS.istoreN X0.here hx rfl (hb hby d1_15) rfl (l' := #[.val (.int ub), .val (.int ux), .val (.int (ub + (ux &&& (1 : Int32)))), .val (.int (((ub + (ux &&& (1 : Int32))) + (1 : Int32)) + ((ux >>> ((1 : Int32) &&& 31)) &&& (1 : Int32)))), .unset, .unset]) rfl k) ?_
  refine own_by (B := s₁.setTop (mkF m 17 #[.val (.int ub), .val (.int ux), .val (.int (ub + (ux &&& (1 : Int32)))), .val (.int (((ub + (ux &&& (1 : Int32))) + (1 : Int32)) + ((ux >>> ((1 : Int32) &&& 31)) &&& (1 : Int32)))), .unset, .unset] [(.int (((ub + (ux &&& (1 : Int32))) + (1 : Int32)) + ((ux >>> ((1 : Int32) &&& 31)) &&& (1 : Int32))))])) (fun _ k => XS.iloadN X0.here hx rfl (hb hby d1_16) rfl  k) ?_
  refine own_by (B := s₁.setTop (mkF m 18 #[.val (.int ub), .val (.int ux), .val (.int (ub + (ux &&& (1 : Int32)))), .val (.int (((ub + (ux &&& (1 : Int32))) + (1 : Int32)) + ((ux >>> ((1 : Int32) &&& 31)) &&& (1 : Int32)))), .unset, .unset] [(.int (1 : Int32)), (.int (((ub + (ux &&& (1 : Int32))) + (1 : Int32)) + ((ux >>> ((1 : Int32) &&& 31)) &&& (1 : Int32))))])) (fun _ k => XS.iconst X0.here hx rfl (hb hby d1_17) k) ?_
  refine own_by (B := s₁.setTop (mkF m 19 #[.val (.int ub), .val (.int ux), .val (.int (ub + (ux &&& (1 : Int32)))), .val (.int (((ub + (ux &&& (1 : Int32))) + (1 : Int32)) + ((ux >>> ((1 : Int32) &&& 31)) &&& (1 : Int32)))), .unset, .unset] [(.int ((((ub + (ux &&& (1 : Int32))) + (1 : Int32)) + ((ux >>> ((1 : Int32) &&& 31)) &&& (1 : Int32))) + (1 : Int32)))])) (fun _ k => XS.iadd X0.here hx rfl (hb hby d1_18) rfl k) ?_
  refine own_by (B := s₁.setTop (mkF m 20 #[.val (.int ub), .val (.int ux), .val (.int (ub + (ux &&& (1 : Int32)))), .val (.int (((ub + (ux &&& (1 : Int32))) + (1 : Int32)) + ((ux >>> ((1 : Int32) &&& 31)) &&& (1 : Int32)))), .unset, .unset] [(.int ux), (.int ((((ub + (ux &&& (1 : Int32))) + (1 : Int32)) + ((ux >>> ((1 : Int32) &&& 31)) &&& (1 : Int32))) + (1 : Int32)))])) (fun _ k => XS.iloadN X0.here hx rfl (hb hby d1_19) rfl  k) ?_
  refine own_by (B := s₁.setTop (mkF m 21 #[.val (.int ub), .val (.int ux), .val (.int (ub + (ux &&& (1 : Int32)))), .val (.int (((ub + (ux &&& (1 : Int32))) + (1 : Int32)) + ((ux >>> ((1 : Int32) &&& 31)) &&& (1 : Int32)))), .unset, .unset] [(.int (2 : Int32)), (.int ux), (.int ((((ub + (ux &&& (1 : Int32))) + (1 : Int32)) + ((ux >>> ((1 : Int32) &&& 31)) &&& (1 : Int32))) + (1 : Int32)))])) (fun _ k => XS.iconst X0.here hx rfl (hb hby d1_20) k) ?_
  refine own_by (B := s₁.setTop (mkF m 22 #[.val (.int ub), .val (.int ux), .val (.int (ub + (ux &&& (1 : Int32)))), .val (.int (((ub + (ux &&& (1 : Int32))) + (1 : Int32)) + ((ux >>> ((1 : Int32) &&& 31)) &&& (1 : Int32)))), .unset, .unset] [(.int (ux >>> ((2 : Int32) &&& 31))), (.int ((((ub + (ux &&& (1 : Int32))) + (1 : Int32)) + ((ux >>> ((1 : Int32) &&& 31)) &&& (1 : Int32))) + (1 : Int32)))])) (fun _ k => XT.ishr X0.here hx rfl (hb hby d1_21) rfl k) ?_
  refine own_by (B := s₁.setTop (mkF m 23 #[.val (.int ub), .val (.int ux), .val (.int (ub + (ux &&& (1 : Int32)))), .val (.int (((ub + (ux &&& (1 : Int32))) + (1 : Int32)) + ((ux >>> ((1 : Int32) &&& 31)) &&& (1 : Int32)))), .unset, .unset] [(.int (1 : Int32)), (.int (ux >>> ((2 : Int32) &&& 31))), (.int ((((ub + (ux &&& (1 : Int32))) + (1 : Int32)) + ((ux >>> ((1 : Int32) &&& 31)) &&& (1 : Int32))) + (1 : Int32)))])) (fun _ k => XS.iconst X0.here hx rfl (hb hby d1_22) k) ?_
  refine own_by (B := s₁.setTop (mkF m 24 #[.val (.int ub), .val (.int ux), .val (.int (ub + (ux &&& (1 : Int32)))), .val (.int (((ub + (ux &&& (1 : Int32))) + (1 : Int32)) + ((ux >>> ((1 : Int32) &&& 31)) &&& (1 : Int32)))), .unset, .unset] [(.int ((ux >>> ((2 : Int32) &&& 31)) &&& (1 : Int32))), (.int ((((ub + (ux &&& (1 : Int32))) + (1 : Int32)) + ((ux >>> ((1 : Int32) &&& 31)) &&& (1 : Int32))) + (1 : Int32)))])) (fun _ k => XS.iand X0.here hx rfl (hb hby d1_23) rfl k) ?_
  refine own_by (B := s₁.setTop (mkF m 25 #[.val (.int ub), .val (.int ux), .val (.int (ub + (ux &&& (1 : Int32)))), .val (.int (((ub + (ux &&& (1 : Int32))) + (1 : Int32)) + ((ux >>> ((1 : Int32) &&& 31)) &&& (1 : Int32)))), .unset, .unset] [(.int (((((ub + (ux &&& (1 : Int32))) + (1 : Int32)) + ((ux >>> ((1 : Int32) &&& 31)) &&& (1 : Int32))) + (1 : Int32)) + ((ux >>> ((2 : Int32) &&& 31)) &&& (1 : Int32))))])) (fun _ k => XS.iadd X0.here hx rfl (hb hby d1_24) rfl k) ?_
  refine own_by (B := s₁.setTop (mkF m 27 #[.val (.int ub), .val (.int ux), .val (.int (ub + (ux &&& (1 : Int32)))), .val (.int (((ub + (ux &&& (1 : Int32))) + (1 : Int32)) + ((ux >>> ((1 : Int32) &&& 31)) &&& (1 : Int32)))), .val (.int (((((ub + (ux &&& (1 : Int32))) + (1 : Int32)) + ((ux >>> ((1 : Int32) &&& 31)) &&& (1 : Int32))) + (1 : Int32)) + ((ux >>> ((2 : Int32) &&& 31)) &&& (1 : Int32)))), .unset] [])) (fun _ k => XS.istore X0.here hx rfl (hb hby d1_25) rfl (l' := #[.val (.int ub), .val (.int ux), .val (.int (ub + (ux &&& (1 : Int32)))), .val (.int (((ub + (ux &&& (1 : Int32))) + (1 : Int32)) + ((ux >>> ((1 : Int32) &&& 31)) &&& (1 : Int32)))), .val (.int (((((ub + (ux &&& (1 : Int32))) + (1 : Int32)) + ((ux >>> ((1 : Int32) &&& 31)) &&& (1 : Int32))) + (1 : Int32)) + ((ux >>> ((2 : Int32) &&& 31)) &&& (1 : Int32)))), .unset]) rfl k) ?_
  refine own_by (B := s₁.setTop (mkF m 28 #[.val (.int ub), .val (.int ux), .val (.int (ub + (ux &&& (1 : Int32)))), .val (.int (((ub + (ux &&& (1 : Int32))) + (1 : Int32)) + ((ux >>> ((1 : Int32) &&& 31)) &&& (1 : Int32)))), .val (.int (((((ub + (ux &&& (1 : Int32))) + (1 : Int32)) + ((ux >>> ((1 : Int32) &&& 31)) &&& (1 : Int32))) + (1 : Int32)) + ((ux >>> ((2 : Int32) &&& 31)) &&& (1 : Int32)))), .unset] [(.int ux)])) (fun _ k => XS.iloadN X0.here hx rfl (hb hby d1_27) rfl  k) ?_
  refine own_by (B := s₁.setTop (mkF m 29 #[.val (.int ub), .val (.int ux), .val (.int (ub + (ux &&& (1 : Int32)))), .val (.int (((ub + (ux &&& (1 : Int32))) + (1 : Int32)) + ((ux >>> ((1 : Int32) &&& 31)) &&& (1 : Int32)))), .val (.int (((((ub + (ux &&& (1 : Int32))) + (1 : Int32)) + ((ux >>> ((1 : Int32) &&& 31)) &&& (1 : Int32))) + (1 : Int32)) + ((ux >>> ((2 : Int32) &&& 31)) &&& (1 : Int32)))), .unset] [(.int (3 : Int32)), (.int ux)])) (fun _ k => XS.iconst X0.here hx rfl (hb hby d1_28) k) ?_
  refine own_by (B := s₁.setTop (mkF m 30 #[.val (.int ub), .val (.int ux), .val (.int (ub + (ux &&& (1 : Int32)))), .val (.int (((ub + (ux &&& (1 : Int32))) + (1 : Int32)) + ((ux >>> ((1 : Int32) &&& 31)) &&& (1 : Int32)))), .val (.int (((((ub + (ux &&& (1 : Int32))) + (1 : Int32)) + ((ux >>> ((1 : Int32) &&& 31)) &&& (1 : Int32))) + (1 : Int32)) + ((ux >>> ((2 : Int32) &&& 31)) &&& (1 : Int32)))), .unset] [(.int (ux >>> ((3 : Int32) &&& 31)))])) (fun _ k => XT.ishr X0.here hx rfl (hb hby d1_29) rfl k) ?_
  refine own_by (B := s₁.setTop (mkF m 31 #[.val (.int ub), .val (.int ux), .val (.int (ub + (ux &&& (1 : Int32)))), .val (.int (((ub + (ux &&& (1 : Int32))) + (1 : Int32)) + ((ux >>> ((1 : Int32) &&& 31)) &&& (1 : Int32)))), .val (.int (((((ub + (ux &&& (1 : Int32))) + (1 : Int32)) + ((ux >>> ((1 : Int32) &&& 31)) &&& (1 : Int32))) + (1 : Int32)) + ((ux >>> ((2 : Int32) &&& 31)) &&& (1 : Int32)))), .unset] [(.int (3 : Int32)), (.int (ux >>> ((3 : Int32) &&& 31)))])) (fun _ k => XS.iconst X0.here hx rfl (hb hby d1_30) k) ?_
  refine own_by (B := s₁.setTop (mkF m 32 #[.val (.int ub), .val (.int ux), .val (.int (ub + (ux &&& (1 : Int32)))), .val (.int (((ub + (ux &&& (1 : Int32))) + (1 : Int32)) + ((ux >>> ((1 : Int32) &&& 31)) &&& (1 : Int32)))), .val (.int (((((ub + (ux &&& (1 : Int32))) + (1 : Int32)) + ((ux >>> ((1 : Int32) &&& 31)) &&& (1 : Int32))) + (1 : Int32)) + ((ux >>> ((2 : Int32) &&& 31)) &&& (1 : Int32)))), .unset] [(.int ((ux >>> ((3 : Int32) &&& 31)) &&& (3 : Int32)))])) (fun _ k => XS.iand X0.here hx rfl (hb hby d1_31) rfl k) ?_
  refine own_by (B := s₁.setTop (mkF m 34 #[.val (.int ub), .val (.int ux), .val (.int (ub + (ux &&& (1 : Int32)))), .val (.int (((ub + (ux &&& (1 : Int32))) + (1 : Int32)) + ((ux >>> ((1 : Int32) &&& 31)) &&& (1 : Int32)))), .val (.int (((((ub + (ux &&& (1 : Int32))) + (1 : Int32)) + ((ux >>> ((1 : Int32) &&& 31)) &&& (1 : Int32))) + (1 : Int32)) + ((ux >>> ((2 : Int32) &&& 31)) &&& (1 : Int32)))), .val (.int ((ux >>> ((3 : Int32) &&& 31)) &&& (3 : Int32)))] [])) (fun _ k => XS.istore X0.here hx rfl (hb hby d1_32) rfl (l' := #[.val (.int ub), .val (.int ux), .val (.int (ub + (ux &&& (1 : Int32)))), .val (.int (((ub + (ux &&& (1 : Int32))) + (1 : Int32)) + ((ux >>> ((1 : Int32) &&& 31)) &&& (1 : Int32)))), .val (.int (((((ub + (ux &&& (1 : Int32))) + (1 : Int32)) + ((ux >>> ((1 : Int32) &&& 31)) &&& (1 : Int32))) + (1 : Int32)) + ((ux >>> ((2 : Int32) &&& 31)) &&& (1 : Int32)))), .val (.int ((ux >>> ((3 : Int32) &&& 31)) &&& (3 : Int32)))]) rfl k) ?_
  refine own_by (B := s₁.setTop (mkF m 36 #[.val (.int ub), .val (.int ux), .val (.int (ub + (ux &&& (1 : Int32)))), .val (.int (((ub + (ux &&& (1 : Int32))) + (1 : Int32)) + ((ux >>> ((1 : Int32) &&& 31)) &&& (1 : Int32)))), .val (.int (((((ub + (ux &&& (1 : Int32))) + (1 : Int32)) + ((ux >>> ((1 : Int32) &&& 31)) &&& (1 : Int32))) + (1 : Int32)) + ((ux >>> ((2 : Int32) &&& 31)) &&& (1 : Int32)))), .val (.int ((ux >>> ((3 : Int32) &&& 31)) &&& (3 : Int32)))] [(.int ((ux >>> ((3 : Int32) &&& 31)) &&& (3 : Int32)))])) (fun _ k => XS.iload X0.here hx rfl (hb hby d1_34) rfl  k) ?_
  by_cases hc1 : ((ux >>> ((3 : Int32) &&& 31)) &&& (3 : Int32)) = (0 : Int32)
  · refine own_by (B := s₁.setTop (mkF m 39 #[.val (.int ub), .val (.int ux), .val (.int (ub + (ux &&& (1 : Int32)))), .val (.int (((ub + (ux &&& (1 : Int32))) + (1 : Int32)) + ((ux >>> ((1 : Int32) &&& 31)) &&& (1 : Int32)))), .val (.int (((((ub + (ux &&& (1 : Int32))) + (1 : Int32)) + ((ux >>> ((1 : Int32) &&& 31)) &&& (1 : Int32))) + (1 : Int32)) + ((ux >>> ((2 : Int32) &&& 31)) &&& (1 : Int32)))), .val (.int ((ux >>> ((3 : Int32) &&& 31)) &&& (3 : Int32)))] [])) (fun _ k => XS.ifNo X0.here hx rfl (hb hby d1_36) rfl (XT.i0_ne_f hc1) k) ?_
    refine own_by (B := s₁.setTop (mkF m 40 #[.val (.int ub), .val (.int ux), .val (.int (ub + (ux &&& (1 : Int32)))), .val (.int (((ub + (ux &&& (1 : Int32))) + (1 : Int32)) + ((ux >>> ((1 : Int32) &&& 31)) &&& (1 : Int32)))), .val (.int (((((ub + (ux &&& (1 : Int32))) + (1 : Int32)) + ((ux >>> ((1 : Int32) &&& 31)) &&& (1 : Int32))) + (1 : Int32)) + ((ux >>> ((2 : Int32) &&& 31)) &&& (1 : Int32)))), .val (.int ((ux >>> ((3 : Int32) &&& 31)) &&& (3 : Int32)))] [(.int (0 : Int32))])) (fun _ k => XS.iconst X0.here hx rfl (hb hby d1_39) k) ?_
    obtain ⟨T2, h2, ka2, X2, e2, E2, A2, EA2, st2⟩ := newPE X0 hx hZ (hw _ (List.mem_of_getElem? (i := 4) rfl)) e0 (g := (mkF m 40 #[.val (.int ub), .val (.int ux), .val (.int (ub + (ux &&& (1 : Int32)))), .val (.int (((ub + (ux &&& (1 : Int32))) + (1 : Int32)) + ((ux >>> ((1 : Int32) &&& 31)) &&& (1 : Int32)))), .val (.int (((((ub + (ux &&& (1 : Int32))) + (1 : Int32)) + ((ux >>> ((1 : Int32) &&& 31)) &&& (1 : Int32))) + (1 : Int32)) + ((ux >>> ((2 : Int32) &&& 31)) &&& (1 : Int32)))), .val (.int ((ux >>> ((3 : Int32) &&& 31)) &&& (3 : Int32)))] [(.int (0 : Int32))])) rfl (hb hby d1_40) rfl (by decide) (cap := 0) (by decide) (by decide) (by decide) (by decide) (ad := "[I") (by decide)
    obtain ⟨b2, g2⟩ : ∃ z, z = h0.size := ⟨_, rfl⟩
    rw [← g2] at A2 EA2 st2
    have sz2 := E2.1
    have gn2 : n0 ≤ b2 := g2 ▸ own_old_le O0
    have fz2 : h0.size ≤ b2 := g2 ▸ K0.1
    have lt2 := own_lt A2.lt
    have O2 := O0.ext E2
    have K2 := K0.ext E2
    have V2 : Arv Z h2 b2 ka2 .int (0 : Int32) [] (.int (0 : Int32)) := (Arv.new A2 (by decide)).pad (pad_rep [] (.int (0 : Int32)) 0)
    refine own_by (B := T2.setTop (mkF m 42 #[.val (.int ub), .val (.int ux), .val (.int (ub + (ux &&& (1 : Int32)))), .val (.int (((ub + (ux &&& (1 : Int32))) + (1 : Int32)) + ((ux >>> ((1 : Int32) &&& 31)) &&& (1 : Int32)))), .val (.int (((((ub + (ux &&& (1 : Int32))) + (1 : Int32)) + ((ux >>> ((1 : Int32) &&& 31)) &&& (1 : Int32))) + (1 : Int32)) + ((ux >>> ((2 : Int32) &&& 31)) &&& (1 : Int32)))), .val (.int ((ux >>> ((3 : Int32) &&& 31)) &&& (3 : Int32)))] [(.ref b2)])) st2 ?_
    have hl : own_list ub ux = [] := by unfold own_list; rw [if_pos hc1]
    exact own_retA X2 hx hrt rfl rfl hlk (hb hby d1_42) (by decide) (by decide) (by show own_QLi Z ub ux h0 n0 _ T2.heap _; rw [e2]; exact ⟨_, _, rfl, N0, K2, fz2, by rw [hl]; exact ⟨V2, rfl⟩, EA2⟩)
  · refine own_by (B := s₁.setTop (mkF m 43 #[.val (.int ub), .val (.int ux), .val (.int (ub + (ux &&& (1 : Int32)))), .val (.int (((ub + (ux &&& (1 : Int32))) + (1 : Int32)) + ((ux >>> ((1 : Int32) &&& 31)) &&& (1 : Int32)))), .val (.int (((((ub + (ux &&& (1 : Int32))) + (1 : Int32)) + ((ux >>> ((1 : Int32) &&& 31)) &&& (1 : Int32))) + (1 : Int32)) + ((ux >>> ((2 : Int32) &&& 31)) &&& (1 : Int32)))), .val (.int ((ux >>> ((3 : Int32) &&& 31)) &&& (3 : Int32)))] [])) (fun _ k => XS.ifYes X0.here hx rfl (pc0 := 36) (pc' := 43) rfl (hb hby d1_36) rfl (XT.i0_ne_t hc1) (by decide) (by decide) k) ?_
    refine own_by (B := s₁.setTop (mkF m 45 #[.val (.int ub), .val (.int ux), .val (.int (ub + (ux &&& (1 : Int32)))), .val (.int (((ub + (ux &&& (1 : Int32))) + (1 : Int32)) + ((ux >>> ((1 : Int32) &&& 31)) &&& (1 : Int32)))), .val (.int (((((ub + (ux &&& (1 : Int32))) + (1 : Int32)) + ((ux >>> ((1 : Int32) &&& 31)) &&& (1 : Int32))) + (1 : Int32)) + ((ux >>> ((2 : Int32) &&& 31)) &&& (1 : Int32)))), .val (.int ((ux >>> ((3 : Int32) &&& 31)) &&& (3 : Int32)))] [(.int ((ux >>> ((3 : Int32) &&& 31)) &&& (3 : Int32)))])) (fun _ k => XS.iload X0.here hx rfl (hb hby d1_43) rfl  k) ?_
    refine own_by (B := s₁.setTop (mkF m 46 #[.val (.int ub), .val (.int ux), .val (.int (ub + (ux &&& (1 : Int32)))), .val (.int (((ub + (ux &&& (1 : Int32))) + (1 : Int32)) + ((ux >>> ((1 : Int32) &&& 31)) &&& (1 : Int32)))), .val (.int (((((ub + (ux &&& (1 : Int32))) + (1 : Int32)) + ((ux >>> ((1 : Int32) &&& 31)) &&& (1 : Int32))) + (1 : Int32)) + ((ux >>> ((2 : Int32) &&& 31)) &&& (1 : Int32)))), .val (.int ((ux >>> ((3 : Int32) &&& 31)) &&& (3 : Int32)))] [(.int (1 : Int32)), (.int ((ux >>> ((3 : Int32) &&& 31)) &&& (3 : Int32)))])) (fun _ k => XS.iconst X0.here hx rfl (hb hby d1_45) k) ?_
    by_cases hc3 : ((ux >>> ((3 : Int32) &&& 31)) &&& (3 : Int32)) = (1 : Int32)
    · refine own_by (B := s₁.setTop (mkF m 49 #[.val (.int ub), .val (.int ux), .val (.int (ub + (ux &&& (1 : Int32)))), .val (.int (((ub + (ux &&& (1 : Int32))) + (1 : Int32)) + ((ux >>> ((1 : Int32) &&& 31)) &&& (1 : Int32)))), .val (.int (((((ub + (ux &&& (1 : Int32))) + (1 : Int32)) + ((ux >>> ((1 : Int32) &&& 31)) &&& (1 : Int32))) + (1 : Int32)) + ((ux >>> ((2 : Int32) &&& 31)) &&& (1 : Int32)))), .val (.int ((ux >>> ((3 : Int32) &&& 31)) &&& (3 : Int32)))] [])) (fun _ k => XS.icmpNo X0.here hx rfl (hb hby d1_46) rfl (XT.ii_ne_f hc3) k) ?_
      refine own_by (B := s₁.setTop (mkF m 50 #[.val (.int ub), .val (.int ux), .val (.int (ub + (ux &&& (1 : Int32)))), .val (.int (((ub + (ux &&& (1 : Int32))) + (1 : Int32)) + ((ux >>> ((1 : Int32) &&& 31)) &&& (1 : Int32)))), .val (.int (((((ub + (ux &&& (1 : Int32))) + (1 : Int32)) + ((ux >>> ((1 : Int32) &&& 31)) &&& (1 : Int32))) + (1 : Int32)) + ((ux >>> ((2 : Int32) &&& 31)) &&& (1 : Int32)))), .val (.int ((ux >>> ((3 : Int32) &&& 31)) &&& (3 : Int32)))] [(.int (1 : Int32))])) (fun _ k => XS.iconst X0.here hx rfl (hb hby d1_49) k) ?_
      obtain ⟨T4, h4, ka4, X4, e4, E4, A4, EA4, st4⟩ := newPE X0 hx hZ (hw _ (List.mem_of_getElem? (i := 4) rfl)) e0 (g := (mkF m 50 #[.val (.int ub), .val (.int ux), .val (.int (ub + (ux &&& (1 : Int32)))), .val (.int (((ub + (ux &&& (1 : Int32))) + (1 : Int32)) + ((ux >>> ((1 : Int32) &&& 31)) &&& (1 : Int32)))), .val (.int (((((ub + (ux &&& (1 : Int32))) + (1 : Int32)) + ((ux >>> ((1 : Int32) &&& 31)) &&& (1 : Int32))) + (1 : Int32)) + ((ux >>> ((2 : Int32) &&& 31)) &&& (1 : Int32)))), .val (.int ((ux >>> ((3 : Int32) &&& 31)) &&& (3 : Int32)))] [(.int (1 : Int32))])) rfl (hb hby d1_50) rfl (by decide) (cap := 1) (by decide) (by decide) (by decide) (by decide) (ad := "[I") (by decide)
      obtain ⟨b4, g4⟩ : ∃ z, z = h0.size := ⟨_, rfl⟩
      rw [← g4] at A4 EA4 st4
      have sz4 := E4.1
      have gn4 : n0 ≤ b4 := g4 ▸ own_old_le O0
      have fz4 : h0.size ≤ b4 := g4 ▸ K0.1
      have lt4 := own_lt A4.lt
      have O4 := O0.ext E4
      have K4 := K0.ext E4
      have V4 : Arv Z h4 b4 ka4 .int (1 : Int32) [(.int (0 : Int32))] (.int (0 : Int32)) := (Arv.new A4 (by decide)).pad (pad_rep [] (.int (0 : Int32)) 1)
      refine own_by (B := T4.setTop (mkF m 52 #[.val (.int ub), .val (.int ux), .val (.int (ub + (ux &&& (1 : Int32)))), .val (.int (((ub + (ux &&& (1 : Int32))) + (1 : Int32)) + ((ux >>> ((1 : Int32) &&& 31)) &&& (1 : Int32)))), .val (.int (((((ub + (ux &&& (1 : Int32))) + (1 : Int32)) + ((ux >>> ((1 : Int32) &&& 31)) &&& (1 : Int32))) + (1 : Int32)) + ((ux >>> ((2 : Int32) &&& 31)) &&& (1 : Int32)))), .val (.int ((ux >>> ((3 : Int32) &&& 31)) &&& (3 : Int32)))] [(.ref b4)])) st4 ?_
      refine own_by (B := T4.setTop (mkF m 53 #[.val (.int ub), .val (.int ux), .val (.int (ub + (ux &&& (1 : Int32)))), .val (.int (((ub + (ux &&& (1 : Int32))) + (1 : Int32)) + ((ux >>> ((1 : Int32) &&& 31)) &&& (1 : Int32)))), .val (.int (((((ub + (ux &&& (1 : Int32))) + (1 : Int32)) + ((ux >>> ((1 : Int32) &&& 31)) &&& (1 : Int32))) + (1 : Int32)) + ((ux >>> ((2 : Int32) &&& 31)) &&& (1 : Int32)))), .val (.int ((ux >>> ((3 : Int32) &&& 31)) &&& (3 : Int32)))] [(.ref b4), (.ref b4)])) (fun _ k => XS.dup X4.here hx rfl (hb hby d1_52) rfl rfl k) ?_
      refine own_by (B := T4.setTop (mkF m 54 #[.val (.int ub), .val (.int ux), .val (.int (ub + (ux &&& (1 : Int32)))), .val (.int (((ub + (ux &&& (1 : Int32))) + (1 : Int32)) + ((ux >>> ((1 : Int32) &&& 31)) &&& (1 : Int32)))), .val (.int (((((ub + (ux &&& (1 : Int32))) + (1 : Int32)) + ((ux >>> ((1 : Int32) &&& 31)) &&& (1 : Int32))) + (1 : Int32)) + ((ux >>> ((2 : Int32) &&& 31)) &&& (1 : Int32)))), .val (.int ((ux >>> ((3 : Int32) &&& 31)) &&& (3 : Int32)))] [(.int (0 : Int32)), (.ref b4), (.ref b4)])) (fun _ k => XS.iconst X4.here hx rfl (hb hby d1_53) k) ?_
      refine own_by (B := T4.setTop (mkF m 55 #[.val (.int ub), .val (.int ux), .val (.int (ub + (ux &&& (1 : Int32)))), .val (.int (((ub + (ux &&& (1 : Int32))) + (1 : Int32)) + ((ux >>> ((1 : Int32) &&& 31)) &&& (1 : Int32)))), .val (.int (((((ub + (ux &&& (1 : Int32))) + (1 : Int32)) + ((ux >>> ((1 : Int32) &&& 31)) &&& (1 : Int32))) + (1 : Int32)) + ((ux >>> ((2 : Int32) &&& 31)) &&& (1 : Int32)))), .val (.int ((ux >>> ((3 : Int32) &&& 31)) &&& (3 : Int32)))] [(.int (ub + (ux &&& (1 : Int32)))), (.int (0 : Int32)), (.ref b4), (.ref b4)])) (fun _ k => XS.iloadN X4.here hx rfl (hb hby d1_54) rfl  k) ?_
      obtain ⟨cl5, Ar5, qq5, Sz5, Nn5, Hh5, Gg5⟩ := id (V4)
      have hin5 : ¬ ((0 : Int32) < 0 ∨ cl5.slots.size ≤ ((0 : Int32)).toNatClampNeg) := inb_of Sz5 ⟨by decide, by decide⟩
      obtain ⟨T5, h5, X5, e5, W5, st5⟩ := stI X4 hx hZ e4 Ar5 (j := (0 : Int32)) hin5 (g := (mkF m 55 #[.val (.int ub), .val (.int ux), .val (.int (ub + (ux &&& (1 : Int32)))), .val (.int (((ub + (ux &&& (1 : Int32))) + (1 : Int32)) + ((ux >>> ((1 : Int32) &&& 31)) &&& (1 : Int32)))), .val (.int (((((ub + (ux &&& (1 : Int32))) + (1 : Int32)) + ((ux >>> ((1 : Int32) &&& 31)) &&& (1 : Int32))) + (1 : Int32)) + ((ux >>> ((2 : Int32) &&& 31)) &&& (1 : Int32)))), .val (.int ((ux >>> ((3 : Int32) &&& 31)) &&& (3 : Int32)))] [(.int (ub + (ux &&& (1 : Int32)))), (.int (0 : Int32)), (.ref b4), (.ref b4)])) rfl rfl (hb hby d1_55)
      have sz5 := W5.size
      have O5 := O4.wr W5 gn4
      have K5 := K4.wr W5 (Or.inr fz4)
      have N5 := Fr.snoc X5 N0 gn4
      have V5 : Arv Z h5 b4 ka4 .int (1 : Int32) [(.int (ub + (ux &&& (1 : Int32))))] (.int (0 : Int32)) := Arv.set Ar5 qq5 Sz5 Nn5 Hh5 Gg5 rfl W5 0 rfl (Nat.le_of_ble_eq_true rfl)
      refine own_by (B := T5.setTop (mkF m 56 #[.val (.int ub), .val (.int ux), .val (.int (ub + (ux &&& (1 : Int32)))), .val (.int (((ub + (ux &&& (1 : Int32))) + (1 : Int32)) + ((ux >>> ((1 : Int32) &&& 31)) &&& (1 : Int32)))), .val (.int (((((ub + (ux &&& (1 : Int32))) + (1 : Int32)) + ((ux >>> ((1 : Int32) &&& 31)) &&& (1 : Int32))) + (1 : Int32)) + ((ux >>> ((2 : Int32) &&& 31)) &&& (1 : Int32)))), .val (.int ((ux >>> ((3 : Int32) &&& 31)) &&& (3 : Int32)))] [(.ref b4)])) st5 ?_
      have c6 := (EA4.wr W5)
      have hl : own_list ub ux = [(ub + (ux &&& (1 : Int32)))] := by unfold own_list; rw [if_neg hc1, if_pos hc3]
      exact own_retA X5 hx hrt rfl rfl hlk (hb hby d1_56) (by decide) (by decide) (by show own_QLi Z ub ux h0 n0 _ T5.heap _; rw [e5]; exact ⟨_, _, rfl, N5, K5, fz4, by rw [hl]; exact ⟨V5, rfl⟩, c6⟩)
    · refine own_by (B := s₁.setTop (mkF m 57 #[.val (.int ub), .val (.int ux), .val (.int (ub + (ux &&& (1 : Int32)))), .val (.int (((ub + (ux &&& (1 : Int32))) + (1 : Int32)) + ((ux >>> ((1 : Int32) &&& 31)) &&& (1 : Int32)))), .val (.int (((((ub + (ux &&& (1 : Int32))) + (1 : Int32)) + ((ux >>> ((1 : Int32) &&& 31)) &&& (1 : Int32))) + (1 : Int32)) + ((ux >>> ((2 : Int32) &&& 31)) &&& (1 : Int32)))), .val (.int ((ux >>> ((3 : Int32) &&& 31)) &&& (3 : Int32)))] [])) (fun _ k => XS.icmpYes X0.here hx rfl (pc0 := 46) (pc' := 57) rfl (hb hby d1_46) rfl (XT.ii_ne_t hc3) (by decide) (by decide) k) ?_
      refine own_by (B := s₁.setTop (mkF m 59 #[.val (.int ub), .val (.int ux), .val (.int (ub + (ux &&& (1 : Int32)))), .val (.int (((ub + (ux &&& (1 : Int32))) + (1 : Int32)) + ((ux >>> ((1 : Int32) &&& 31)) &&& (1 : Int32)))), .val (.int (((((ub + (ux &&& (1 : Int32))) + (1 : Int32)) + ((ux >>> ((1 : Int32) &&& 31)) &&& (1 : Int32))) + (1 : Int32)) + ((ux >>> ((2 : Int32) &&& 31)) &&& (1 : Int32)))), .val (.int ((ux >>> ((3 : Int32) &&& 31)) &&& (3 : Int32)))] [(.int ((ux >>> ((3 : Int32) &&& 31)) &&& (3 : Int32)))])) (fun _ k => XS.iload X0.here hx rfl (hb hby d1_57) rfl  k) ?_
      refine own_by (B := s₁.setTop (mkF m 60 #[.val (.int ub), .val (.int ux), .val (.int (ub + (ux &&& (1 : Int32)))), .val (.int (((ub + (ux &&& (1 : Int32))) + (1 : Int32)) + ((ux >>> ((1 : Int32) &&& 31)) &&& (1 : Int32)))), .val (.int (((((ub + (ux &&& (1 : Int32))) + (1 : Int32)) + ((ux >>> ((1 : Int32) &&& 31)) &&& (1 : Int32))) + (1 : Int32)) + ((ux >>> ((2 : Int32) &&& 31)) &&& (1 : Int32)))), .val (.int ((ux >>> ((3 : Int32) &&& 31)) &&& (3 : Int32)))] [(.int (2 : Int32)), (.int ((ux >>> ((3 : Int32) &&& 31)) &&& (3 : Int32)))])) (fun _ k => XS.iconst X0.here hx rfl (hb hby d1_59) k) ?_
      by_cases hc7 : ((ux >>> ((3 : Int32) &&& 31)) &&& (3 : Int32)) = (2 : Int32)
      · refine own_by (B := s₁.setTop (mkF m 63 #[.val (.int ub), .val (.int ux), .val (.int (ub + (ux &&& (1 : Int32)))), .val (.int (((ub + (ux &&& (1 : Int32))) + (1 : Int32)) + ((ux >>> ((1 : Int32) &&& 31)) &&& (1 : Int32)))), .val (.int (((((ub + (ux &&& (1 : Int32))) + (1 : Int32)) + ((ux >>> ((1 : Int32) &&& 31)) &&& (1 : Int32))) + (1 : Int32)) + ((ux >>> ((2 : Int32) &&& 31)) &&& (1 : Int32)))), .val (.int ((ux >>> ((3 : Int32) &&& 31)) &&& (3 : Int32)))] [])) (fun _ k => XS.icmpNo X0.here hx rfl (hb hby d1_60) rfl (XT.ii_ne_f hc7) k) ?_
        refine own_by (B := s₁.setTop (mkF m 64 #[.val (.int ub), .val (.int ux), .val (.int (ub + (ux &&& (1 : Int32)))), .val (.int (((ub + (ux &&& (1 : Int32))) + (1 : Int32)) + ((ux >>> ((1 : Int32) &&& 31)) &&& (1 : Int32)))), .val (.int (((((ub + (ux &&& (1 : Int32))) + (1 : Int32)) + ((ux >>> ((1 : Int32) &&& 31)) &&& (1 : Int32))) + (1 : Int32)) + ((ux >>> ((2 : Int32) &&& 31)) &&& (1 : Int32)))), .val (.int ((ux >>> ((3 : Int32) &&& 31)) &&& (3 : Int32)))] [(.int (2 : Int32))])) (fun _ k => XS.iconst X0.here hx rfl (hb hby d1_63) k) ?_
        obtain ⟨T8, h8, ka8, X8, e8, E8, A8, EA8, st8⟩ := newPE X0 hx hZ (hw _ (List.mem_of_getElem? (i := 4) rfl)) e0 (g := (mkF m 64 #[.val (.int ub), .val (.int ux), .val (.int (ub + (ux &&& (1 : Int32)))), .val (.int (((ub + (ux &&& (1 : Int32))) + (1 : Int32)) + ((ux >>> ((1 : Int32) &&& 31)) &&& (1 : Int32)))), .val (.int (((((ub + (ux &&& (1 : Int32))) + (1 : Int32)) + ((ux >>> ((1 : Int32) &&& 31)) &&& (1 : Int32))) + (1 : Int32)) + ((ux >>> ((2 : Int32) &&& 31)) &&& (1 : Int32)))), .val (.int ((ux >>> ((3 : Int32) &&& 31)) &&& (3 : Int32)))] [(.int (2 : Int32))])) rfl (hb hby d1_64) rfl (by decide) (cap := 2) (by decide) (by decide) (by decide) (by decide) (ad := "[I") (by decide)
        obtain ⟨b8, g8⟩ : ∃ z, z = h0.size := ⟨_, rfl⟩
        rw [← g8] at A8 EA8 st8
        have sz8 := E8.1
        have gn8 : n0 ≤ b8 := g8 ▸ own_old_le O0
        have fz8 : h0.size ≤ b8 := g8 ▸ K0.1
        have lt8 := own_lt A8.lt
        have O8 := O0.ext E8
        have K8 := K0.ext E8
        have V8 : Arv Z h8 b8 ka8 .int (2 : Int32) [(.int (0 : Int32)), (.int (0 : Int32))] (.int (0 : Int32)) := (Arv.new A8 (by decide)).pad (pad_rep [] (.int (0 : Int32)) 2)
        refine own_by (B := T8.setTop (mkF m 66 #[.val (.int ub), .val (.int ux), .val (.int (ub + (ux &&& (1 : Int32)))), .val (.int (((ub + (ux &&& (1 : Int32))) + (1 : Int32)) + ((ux >>> ((1 : Int32) &&& 31)) &&& (1 : Int32)))), .val (.int (((((ub + (ux &&& (1 : Int32))) + (1 : Int32)) + ((ux >>> ((1 : Int32) &&& 31)) &&& (1 : Int32))) + (1 : Int32)) + ((ux >>> ((2 : Int32) &&& 31)) &&& (1 : Int32)))), .val (.int ((ux >>> ((3 : Int32) &&& 31)) &&& (3 : Int32)))] [(.ref b8)])) st8 ?_
        refine own_by (B := T8.setTop (mkF m 67 #[.val (.int ub), .val (.int ux), .val (.int (ub + (ux &&& (1 : Int32)))), .val (.int (((ub + (ux &&& (1 : Int32))) + (1 : Int32)) + ((ux >>> ((1 : Int32) &&& 31)) &&& (1 : Int32)))), .val (.int (((((ub + (ux &&& (1 : Int32))) + (1 : Int32)) + ((ux >>> ((1 : Int32) &&& 31)) &&& (1 : Int32))) + (1 : Int32)) + ((ux >>> ((2 : Int32) &&& 31)) &&& (1 : Int32)))), .val (.int ((ux >>> ((3 : Int32) &&& 31)) &&& (3 : Int32)))] [(.ref b8), (.ref b8)])) (fun _ k => XS.dup X8.here hx rfl (hb hby d1_66) rfl rfl k) ?_
        refine own_by (B := T8.setTop (mkF m 68 #[.val (.int ub), .val (.int ux), .val (.int (ub + (ux &&& (1 : Int32)))), .val (.int (((ub + (ux &&& (1 : Int32))) + (1 : Int32)) + ((ux >>> ((1 : Int32) &&& 31)) &&& (1 : Int32)))), .val (.int (((((ub + (ux &&& (1 : Int32))) + (1 : Int32)) + ((ux >>> ((1 : Int32) &&& 31)) &&& (1 : Int32))) + (1 : Int32)) + ((ux >>> ((2 : Int32) &&& 31)) &&& (1 : Int32)))), .val (.int ((ux >>> ((3 : Int32) &&& 31)) &&& (3 : Int32)))] [(.int (0 : Int32)), (.ref b8), (.ref b8)])) (fun _ k => XS.iconst X8.here hx rfl (hb hby d1_67) k) ?_
        refine own_by (B := T8.setTop (mkF m 69 #[.val (.int ub), .val (.int ux), .val (.int (ub + (ux &&& (1 : Int32)))), .val (.int (((ub + (ux &&& (1 : Int32))) + (1 : Int32)) + ((ux >>> ((1 : Int32) &&& 31)) &&& (1 : Int32)))), .val (.int (((((ub + (ux &&& (1 : Int32))) + (1 : Int32)) + ((ux >>> ((1 : Int32) &&& 31)) &&& (1 : Int32))) + (1 : Int32)) + ((ux >>> ((2 : Int32) &&& 31)) &&& (1 : Int32)))), .val (.int ((ux >>> ((3 : Int32) &&& 31)) &&& (3 : Int32)))] [(.int (ub + (ux &&& (1 : Int32)))), (.int (0 : Int32)), (.ref b8), (.ref b8)])) (fun _ k => XS.iloadN X8.here hx rfl (hb hby d1_68) rfl  k) ?_
        obtain ⟨cl9, Ar9, qq9, Sz9, Nn9, Hh9, Gg9⟩ := id (V8)
        have hin9 : ¬ ((0 : Int32) < 0 ∨ cl9.slots.size ≤ ((0 : Int32)).toNatClampNeg) := inb_of Sz9 ⟨by decide, by decide⟩
        obtain ⟨T9, h9, X9, e9, W9, st9⟩ := stI X8 hx hZ e8 Ar9 (j := (0 : Int32)) hin9 (g := (mkF m 69 #[.val (.int ub), .val (.int ux), .val (.int (ub + (ux &&& (1 : Int32)))), .val (.int (((ub + (ux &&& (1 : Int32))) + (1 : Int32)) + ((ux >>> ((1 : Int32) &&& 31)) &&& (1 : Int32)))), .val (.int (((((ub + (ux &&& (1 : Int32))) + (1 : Int32)) + ((ux >>> ((1 : Int32) &&& 31)) &&& (1 : Int32))) + (1 : Int32)) + ((ux >>> ((2 : Int32) &&& 31)) &&& (1 : Int32)))), .val (.int ((ux >>> ((3 : Int32) &&& 31)) &&& (3 : Int32)))] [(.int (ub + (ux &&& (1 : Int32)))), (.int (0 : Int32)), (.ref b8), (.ref b8)])) rfl rfl (hb hby d1_69)
        have sz9 := W9.size
        have O9 := O8.wr W9 gn8
        have K9 := K8.wr W9 (Or.inr fz8)
        have N9 := Fr.snoc X9 N0 gn8
        have V9 : Arv Z h9 b8 ka8 .int (2 : Int32) [(.int (ub + (ux &&& (1 : Int32)))), (.int (0 : Int32))] (.int (0 : Int32)) := Arv.set Ar9 qq9 Sz9 Nn9 Hh9 Gg9 rfl W9 0 rfl (Nat.le_of_ble_eq_true rfl)
        refine own_by (B := T9.setTop (mkF m 70 #[.val (.int ub), .val (.int ux), .val (.int (ub + (ux &&& (1 : Int32)))), .val (.int (((ub + (ux &&& (1 : Int32))) + (1 : Int32)) + ((ux >>> ((1 : Int32) &&& 31)) &&& (1 : Int32)))), .val (.int (((((ub + (ux &&& (1 : Int32))) + (1 : Int32)) + ((ux >>> ((1 : Int32) &&& 31)) &&& (1 : Int32))) + (1 : Int32)) + ((ux >>> ((2 : Int32) &&& 31)) &&& (1 : Int32)))), .val (.int ((ux >>> ((3 : Int32) &&& 31)) &&& (3 : Int32)))] [(.ref b8)])) st9 ?_
        refine own_by (B := T9.setTop (mkF m 71 #[.val (.int ub), .val (.int ux), .val (.int (ub + (ux &&& (1 : Int32)))), .val (.int (((ub + (ux &&& (1 : Int32))) + (1 : Int32)) + ((ux >>> ((1 : Int32) &&& 31)) &&& (1 : Int32)))), .val (.int (((((ub + (ux &&& (1 : Int32))) + (1 : Int32)) + ((ux >>> ((1 : Int32) &&& 31)) &&& (1 : Int32))) + (1 : Int32)) + ((ux >>> ((2 : Int32) &&& 31)) &&& (1 : Int32)))), .val (.int ((ux >>> ((3 : Int32) &&& 31)) &&& (3 : Int32)))] [(.ref b8), (.ref b8)])) (fun _ k => XS.dup X9.here hx rfl (hb hby d1_70) rfl rfl k) ?_
        refine own_by (B := T9.setTop (mkF m 72 #[.val (.int ub), .val (.int ux), .val (.int (ub + (ux &&& (1 : Int32)))), .val (.int (((ub + (ux &&& (1 : Int32))) + (1 : Int32)) + ((ux >>> ((1 : Int32) &&& 31)) &&& (1 : Int32)))), .val (.int (((((ub + (ux &&& (1 : Int32))) + (1 : Int32)) + ((ux >>> ((1 : Int32) &&& 31)) &&& (1 : Int32))) + (1 : Int32)) + ((ux >>> ((2 : Int32) &&& 31)) &&& (1 : Int32)))), .val (.int ((ux >>> ((3 : Int32) &&& 31)) &&& (3 : Int32)))] [(.int (1 : Int32)), (.ref b8), (.ref b8)])) (fun _ k => XS.iconst X9.here hx rfl (hb hby d1_71) k) ?_
        refine own_by (B := T9.setTop (mkF m 73 #[.val (.int ub), .val (.int ux), .val (.int (ub + (ux &&& (1 : Int32)))), .val (.int (((ub + (ux &&& (1 : Int32))) + (1 : Int32)) + ((ux >>> ((1 : Int32) &&& 31)) &&& (1 : Int32)))), .val (.int (((((ub + (ux &&& (1 : Int32))) + (1 : Int32)) + ((ux >>> ((1 : Int32) &&& 31)) &&& (1 : Int32))) + (1 : Int32)) + ((ux >>> ((2 : Int32) &&& 31)) &&& (1 : Int32)))), .val (.int ((ux >>> ((3 : Int32) &&& 31)) &&& (3 : Int32)))] [(.int (((ub + (ux &&& (1 : Int32))) + (1 : Int32)) + ((ux >>> ((1 : Int32) &&& 31)) &&& (1 : Int32)))), (.int (1 : Int32)), (.ref b8), (.ref b8)])) (fun _ k => XS.iloadN X9.here hx rfl (hb hby d1_72) rfl  k) ?_
        obtain ⟨cl10, Ar10, qq10, Sz10, Nn10, Hh10, Gg10⟩ := id (V9)
        have hin10 : ¬ ((1 : Int32) < 0 ∨ cl10.slots.size ≤ ((1 : Int32)).toNatClampNeg) := inb_of Sz10 ⟨by decide, by decide⟩
        obtain ⟨T10, h10, X10, e10, W10, st10⟩ := stI X9 hx hZ e9 Ar10 (j := (1 : Int32)) hin10 (g := (mkF m 73 #[.val (.int ub), .val (.int ux), .val (.int (ub + (ux &&& (1 : Int32)))), .val (.int (((ub + (ux &&& (1 : Int32))) + (1 : Int32)) + ((ux >>> ((1 : Int32) &&& 31)) &&& (1 : Int32)))), .val (.int (((((ub + (ux &&& (1 : Int32))) + (1 : Int32)) + ((ux >>> ((1 : Int32) &&& 31)) &&& (1 : Int32))) + (1 : Int32)) + ((ux >>> ((2 : Int32) &&& 31)) &&& (1 : Int32)))), .val (.int ((ux >>> ((3 : Int32) &&& 31)) &&& (3 : Int32)))] [(.int (((ub + (ux &&& (1 : Int32))) + (1 : Int32)) + ((ux >>> ((1 : Int32) &&& 31)) &&& (1 : Int32)))), (.int (1 : Int32)), (.ref b8), (.ref b8)])) rfl rfl (hb hby d1_73)
        have sz10 := W10.size
        have O10 := O9.wr W10 gn8
        have K10 := K9.wr W10 (Or.inr fz8)
        have N10 := Fr.snoc X10 N9 gn8
        have V10 : Arv Z h10 b8 ka8 .int (2 : Int32) [(.int (ub + (ux &&& (1 : Int32)))), (.int (((ub + (ux &&& (1 : Int32))) + (1 : Int32)) + ((ux >>> ((1 : Int32) &&& 31)) &&& (1 : Int32))))] (.int (0 : Int32)) := Arv.set Ar10 qq10 Sz10 Nn10 Hh10 Gg10 rfl W10 1 rfl (Nat.le_of_ble_eq_true rfl)
        refine own_by (B := T10.setTop (mkF m 74 #[.val (.int ub), .val (.int ux), .val (.int (ub + (ux &&& (1 : Int32)))), .val (.int (((ub + (ux &&& (1 : Int32))) + (1 : Int32)) + ((ux >>> ((1 : Int32) &&& 31)) &&& (1 : Int32)))), .val (.int (((((ub + (ux &&& (1 : Int32))) + (1 : Int32)) + ((ux >>> ((1 : Int32) &&& 31)) &&& (1 : Int32))) + (1 : Int32)) + ((ux >>> ((2 : Int32) &&& 31)) &&& (1 : Int32)))), .val (.int ((ux >>> ((3 : Int32) &&& 31)) &&& (3 : Int32)))] [(.ref b8)])) st10 ?_
        have c11 := ((EA8.wr W9).wr W10)
        have hl : own_list ub ux = [(ub + (ux &&& (1 : Int32))), (((ub + (ux &&& (1 : Int32))) + (1 : Int32)) + ((ux >>> ((1 : Int32) &&& 31)) &&& (1 : Int32)))] := by unfold own_list; rw [if_neg hc1, if_neg hc3, if_pos hc7]
        exact own_retA X10 hx hrt rfl rfl hlk (hb hby d1_74) (by decide) (by decide) (by show own_QLi Z ub ux h0 n0 _ T10.heap _; rw [e10]; exact ⟨_, _, rfl, N10, K10, fz8, by rw [hl]; exact ⟨V10, rfl⟩, c11⟩)
      · refine own_by (B := s₁.setTop (mkF m 75 #[.val (.int ub), .val (.int ux), .val (.int (ub + (ux &&& (1 : Int32)))), .val (.int (((ub + (ux &&& (1 : Int32))) + (1 : Int32)) + ((ux >>> ((1 : Int32) &&& 31)) &&& (1 : Int32)))), .val (.int (((((ub + (ux &&& (1 : Int32))) + (1 : Int32)) + ((ux >>> ((1 : Int32) &&& 31)) &&& (1 : Int32))) + (1 : Int32)) + ((ux >>> ((2 : Int32) &&& 31)) &&& (1 : Int32)))), .val (.int ((ux >>> ((3 : Int32) &&& 31)) &&& (3 : Int32)))] [])) (fun _ k => XS.icmpYes X0.here hx rfl (pc0 := 60) (pc' := 75) rfl (hb hby d1_60) rfl (XT.ii_ne_t hc7) (by decide) (by decide) k) ?_
        refine own_by (B := s₁.setTop (mkF m 76 #[.val (.int ub), .val (.int ux), .val (.int (ub + (ux &&& (1 : Int32)))), .val (.int (((ub + (ux &&& (1 : Int32))) + (1 : Int32)) + ((ux >>> ((1 : Int32) &&& 31)) &&& (1 : Int32)))), .val (.int (((((ub + (ux &&& (1 : Int32))) + (1 : Int32)) + ((ux >>> ((1 : Int32) &&& 31)) &&& (1 : Int32))) + (1 : Int32)) + ((ux >>> ((2 : Int32) &&& 31)) &&& (1 : Int32)))), .val (.int ((ux >>> ((3 : Int32) &&& 31)) &&& (3 : Int32)))] [(.int (3 : Int32))])) (fun _ k => XS.iconst X0.here hx rfl (hb hby d1_75) k) ?_
        obtain ⟨T12, h12, ka12, X12, e12, E12, A12, EA12, st12⟩ := newPE X0 hx hZ (hw _ (List.mem_of_getElem? (i := 4) rfl)) e0 (g := (mkF m 76 #[.val (.int ub), .val (.int ux), .val (.int (ub + (ux &&& (1 : Int32)))), .val (.int (((ub + (ux &&& (1 : Int32))) + (1 : Int32)) + ((ux >>> ((1 : Int32) &&& 31)) &&& (1 : Int32)))), .val (.int (((((ub + (ux &&& (1 : Int32))) + (1 : Int32)) + ((ux >>> ((1 : Int32) &&& 31)) &&& (1 : Int32))) + (1 : Int32)) + ((ux >>> ((2 : Int32) &&& 31)) &&& (1 : Int32)))), .val (.int ((ux >>> ((3 : Int32) &&& 31)) &&& (3 : Int32)))] [(.int (3 : Int32))])) rfl (hb hby d1_76) rfl (by decide) (cap := 3) (by decide) (by decide) (by decide) (by decide) (ad := "[I") (by decide)
        obtain ⟨b12, g12⟩ : ∃ z, z = h0.size := ⟨_, rfl⟩
        rw [← g12] at A12 EA12 st12
        have sz12 := E12.1
        have gn12 : n0 ≤ b12 := g12 ▸ own_old_le O0
        have fz12 : h0.size ≤ b12 := g12 ▸ K0.1
        have lt12 := own_lt A12.lt
        have O12 := O0.ext E12
        have K12 := K0.ext E12
        have V12 : Arv Z h12 b12 ka12 .int (3 : Int32) [(.int (0 : Int32)), (.int (0 : Int32)), (.int (0 : Int32))] (.int (0 : Int32)) := (Arv.new A12 (by decide)).pad (pad_rep [] (.int (0 : Int32)) 3)
        refine own_by (B := T12.setTop (mkF m 78 #[.val (.int ub), .val (.int ux), .val (.int (ub + (ux &&& (1 : Int32)))), .val (.int (((ub + (ux &&& (1 : Int32))) + (1 : Int32)) + ((ux >>> ((1 : Int32) &&& 31)) &&& (1 : Int32)))), .val (.int (((((ub + (ux &&& (1 : Int32))) + (1 : Int32)) + ((ux >>> ((1 : Int32) &&& 31)) &&& (1 : Int32))) + (1 : Int32)) + ((ux >>> ((2 : Int32) &&& 31)) &&& (1 : Int32)))), .val (.int ((ux >>> ((3 : Int32) &&& 31)) &&& (3 : Int32)))] [(.ref b12)])) st12 ?_
        refine own_by (B := T12.setTop (mkF m 79 #[.val (.int ub), .val (.int ux), .val (.int (ub + (ux &&& (1 : Int32)))), .val (.int (((ub + (ux &&& (1 : Int32))) + (1 : Int32)) + ((ux >>> ((1 : Int32) &&& 31)) &&& (1 : Int32)))), .val (.int (((((ub + (ux &&& (1 : Int32))) + (1 : Int32)) + ((ux >>> ((1 : Int32) &&& 31)) &&& (1 : Int32))) + (1 : Int32)) + ((ux >>> ((2 : Int32) &&& 31)) &&& (1 : Int32)))), .val (.int ((ux >>> ((3 : Int32) &&& 31)) &&& (3 : Int32)))] [(.ref b12), (.ref b12)])) (fun _ k => XS.dup X12.here hx rfl (hb hby d1_78) rfl rfl k) ?_
        refine own_by (B := T12.setTop (mkF m 80 #[.val (.int ub), .val (.int ux), .val (.int (ub + (ux &&& (1 : Int32)))), .val (.int (((ub + (ux &&& (1 : Int32))) + (1 : Int32)) + ((ux >>> ((1 : Int32) &&& 31)) &&& (1 : Int32)))), .val (.int (((((ub + (ux &&& (1 : Int32))) + (1 : Int32)) + ((ux >>> ((1 : Int32) &&& 31)) &&& (1 : Int32))) + (1 : Int32)) + ((ux >>> ((2 : Int32) &&& 31)) &&& (1 : Int32)))), .val (.int ((ux >>> ((3 : Int32) &&& 31)) &&& (3 : Int32)))] [(.int (0 : Int32)), (.ref b12), (.ref b12)])) (fun _ k => XS.iconst X12.here hx rfl (hb hby d1_79) k) ?_
        refine own_by (B := T12.setTop (mkF m 81 #[.val (.int ub), .val (.int ux), .val (.int (ub + (ux &&& (1 : Int32)))), .val (.int (((ub + (ux &&& (1 : Int32))) + (1 : Int32)) + ((ux >>> ((1 : Int32) &&& 31)) &&& (1 : Int32)))), .val (.int (((((ub + (ux &&& (1 : Int32))) + (1 : Int32)) + ((ux >>> ((1 : Int32) &&& 31)) &&& (1 : Int32))) + (1 : Int32)) + ((ux >>> ((2 : Int32) &&& 31)) &&& (1 : Int32)))), .val (.int ((ux >>> ((3 : Int32) &&& 31)) &&& (3 : Int32)))] [(.int (ub + (ux &&& (1 : Int32)))), (.int (0 : Int32)), (.ref b12), (.ref b12)])) (fun _ k => XS.iloadN X12.here hx rfl (hb hby d1_80) rfl  k) ?_
        obtain ⟨cl13, Ar13, qq13, Sz13, Nn13, Hh13, Gg13⟩ := id (V12)
        have hin13 : ¬ ((0 : Int32) < 0 ∨ cl13.slots.size ≤ ((0 : Int32)).toNatClampNeg) := inb_of Sz13 ⟨by decide, by decide⟩
        obtain ⟨T13, h13, X13, e13, W13, st13⟩ := stI X12 hx hZ e12 Ar13 (j := (0 : Int32)) hin13 (g := (mkF m 81 #[.val (.int ub), .val (.int ux), .val (.int (ub + (ux &&& (1 : Int32)))), .val (.int (((ub + (ux &&& (1 : Int32))) + (1 : Int32)) + ((ux >>> ((1 : Int32) &&& 31)) &&& (1 : Int32)))), .val (.int (((((ub + (ux &&& (1 : Int32))) + (1 : Int32)) + ((ux >>> ((1 : Int32) &&& 31)) &&& (1 : Int32))) + (1 : Int32)) + ((ux >>> ((2 : Int32) &&& 31)) &&& (1 : Int32)))), .val (.int ((ux >>> ((3 : Int32) &&& 31)) &&& (3 : Int32)))] [(.int (ub + (ux &&& (1 : Int32)))), (.int (0 : Int32)), (.ref b12), (.ref b12)])) rfl rfl (hb hby d1_81)
        have sz13 := W13.size
        have O13 := O12.wr W13 gn12
        have K13 := K12.wr W13 (Or.inr fz12)
        have N13 := Fr.snoc X13 N0 gn12
        have V13 : Arv Z h13 b12 ka12 .int (3 : Int32) [(.int (ub + (ux &&& (1 : Int32)))), (.int (0 : Int32)), (.int (0 : Int32))] (.int (0 : Int32)) := Arv.set Ar13 qq13 Sz13 Nn13 Hh13 Gg13 rfl W13 0 rfl (Nat.le_of_ble_eq_true rfl)
        refine own_by (B := T13.setTop (mkF m 82 #[.val (.int ub), .val (.int ux), .val (.int (ub + (ux &&& (1 : Int32)))), .val (.int (((ub + (ux &&& (1 : Int32))) + (1 : Int32)) + ((ux >>> ((1 : Int32) &&& 31)) &&& (1 : Int32)))), .val (.int (((((ub + (ux &&& (1 : Int32))) + (1 : Int32)) + ((ux >>> ((1 : Int32) &&& 31)) &&& (1 : Int32))) + (1 : Int32)) + ((ux >>> ((2 : Int32) &&& 31)) &&& (1 : Int32)))), .val (.int ((ux >>> ((3 : Int32) &&& 31)) &&& (3 : Int32)))] [(.ref b12)])) st13 ?_
        refine own_by (B := T13.setTop (mkF m 83 #[.val (.int ub), .val (.int ux), .val (.int (ub + (ux &&& (1 : Int32)))), .val (.int (((ub + (ux &&& (1 : Int32))) + (1 : Int32)) + ((ux >>> ((1 : Int32) &&& 31)) &&& (1 : Int32)))), .val (.int (((((ub + (ux &&& (1 : Int32))) + (1 : Int32)) + ((ux >>> ((1 : Int32) &&& 31)) &&& (1 : Int32))) + (1 : Int32)) + ((ux >>> ((2 : Int32) &&& 31)) &&& (1 : Int32)))), .val (.int ((ux >>> ((3 : Int32) &&& 31)) &&& (3 : Int32)))] [(.ref b12), (.ref b12)])) (fun _ k => XS.dup X13.here hx rfl (hb hby d1_82) rfl rfl k) ?_
        refine own_by (B := T13.setTop (mkF m 84 #[.val (.int ub), .val (.int ux), .val (.int (ub + (ux &&& (1 : Int32)))), .val (.int (((ub + (ux &&& (1 : Int32))) + (1 : Int32)) + ((ux >>> ((1 : Int32) &&& 31)) &&& (1 : Int32)))), .val (.int (((((ub + (ux &&& (1 : Int32))) + (1 : Int32)) + ((ux >>> ((1 : Int32) &&& 31)) &&& (1 : Int32))) + (1 : Int32)) + ((ux >>> ((2 : Int32) &&& 31)) &&& (1 : Int32)))), .val (.int ((ux >>> ((3 : Int32) &&& 31)) &&& (3 : Int32)))] [(.int (1 : Int32)), (.ref b12), (.ref b12)])) (fun _ k => XS.iconst X13.here hx rfl (hb hby d1_83) k) ?_
        refine own_by (B := T13.setTop (mkF m 85 #[.val (.int ub), .val (.int ux), .val (.int (ub + (ux &&& (1 : Int32)))), .val (.int (((ub + (ux &&& (1 : Int32))) + (1 : Int32)) + ((ux >>> ((1 : Int32) &&& 31)) &&& (1 : Int32)))), .val (.int (((((ub + (ux &&& (1 : Int32))) + (1 : Int32)) + ((ux >>> ((1 : Int32) &&& 31)) &&& (1 : Int32))) + (1 : Int32)) + ((ux >>> ((2 : Int32) &&& 31)) &&& (1 : Int32)))), .val (.int ((ux >>> ((3 : Int32) &&& 31)) &&& (3 : Int32)))] [(.int (((ub + (ux &&& (1 : Int32))) + (1 : Int32)) + ((ux >>> ((1 : Int32) &&& 31)) &&& (1 : Int32)))), (.int (1 : Int32)), (.ref b12), (.ref b12)])) (fun _ k => XS.iloadN X13.here hx rfl (hb hby d1_84) rfl  k) ?_
        obtain ⟨cl14, Ar14, qq14, Sz14, Nn14, Hh14, Gg14⟩ := id (V13)
        have hin14 : ¬ ((1 : Int32) < 0 ∨ cl14.slots.size ≤ ((1 : Int32)).toNatClampNeg) := inb_of Sz14 ⟨by decide, by decide⟩
        obtain ⟨T14, h14, X14, e14, W14, st14⟩ := stI X13 hx hZ e13 Ar14 (j := (1 : Int32)) hin14 (g := (mkF m 85 #[.val (.int ub), .val (.int ux), .val (.int (ub + (ux &&& (1 : Int32)))), .val (.int (((ub + (ux &&& (1 : Int32))) + (1 : Int32)) + ((ux >>> ((1 : Int32) &&& 31)) &&& (1 : Int32)))), .val (.int (((((ub + (ux &&& (1 : Int32))) + (1 : Int32)) + ((ux >>> ((1 : Int32) &&& 31)) &&& (1 : Int32))) + (1 : Int32)) + ((ux >>> ((2 : Int32) &&& 31)) &&& (1 : Int32)))), .val (.int ((ux >>> ((3 : Int32) &&& 31)) &&& (3 : Int32)))] [(.int (((ub + (ux &&& (1 : Int32))) + (1 : Int32)) + ((ux >>> ((1 : Int32) &&& 31)) &&& (1 : Int32)))), (.int (1 : Int32)), (.ref b12), (.ref b12)])) rfl rfl (hb hby d1_85)
        have sz14 := W14.size
        have O14 := O13.wr W14 gn12
        have K14 := K13.wr W14 (Or.inr fz12)
        have N14 := Fr.snoc X14 N13 gn12
        have V14 : Arv Z h14 b12 ka12 .int (3 : Int32) [(.int (ub + (ux &&& (1 : Int32)))), (.int (((ub + (ux &&& (1 : Int32))) + (1 : Int32)) + ((ux >>> ((1 : Int32) &&& 31)) &&& (1 : Int32)))), (.int (0 : Int32))] (.int (0 : Int32)) := Arv.set Ar14 qq14 Sz14 Nn14 Hh14 Gg14 rfl W14 1 rfl (Nat.le_of_ble_eq_true rfl)
        refine own_by (B := T14.setTop (mkF m 86 #[.val (.int ub), .val (.int ux), .val (.int (ub + (ux &&& (1 : Int32)))), .val (.int (((ub + (ux &&& (1 : Int32))) + (1 : Int32)) + ((ux >>> ((1 : Int32) &&& 31)) &&& (1 : Int32)))), .val (.int (((((ub + (ux &&& (1 : Int32))) + (1 : Int32)) + ((ux >>> ((1 : Int32) &&& 31)) &&& (1 : Int32))) + (1 : Int32)) + ((ux >>> ((2 : Int32) &&& 31)) &&& (1 : Int32)))), .val (.int ((ux >>> ((3 : Int32) &&& 31)) &&& (3 : Int32)))] [(.ref b12)])) st14 ?_
        refine own_by (B := T14.setTop (mkF m 87 #[.val (.int ub), .val (.int ux), .val (.int (ub + (ux &&& (1 : Int32)))), .val (.int (((ub + (ux &&& (1 : Int32))) + (1 : Int32)) + ((ux >>> ((1 : Int32) &&& 31)) &&& (1 : Int32)))), .val (.int (((((ub + (ux &&& (1 : Int32))) + (1 : Int32)) + ((ux >>> ((1 : Int32) &&& 31)) &&& (1 : Int32))) + (1 : Int32)) + ((ux >>> ((2 : Int32) &&& 31)) &&& (1 : Int32)))), .val (.int ((ux >>> ((3 : Int32) &&& 31)) &&& (3 : Int32)))] [(.ref b12), (.ref b12)])) (fun _ k => XS.dup X14.here hx rfl (hb hby d1_86) rfl rfl k) ?_
        refine own_by (B := T14.setTop (mkF m 88 #[.val (.int ub), .val (.int ux), .val (.int (ub + (ux &&& (1 : Int32)))), .val (.int (((ub + (ux &&& (1 : Int32))) + (1 : Int32)) + ((ux >>> ((1 : Int32) &&& 31)) &&& (1 : Int32)))), .val (.int (((((ub + (ux &&& (1 : Int32))) + (1 : Int32)) + ((ux >>> ((1 : Int32) &&& 31)) &&& (1 : Int32))) + (1 : Int32)) + ((ux >>> ((2 : Int32) &&& 31)) &&& (1 : Int32)))), .val (.int ((ux >>> ((3 : Int32) &&& 31)) &&& (3 : Int32)))] [(.int (2 : Int32)), (.ref b12), (.ref b12)])) (fun _ k => XS.iconst X14.here hx rfl (hb hby d1_87) k) ?_
        refine own_by (B := T14.setTop (mkF m 90 #[.val (.int ub), .val (.int ux), .val (.int (ub + (ux &&& (1 : Int32)))), .val (.int (((ub + (ux &&& (1 : Int32))) + (1 : Int32)) + ((ux >>> ((1 : Int32) &&& 31)) &&& (1 : Int32)))), .val (.int (((((ub + (ux &&& (1 : Int32))) + (1 : Int32)) + ((ux >>> ((1 : Int32) &&& 31)) &&& (1 : Int32))) + (1 : Int32)) + ((ux >>> ((2 : Int32) &&& 31)) &&& (1 : Int32)))), .val (.int ((ux >>> ((3 : Int32) &&& 31)) &&& (3 : Int32)))] [(.int (((((ub + (ux &&& (1 : Int32))) + (1 : Int32)) + ((ux >>> ((1 : Int32) &&& 31)) &&& (1 : Int32))) + (1 : Int32)) + ((ux >>> ((2 : Int32) &&& 31)) &&& (1 : Int32)))), (.int (2 : Int32)), (.ref b12), (.ref b12)])) (fun _ k => XS.iload X14.here hx rfl (hb hby d1_88) rfl  k) ?_
        obtain ⟨cl15, Ar15, qq15, Sz15, Nn15, Hh15, Gg15⟩ := id (V14)
        have hin15 : ¬ ((2 : Int32) < 0 ∨ cl15.slots.size ≤ ((2 : Int32)).toNatClampNeg) := inb_of Sz15 ⟨by decide, by decide⟩
        obtain ⟨T15, h15, X15, e15, W15, st15⟩ := stI X14 hx hZ e14 Ar15 (j := (2 : Int32)) hin15 (g := (mkF m 90 #[.val (.int ub), .val (.int ux), .val (.int (ub + (ux &&& (1 : Int32)))), .val (.int (((ub + (ux &&& (1 : Int32))) + (1 : Int32)) + ((ux >>> ((1 : Int32) &&& 31)) &&& (1 : Int32)))), .val (.int (((((ub + (ux &&& (1 : Int32))) + (1 : Int32)) + ((ux >>> ((1 : Int32) &&& 31)) &&& (1 : Int32))) + (1 : Int32)) + ((ux >>> ((2 : Int32) &&& 31)) &&& (1 : Int32)))), .val (.int ((ux >>> ((3 : Int32) &&& 31)) &&& (3 : Int32)))] [(.int (((((ub + (ux &&& (1 : Int32))) + (1 : Int32)) + ((ux >>> ((1 : Int32) &&& 31)) &&& (1 : Int32))) + (1 : Int32)) + ((ux >>> ((2 : Int32) &&& 31)) &&& (1 : Int32)))), (.int (2 : Int32)), (.ref b12), (.ref b12)])) rfl rfl (hb hby d1_90)
        have sz15 := W15.size
        have O15 := O14.wr W15 gn12
        have K15 := K14.wr W15 (Or.inr fz12)
        have N15 := Fr.snoc X15 N14 gn12
        have V15 : Arv Z h15 b12 ka12 .int (3 : Int32) [(.int (ub + (ux &&& (1 : Int32)))), (.int (((ub + (ux &&& (1 : Int32))) + (1 : Int32)) + ((ux >>> ((1 : Int32) &&& 31)) &&& (1 : Int32)))), (.int (((((ub + (ux &&& (1 : Int32))) + (1 : Int32)) + ((ux >>> ((1 : Int32) &&& 31)) &&& (1 : Int32))) + (1 : Int32)) + ((ux >>> ((2 : Int32) &&& 31)) &&& (1 : Int32))))] (.int (0 : Int32)) := Arv.set Ar15 qq15 Sz15 Nn15 Hh15 Gg15 rfl W15 2 rfl (Nat.le_of_ble_eq_true rfl)
        refine own_by (B := T15.setTop (mkF m 91 #[.val (.int ub), .val (.int ux), .val (.int (ub + (ux &&& (1 : Int32)))), .val (.int (((ub + (ux &&& (1 : Int32))) + (1 : Int32)) + ((ux >>> ((1 : Int32) &&& 31)) &&& (1 : Int32)))), .val (.int (((((ub + (ux &&& (1 : Int32))) + (1 : Int32)) + ((ux >>> ((1 : Int32) &&& 31)) &&& (1 : Int32))) + (1 : Int32)) + ((ux >>> ((2 : Int32) &&& 31)) &&& (1 : Int32)))), .val (.int ((ux >>> ((3 : Int32) &&& 31)) &&& (3 : Int32)))] [(.ref b12)])) st15 ?_
        have c16 := (((EA12.wr W13).wr W14).wr W15)
        have hl : own_list ub ux = [(ub + (ux &&& (1 : Int32))), (((ub + (ux &&& (1 : Int32))) + (1 : Int32)) + ((ux >>> ((1 : Int32) &&& 31)) &&& (1 : Int32))), (((((ub + (ux &&& (1 : Int32))) + (1 : Int32)) + ((ux >>> ((1 : Int32) &&& 31)) &&& (1 : Int32))) + (1 : Int32)) + ((ux >>> ((2 : Int32) &&& 31)) &&& (1 : Int32)))] := by unfold own_list; rw [if_neg hc1, if_neg hc3, if_neg hc7]
        exact own_retA X15 hx hrt rfl rfl hlk (hb hby d1_91) (by decide) (by decide) (by show own_QLi Z ub ux h0 n0 _ T15.heap _; rw [e15]; exact ⟨_, _, rfl, N15, K15, fz12, by rw [hl]; exact ⟨V15, rfl⟩, c16⟩)

def own_two {α : Type} (x y : α) : Nat → α
  | 0 => x
  | _ => y
theorem own_cc {La Lb : List Int32} {P : Nat → List Int32 → Prop} (h0 : P 0 La) (h1 : P 1 Lb) : ∀ i L, ([La, Lb] : List (List Int32))[i]? = some L → P i L := by
  intro i L h
  match i, h with
  | 0, h => obtain rfl := Option.some.inj h; exact h0
  | 1, h => obtain rfl := Option.some.inj h; exact h1
  | n + 2, h => cases h

def own_law112 (CL : List (List Int32)) (La Lb : List Int32) (v5 v6 v7 v8 v9 v10 v11 : Int32) : Option Int32 := (own_add CL own_u0 0).bind fun q125 => (own_add CL q125 1).bind fun q127 => (own_addAlike CL q127 v7).bind fun q129 => (own_addAlike CL q129 v6).bind fun q131 => (own_complete CL q131 ).bind fun q133 => if (q133.1) = v11 then (if (q133.1) = (0 : Int32) then (some (1 : Int32)) else (if v7 = (0 : Int32) then ((own_geti La (1 : Int32)).bind fun w138 => if v8 = (0 : Int32) then ((own_geti La (v9 - (1 : Int32))).bind fun w140 => (own_lowest CL (q133.2) (0 : Int32)).bind fun q141 => (own_lowest CL (q141.2) (1 : Int32)).bind fun q143 => (own_lowest CL (q143.2) (2 : Int32)).bind fun q145 => (own_lowest CL (q145.2) (3 : Int32)).bind fun q147 => (own_geti La (0 : Int32)).bind fun w149 => if (q141.1) = w149 then ((own_geti Lb (0 : Int32)).bind fun w151 => if (q143.1) = w151 then (if (q145.1) = w138 then (if (q147.1) = w140 then (some (1 : Int32)) else (some (0 : Int32))) else (some (0 : Int32))) else (some (0 : Int32))) else (some (0 : Int32))) else ((own_geti Lb (v10 - (1 : Int32))).bind fun w155 => (own_lowest CL (q133.2) (0 : Int32)).bind fun q156 => (own_lowest CL (q156.2) (1 : Int32)).bind fun q158 => (own_lowest CL (q158.2) (2 : Int32)).bind fun q160 => (own_lowest CL (q160.2) (3 : Int32)).bind fun q162 => (own_geti La (0 : Int32)).bind fun w164 => if (q156.1) = w164 then ((own_geti Lb (0 : Int32)).bind fun w166 => if (q158.1) = w166 then (if (q160.1) = w138 then (if (q162.1) = w155 then (some (1 : Int32)) else (some (0 : Int32))) else (some (0 : Int32))) else (some (0 : Int32))) else (some (0 : Int32)))) else ((own_geti Lb (1 : Int32)).bind fun w170 => if v8 = (0 : Int32) then ((own_geti La (v9 - (1 : Int32))).bind fun w172 => (own_lowest CL (q133.2) (0 : Int32)).bind fun q173 => (own_lowest CL (q173.2) (1 : Int32)).bind fun q175 => (own_lowest CL (q175.2) (2 : Int32)).bind fun q177 => (own_lowest CL (q177.2) (3 : Int32)).bind fun q179 => (own_geti La (0 : Int32)).bind fun w181 => if (q173.1) = w181 then ((own_geti Lb (0 : Int32)).bind fun w183 => if (q175.1) = w183 then (if (q177.1) = w170 then (if (q179.1) = w172 then (some (1 : Int32)) else (some (0 : Int32))) else (some (0 : Int32))) else (some (0 : Int32))) else (some (0 : Int32))) else ((own_geti Lb (v10 - (1 : Int32))).bind fun w187 => (own_lowest CL (q133.2) (0 : Int32)).bind fun q188 => (own_lowest CL (q188.2) (1 : Int32)).bind fun q190 => (own_lowest CL (q190.2) (2 : Int32)).bind fun q192 => (own_lowest CL (q192.2) (3 : Int32)).bind fun q194 => (own_geti La (0 : Int32)).bind fun w196 => if (q188.1) = w196 then ((own_geti Lb (0 : Int32)).bind fun w198 => if (q190.1) = w198 then (if (q192.1) = w170 then (if (q194.1) = w187 then (some (1 : Int32)) else (some (0 : Int32))) else (some (0 : Int32))) else (some (0 : Int32))) else (some (0 : Int32)))))) else (some (0 : Int32))

theorem own_e2 {z : Int32} (h0 : 0 ≤ z.toInt) (h1 : z.toInt < 2) : z = (0 : Int32) ∨ z = (1 : Int32) := by
  have h : z.toInt = 0 ∨ z.toInt = 1 := by omega
  rcases h with h | h
  · exact Or.inl (Int32.toInt_inj.mp (h.trans (by decide)))
  · exact Or.inr ((Int32.toInt_inj.mp (h.trans (by decide))))

theorem own_e3 {z : Int32} (h0 : 0 ≤ z.toInt) (h1 : z.toInt < 3) : z = (0 : Int32) ∨ z = (1 : Int32) ∨ z = (2 : Int32) := by
  have h : z.toInt = 0 ∨ z.toInt = 1 ∨ z.toInt = 2 := by omega
  rcases h with h | h | h
  · exact Or.inl (Int32.toInt_inj.mp (h.trans (by decide)))
  · exact Or.inr (Or.inl (Int32.toInt_inj.mp (h.trans (by decide))))
  · exact Or.inr (Or.inr ((Int32.toInt_inj.mp (h.trans (by decide)))))

theorem own_e4 {z : Int32} (h0 : 0 ≤ z.toInt) (h1 : z.toInt < 4) : z = (0 : Int32) ∨ z = (1 : Int32) ∨ z = (2 : Int32) ∨ z = (3 : Int32) := by
  have h : z.toInt = 0 ∨ z.toInt = 1 ∨ z.toInt = 2 ∨ z.toInt = 3 := by omega
  rcases h with h | h | h | h
  · exact Or.inl (Int32.toInt_inj.mp (h.trans (by decide)))
  · exact Or.inr (Or.inl (Int32.toInt_inj.mp (h.trans (by decide))))
  · exact Or.inr (Or.inr (Or.inl (Int32.toInt_inj.mp (h.trans (by decide)))))
  · exact Or.inr (Or.inr (Or.inr ((Int32.toInt_inj.mp (h.trans (by decide))))))

theorem own_bit (x : Int32) : x &&& (1 : Int32) = 0 ∨ x &&& (1 : Int32) = 1 := by
  have q := c_and x 1 (by decide)
  have e : (1 : Int32).toInt = 1 := by decide
  exact own_e2 q.1 (by omega)
theorem own_two_bits (x : Int32) : x &&& (3 : Int32) = 0 ∨ x &&& (3 : Int32) = 1 ∨ x &&& (3 : Int32) = 2 ∨ x &&& (3 : Int32) = 3 := by
  have q := c_and x 3 (by decide)
  have e : (3 : Int32).toInt = 3 := by decide
  exact own_e4 q.1 (by omega)
theorem own_rem3 (x : Int32) : (x &&& (3 : Int32)) % 3 = 0 ∨ (x &&& (3 : Int32)) % 3 = 1 ∨ (x &&& (3 : Int32)) % 3 = 2 := by
  rcases own_two_bits x with h | h | h | h <;> rw [h] <;> decide
def own_lists (ub : Int32) : List (List Int32) := [[], [ub], [ub + 1], [ub, ub + 1], [ub, ub + 2], [ub + 1, ub + 2], [ub + 1, ub + 3], [ub, ub + 1, ub + 2], [ub, ub + 1, ub + 3], [ub, ub + 2, ub + 3], [ub, ub + 2, ub + 4], [ub + 1, ub + 2, ub + 3], [ub + 1, ub + 2, ub + 4], [ub + 1, ub + 3, ub + 4], [ub + 1, ub + 3, ub + 5]]
def own_lsx (ub z0 z1 z2 zl : Int32) : List Int32 := if zl = (0 : Int32) then [] else if zl = (1 : Int32) then [ub + z0] else if zl = (2 : Int32) then [ub + z0, ((ub + z0) + (1 : Int32)) + z1] else [ub + z0, ((ub + z0) + (1 : Int32)) + z1, ((((ub + z0) + (1 : Int32)) + z1) + (1 : Int32)) + z2]
theorem own_list_in (ub ux : Int32) (hb : ub = 0 ∨ ub = 6) : own_list ub ux ∈ own_lists ub := by
  rw [show own_list ub ux = own_lsx ub (ux &&& (1 : Int32)) ((ux >>> ((1 : Int32) &&& 31)) &&& (1 : Int32)) ((ux >>> ((2 : Int32) &&& 31)) &&& (1 : Int32)) ((ux >>> ((3 : Int32) &&& 31)) &&& (3 : Int32)) from rfl]
  rcases hb with rfl | rfl <;> rcases own_bit ux with h0 | h0 <;> rcases own_bit (ux >>> ((1 : Int32) &&& 31)) with h1 | h1 <;> rcases own_bit (ux >>> ((2 : Int32) &&& 31)) with h2 | h2 <;> rcases own_two_bits (ux >>> ((3 : Int32) &&& 31)) with h3 | h3 | h3 | h3 <;> rw [h0, h1, h2, h3] <;> decide
def own_chk (La Lb : List Int32) (us2 us3 : Int32) : Bool :=
  let mv3 := if us3 = (2 : Int32) then us2 else us3
  let mv6 := if us2 = (0 : Int32) then (1 : Int32) else (0 : Int32)
  let mv9 := if mv3 = (0 : Int32) then (1 : Int32) else (0 : Int32)
  let unA := (((1 : Int32) + mv6) + mv9)
  let unB := ((4 : Int32) - unA)
  let mv14 := if (Int32.ofNat La.length) < unA then (0 : Int32) else if (Int32.ofNat Lb.length) < unB then (0 : Int32) else (1 : Int32)
  decide (own_law112 [La, Lb] La Lb us2 us3 us2 mv3 unA unB mv14 = some (1 : Int32))

set_option maxRecDepth 65536 in
theorem own_all_0_0 : (own_lists 0).all (fun La => (own_lists 6).all (fun Lb => own_chk La Lb (0 : Int32) (0 : Int32))) = true := by decide +kernel

set_option maxRecDepth 65536 in
theorem own_all_0_1 : (own_lists 0).all (fun La => (own_lists 6).all (fun Lb => own_chk La Lb (0 : Int32) (1 : Int32))) = true := by decide +kernel

set_option maxRecDepth 65536 in
theorem own_all_0_2 : (own_lists 0).all (fun La => (own_lists 6).all (fun Lb => own_chk La Lb (0 : Int32) (2 : Int32))) = true := by decide +kernel

set_option maxRecDepth 65536 in
theorem own_all_1_0 : (own_lists 0).all (fun La => (own_lists 6).all (fun Lb => own_chk La Lb (1 : Int32) (0 : Int32))) = true := by decide +kernel

set_option maxRecDepth 65536 in
theorem own_all_1_1 : (own_lists 0).all (fun La => (own_lists 6).all (fun Lb => own_chk La Lb (1 : Int32) (1 : Int32))) = true := by decide +kernel

set_option maxRecDepth 65536 in
theorem own_all_1_2 : (own_lists 0).all (fun La => (own_lists 6).all (fun Lb => own_chk La Lb (1 : Int32) (2 : Int32))) = true := by decide +kernel

theorem own_all {La Lb : List Int32} {us2 us3 : Int32} (h : (own_lists 0).all (fun La => (own_lists 6).all (fun Lb => own_chk La Lb us2 us3)) = true) (ha : La ∈ own_lists 0) (hb : Lb ∈ own_lists 6) : own_chk La Lb us2 us3 = true := List.all_eq_true.mp (List.all_eq_true.mp h _ ha) _ hb
theorem own_fin {ua ub uc us2 us3 mv3 mv6 mv9 unA unB mv14 : Int32} {La Lb : List Int32} (hLa : La = own_list (0 : Int32) ua) (hLb : Lb = own_list (6 : Int32) ub) (hus2 : us2 = (uc &&& (1 : Int32))) (hus3 : us3 = (((XT.ushr uc (1 : Int32)) &&& (3 : Int32)) % (3 : Int32))) (hmv3 : mv3 = if us3 = (2 : Int32) then us2 else us3) (hmv6 : mv6 = if us2 = (0 : Int32) then (1 : Int32) else (0 : Int32)) (hmv9 : mv9 = if mv3 = (0 : Int32) then (1 : Int32) else (0 : Int32)) (hunA : unA = (((1 : Int32) + mv6) + mv9)) (hunB : unB = ((4 : Int32) - unA)) (hmv14 : mv14 = if (Int32.ofNat La.length) < unA then (0 : Int32) else if (Int32.ofNat Lb.length) < unB then (0 : Int32) else (1 : Int32)) : own_law112 [La, Lb] La Lb us2 us3 us2 mv3 unA unB mv14 = some (1 : Int32) := by
  have ha : La ∈ own_lists 0 := hLa ▸ own_list_in 0 ua (Or.inl rfl)
  have hb : Lb ∈ own_lists 6 := hLb ▸ own_list_in 6 ub (Or.inr rfl)
  have h : own_chk La Lb us2 us3 = true := by
    rcases (hus2 ▸ own_bit uc : us2 = 0 ∨ us2 = 1) with rfl | rfl <;> rcases (hus3 ▸ own_rem3 (XT.ushr uc (1 : Int32)) : us3 = 0 ∨ us3 = 1 ∨ us3 = 2) with rfl | rfl | rfl
    · exact own_all own_all_0_0 ha hb
    · exact own_all own_all_0_1 ha hb
    · exact own_all own_all_0_2 ha hb
    · exact own_all own_all_1_0 ha hb
    · exact own_all own_all_1_1 ha hb
    · exact own_all own_all_1_2 ha hb
  subst hmv14 hunB hunA hmv9 hmv6 hmv3
  exact of_decide_eq_true h

def own_Q0 (n0 : Nat) (v : Option Value) (h : Heap) (L : List Loc) : Prop := v = some (.int 1) ∧ Fr n0 L

theorem pd_0__II__I : parseMethodDescriptor "(II)[I" = some ⟨[.int, .int], some (.array .int)⟩ := by decide +kernel
theorem pd_0__II_V : parseMethodDescriptor "(II)V" = some ⟨[.int, .int], none⟩ := by decide +kernel
theorem pd_0___I_V : parseMethodDescriptor "([I)V" = some ⟨[(.array .int)], none⟩ := by decide +kernel
theorem pd_0__I_V : parseMethodDescriptor "(I)V" = some ⟨[.int], none⟩ := by decide +kernel
theorem pd_0___Z : parseMethodDescriptor "()Z" = some ⟨[], some .boolean⟩ := by decide +kernel
theorem pd_0__I_I : parseMethodDescriptor "(I)I" = some ⟨[.int], some .int⟩ := by decide +kernel
theorem pn_rm0 : plainFor (⟨"com/example/document_pattern_rules/documentpatternrules/pattern/PairingAddAlikePinLaw", "law", "(III)Z"⟩ : MethodName) = true := by first | exact plainFor_of_name (by first | (simp [plainName, overriddenIn]; done) | decide +kernel) | exact Jvm.Free.JP.mathPlain rfl (by decide +kernel) | decide +kernel
theorem ef_rm0 (m : MethodId) (x0 : Int32) (x1 : Int32) (x2 : Int32) : entryFrame m #[(.int x0), (.int x1), (.int x2)] maxLocals = mkF m 0 #[.val (.int x0), .val (.int x1), .val (.int x2), .unset, .unset, .unset, .unset, .unset, .unset, .unset, .unset, .unset, .unset, .unset, .unset, .unset, .unset, .unset, .unset, .unset] [] := by first | (simp [entryFrame, mkF, argsToLocals, Value.category, maxLocals]; done) | rfl
set_option maxRecDepth 65536 in
set_option maxHeartbeats 40000000 in
theorem rm0 (l : Launch) (Z : State) (a0 : Array Value) (hw : ∀ d ∈ tables_1, d.before a0 Z = true) (ws : List Jvm.Cond) (ua ub uc : Int32) (h0 : Heap) (n0 : Nat) (Z0 : n0 ≤ h0.size) (O0 : Old Z n0 h0) :
    MetFree l x (head1 (Jvm.Cond.code x code maxLocals ret :: ws) room_1) (fun a U => a = #[(.int ua), (.int ub), (.int uc)] ∧ Z.Warmed39 U.vm ∧ U.heap = h0) (fun _ _ _ _ _ => True) (fun _ U o U' => ∃ v L, o = .returned v ∧ (own_Q0 n0) v U'.heap L ∧ FrameEnd U o U' L 40 256) := by
  refine MetFree.of_bodySF pn_rm0 hisR ?_
  intro p e s m args below meth c s₁ Bd hml0 hP hK
  obtain ⟨rfl, hZ, hh⟩ := hP
  have hx := Bd.exec
  have hby := Bd.bytes
  have hml : c.maxLocals = 20 := hml0
  have hown : s.vm.findClass "com/example/document_pattern_rules/documentpatternrules/pattern/PairingAddAlikePinLaw" = some m.cls := findClass_of_methodNamed Bd.named
  have hnm := (name_of_methodNamed Bd.named Bd.method).1
  have hrt := Bd.returns
  have hlk := Bd.notSynchronized
  have X0 : Stand p l e room_1 s m #[(.int ua), (.int ub), (.int uc)] below meth c s₁ [] 0 0 := Stand.of_body Bd
  have e0 : s₁.heap = h0 := by rw [← hh, Bd.state]; rfl
  have N0 := Fr.nil n0
  have K0 := Keep.refl h0 []
  refine own_done (B := s₁.setTop (mkF m 0 #[.val (.int ua), .val (.int ub), .val (.int uc), .unset, .unset, .unset, .unset, .unset, .unset, .unset, .unset, .unset, .unset, .unset, .unset, .unset, .unset, .unset, .unset, .unset] [])) (fun t k => castTop (ef_rm0 m ua ub uc) k) ?_
  refine own_by (B := s₁.setTop (mkF m 1 #[.val (.int ua), .val (.int ub), .val (.int uc), .unset, .unset, .unset, .unset, .unset, .unset, .unset, .unset, .unset, .unset, .unset, .unset, .unset, .unset, .unset, .unset, .unset] [(.int (0 : Int32))])) (fun _ k => XS.iconst X0.here hx rfl (hb hby at_0) k) ?_
  refine own_by (B := s₁.setTop (mkF m 2 #[.val (.int ua), .val (.int ub), .val (.int uc), .unset, .unset, .unset, .unset, .unset, .unset, .unset, .unset, .unset, .unset, .unset, .unset, .unset, .unset, .unset, .unset, .unset] [(.int ua), (.int (0 : Int32))])) (fun _ k => XS.iloadN X0.here hx rfl (hb hby at_1) rfl  k) ?_
  obtain ⟨_, _, ⟨T1, L1, k1, n1⟩, -, X1, ⟨Lc1, hQ1, l1, y1, z1⟩, st1⟩ := Jvm.LawKit.callS X0 hx (y := (⟨"com/example/document_pattern_rules/documentpatternrules/pattern/PairingAddAlikePinLaw", "list", "(II)[I"⟩ : MethodName)) hown (mvT hZ (hw _ (List.mem_of_getElem? (i := 0) rfl))) (mvT hZ (hw _ (List.mem_of_getElem? (i := 1) rfl))) (mvT hZ (hw _ (List.mem_of_getElem? (i := 2) rfl))) (mvT hZ (hw _ (List.mem_of_getElem? (i := 3) rfl))) (by decide) (backOf (W := 0) (rmLi l Z a0 hw [] (0 : Int32) ua h0 n0 (own_old_le O0) O0) hZ (hw _ (List.mem_of_getElem? (i := 3) rfl)) (hw _ (List.mem_of_getElem? (i := 2) rfl)) (by decide) (by decide)) (g := (mkF m 2 #[.val (.int ua), .val (.int ub), .val (.int uc), .unset, .unset, .unset, .unset, .unset, .unset, .unset, .unset, .unset, .unset, .unset, .unset, .unset, .unset, .unset, .unset, .unset] [(.int ua), (.int (0 : Int32))])) rfl (by rw [hml]; rfl) (argsL := [(.int (0 : Int32)), (.int ua)]) (rest := []) (lenOf pd_0__II__I rfl) rfl (by show 2 * 0 + _ ≤ _; exact Nat.le_of_eq rfl) (hb hby at_2) (fun _ _ => ⟨rfl, e0, (by decide : 0 + 1 ≤ _), (by decide : 0 + 3 ≤ _)⟩)
  dsimp only [Pt.U, Pt.locs, Pt.cells, Pt.slots] at X1 l1 y1 z1 st1 hQ1
  subst l1 y1 z1
  obtain ⟨ba, kka, rfl, NC1, KC1, hb1, VC1, EC1⟩ := hQ1
  refine own_by (B := T1.setTop (mkF m 5 #[.val (.int ua), .val (.int ub), .val (.int uc), .unset, .unset, .unset, .unset, .unset, .unset, .unset, .unset, .unset, .unset, .unset, .unset, .unset, .unset, .unset, .unset, .unset] [(.ref ba)])) st1 ?_
  have gnba : n0 ≤ ba := Nat.le_trans (own_old_le O0) hb1
  have fzba : h0.size ≤ ba := Nat.le_trans K0.1 hb1
  obtain ⟨h1, e1⟩ : ∃ z, T1.heap = z := ⟨_, rfl⟩
  rw [e1] at KC1 VC1 EC1
  have sz1 := KC1.1
  have O1 := O0.keep KC1 all0
  have K1 := K0.trans KC1 all0
  have N1 := Fr.app N0 NC1
  have ltba := own_lt EC1.lt
  obtain ⟨La, hLa⟩ : ∃ z : List Int32, z = own_list (0 : Int32) ua := ⟨_, rfl⟩
  rw [← hLa] at VC1
  refine own_by (B := T1.setTop (mkF m 6 #[.val (.int ua), .val (.int ub), .val (.int uc), .val (.ref ba), .unset, .unset, .unset, .unset, .unset, .unset, .unset, .unset, .unset, .unset, .unset, .unset, .unset, .unset, .unset, .unset] [])) (fun _ k => XS.astoreN X1.here hx rfl (hb hby at_5) rfl rfl (l' := #[.val (.int ua), .val (.int ub), .val (.int uc), .val (.ref ba), .unset, .unset, .unset, .unset, .unset, .unset, .unset, .unset, .unset, .unset, .unset, .unset, .unset, .unset, .unset, .unset]) rfl k) ?_
  refine own_by (B := T1.setTop (mkF m 8 #[.val (.int ua), .val (.int ub), .val (.int uc), .val (.ref ba), .unset, .unset, .unset, .unset, .unset, .unset, .unset, .unset, .unset, .unset, .unset, .unset, .unset, .unset, .unset, .unset] [(.int (6 : Int32))])) (fun _ k => XS.bipush X1.here hx rfl (hb hby at_6) k) ?_
  refine own_by (B := T1.setTop (mkF m 9 #[.val (.int ua), .val (.int ub), .val (.int uc), .val (.ref ba), .unset, .unset, .unset, .unset, .unset, .unset, .unset, .unset, .unset, .unset, .unset, .unset, .unset, .unset, .unset, .unset] [(.int ub), (.int (6 : Int32))])) (fun _ k => XS.iloadN X1.here hx rfl (hb hby at_8) rfl  k) ?_
  obtain ⟨_, _, ⟨T2, L2, k2, n2⟩, -, X2, ⟨Lc2, hQ2, l2, y2, z2⟩, st2⟩ := Jvm.LawKit.callS X1 hx (y := (⟨"com/example/document_pattern_rules/documentpatternrules/pattern/PairingAddAlikePinLaw", "list", "(II)[I"⟩ : MethodName)) hown (mvT hZ (hw _ (List.mem_of_getElem? (i := 0) rfl))) (mvT hZ (hw _ (List.mem_of_getElem? (i := 1) rfl))) (mvT hZ (hw _ (List.mem_of_getElem? (i := 2) rfl))) (mvT hZ (hw _ (List.mem_of_getElem? (i := 3) rfl))) (by decide) (backOf (W := 0) (rmLi l Z a0 hw [] (6 : Int32) ub h1 n0 (own_old_le O1) O1) hZ (hw _ (List.mem_of_getElem? (i := 3) rfl)) (hw _ (List.mem_of_getElem? (i := 2) rfl)) (by decide) (by decide)) (g := (mkF m 9 #[.val (.int ua), .val (.int ub), .val (.int uc), .val (.ref ba), .unset, .unset, .unset, .unset, .unset, .unset, .unset, .unset, .unset, .unset, .unset, .unset, .unset, .unset, .unset, .unset] [(.int ub), (.int (6 : Int32))])) rfl (by rw [hml]; rfl) (argsL := [(.int (6 : Int32)), (.int ub)]) (rest := []) (lenOf pd_0__II__I rfl) rfl (by show 2 * 0 + _ ≤ _; exact Nat.le_of_eq rfl) (hb hby at_9) (fun _ _ => ⟨rfl, e1, (by decide : 1 + 1 ≤ _), (by decide : 3 + 3 ≤ _)⟩)
  dsimp only [Pt.U, Pt.locs, Pt.cells, Pt.slots] at X2 l2 y2 z2 st2 hQ2
  subst l2 y2 z2
  obtain ⟨bb, kkb, rfl, NC2, KC2, hb2, VC2, EC2⟩ := hQ2
  refine own_by (B := T2.setTop (mkF m 12 #[.val (.int ua), .val (.int ub), .val (.int uc), .val (.ref ba), .unset, .unset, .unset, .unset, .unset, .unset, .unset, .unset, .unset, .unset, .unset, .unset, .unset, .unset, .unset, .unset] [(.ref bb)])) st2 ?_
  have gnbb : n0 ≤ bb := Nat.le_trans (own_old_le O1) hb2
  have fzbb : h0.size ≤ bb := Nat.le_trans K1.1 hb2
  obtain ⟨h2, e2⟩ : ∃ z, T2.heap = z := ⟨_, rfl⟩
  rw [e2] at KC2 VC2 EC2
  have sz2 := KC2.1
  have O2 := O1.keep KC2 all0
  have K2 := K1.trans KC2 all0
  have N2 := Fr.app N1 NC2
  have ltbb := own_lt EC2.lt
  obtain ⟨Lb, hLb⟩ : ∃ z : List Int32, z = own_list (6 : Int32) ub := ⟨_, rfl⟩
  rw [← hLb] at VC2
  refine own_by (B := T2.setTop (mkF m 14 #[.val (.int ua), .val (.int ub), .val (.int uc), .val (.ref ba), .val (.ref bb), .unset, .unset, .unset, .unset, .unset, .unset, .unset, .unset, .unset, .unset, .unset, .unset, .unset, .unset, .unset] [])) (fun _ k => XS.astore X2.here hx rfl (hb hby at_12) rfl rfl (l' := #[.val (.int ua), .val (.int ub), .val (.int uc), .val (.ref ba), .val (.ref bb), .unset, .unset, .unset, .unset, .unset, .unset, .unset, .unset, .unset, .unset, .unset, .unset, .unset, .unset, .unset]) rfl k) ?_
  refine own_by (B := T2.setTop (mkF m 15 #[.val (.int ua), .val (.int ub), .val (.int uc), .val (.ref ba), .val (.ref bb), .unset, .unset, .unset, .unset, .unset, .unset, .unset, .unset, .unset, .unset, .unset, .unset, .unset, .unset, .unset] [(.int uc)])) (fun _ k => XS.iloadN X2.here hx rfl (hb hby at_14) rfl  k) ?_
  refine own_by (B := T2.setTop (mkF m 16 #[.val (.int ua), .val (.int ub), .val (.int uc), .val (.ref ba), .val (.ref bb), .unset, .unset, .unset, .unset, .unset, .unset, .unset, .unset, .unset, .unset, .unset, .unset, .unset, .unset, .unset] [(.int (1 : Int32)), (.int uc)])) (fun _ k => XS.iconst X2.here hx rfl (hb hby at_15) k) ?_
  refine own_by (B := T2.setTop (mkF m 17 #[.val (.int ua), .val (.int ub), .val (.int uc), .val (.ref ba), .val (.ref bb), .unset, .unset, .unset, .unset, .unset, .unset, .unset, .unset, .unset, .unset, .unset, .unset, .unset, .unset, .unset] [(.int (uc &&& (1 : Int32)))])) (fun _ k => XS.iand X2.here hx rfl (hb hby at_16) rfl k) ?_
  obtain ⟨us2, hus2⟩ : ∃ z : Int32, z = (uc &&& (1 : Int32)) := ⟨_, rfl⟩
  rw [← hus2]
  refine own_by (B := T2.setTop (mkF m 19 #[.val (.int ua), .val (.int ub), .val (.int uc), .val (.ref ba), .val (.ref bb), .val (.int us2), .unset, .unset, .unset, .unset, .unset, .unset, .unset, .unset, .unset, .unset, .unset, .unset, .unset, .unset] [])) (fun _ k => XS.istore X2.here hx rfl (hb hby at_17) rfl (l' := #[.val (.int ua), .val (.int ub), .val (.int uc), .val (.ref ba), .val (.ref bb), .val (.int us2), .unset, .unset, .unset, .unset, .unset, .unset, .unset, .unset, .unset, .unset, .unset, .unset, .unset, .unset]) rfl k) ?_
  refine own_by (B := T2.setTop (mkF m 20 #[.val (.int ua), .val (.int ub), .val (.int uc), .val (.ref ba), .val (.ref bb), .val (.int us2), .unset, .unset, .unset, .unset, .unset, .unset, .unset, .unset, .unset, .unset, .unset, .unset, .unset, .unset] [(.int uc)])) (fun _ k => XS.iloadN X2.here hx rfl (hb hby at_19) rfl  k) ?_
  refine own_by (B := T2.setTop (mkF m 21 #[.val (.int ua), .val (.int ub), .val (.int uc), .val (.ref ba), .val (.ref bb), .val (.int us2), .unset, .unset, .unset, .unset, .unset, .unset, .unset, .unset, .unset, .unset, .unset, .unset, .unset, .unset] [(.int (1 : Int32)), (.int uc)])) (fun _ k => XS.iconst X2.here hx rfl (hb hby at_20) k) ?_
  refine own_by (B := T2.setTop (mkF m 22 #[.val (.int ua), .val (.int ub), .val (.int uc), .val (.ref ba), .val (.ref bb), .val (.int us2), .unset, .unset, .unset, .unset, .unset, .unset, .unset, .unset, .unset, .unset, .unset, .unset, .unset, .unset] [(.int (XT.ushr uc (1 : Int32)))])) (fun _ k => XT.iushr X2.here hx rfl (hb hby at_21) rfl k) ?_
  refine own_by (B := T2.setTop (mkF m 23 #[.val (.int ua), .val (.int ub), .val (.int uc), .val (.ref ba), .val (.ref bb), .val (.int us2), .unset, .unset, .unset, .unset, .unset, .unset, .unset, .unset, .unset, .unset, .unset, .unset, .unset, .unset] [(.int (3 : Int32)), (.int (XT.ushr uc (1 : Int32)))])) (fun _ k => XS.iconst X2.here hx rfl (hb hby at_22) k) ?_
  refine own_by (B := T2.setTop (mkF m 24 #[.val (.int ua), .val (.int ub), .val (.int uc), .val (.ref ba), .val (.ref bb), .val (.int us2), .unset, .unset, .unset, .unset, .unset, .unset, .unset, .unset, .unset, .unset, .unset, .unset, .unset, .unset] [(.int ((XT.ushr uc (1 : Int32)) &&& (3 : Int32)))])) (fun _ k => XS.iand X2.here hx rfl (hb hby at_23) rfl k) ?_
  refine own_by (B := T2.setTop (mkF m 25 #[.val (.int ua), .val (.int ub), .val (.int uc), .val (.ref ba), .val (.ref bb), .val (.int us2), .unset, .unset, .unset, .unset, .unset, .unset, .unset, .unset, .unset, .unset, .unset, .unset, .unset, .unset] [(.int (3 : Int32)), (.int ((XT.ushr uc (1 : Int32)) &&& (3 : Int32)))])) (fun _ k => XS.iconst X2.here hx rfl (hb hby at_24) k) ?_
  refine own_by (B := T2.setTop (mkF m 26 #[.val (.int ua), .val (.int ub), .val (.int uc), .val (.ref ba), .val (.ref bb), .val (.int us2), .unset, .unset, .unset, .unset, .unset, .unset, .unset, .unset, .unset, .unset, .unset, .unset, .unset, .unset] [(.int (((XT.ushr uc (1 : Int32)) &&& (3 : Int32)) % (3 : Int32)))])) (fun _ k => iremM (g := (mkF m 25 #[.val (.int ua), .val (.int ub), .val (.int uc), .val (.ref ba), .val (.ref bb), .val (.int us2), .unset, .unset, .unset, .unset, .unset, .unset, .unset, .unset, .unset, .unset, .unset, .unset, .unset, .unset] [(.int (3 : Int32)), (.int ((XT.ushr uc (1 : Int32)) &&& (3 : Int32)))])) X2 hx rfl (hb hby at_25) rfl (by decide) k) ?_
  obtain ⟨us3, hus3⟩ : ∃ z : Int32, z = (((XT.ushr uc (1 : Int32)) &&& (3 : Int32)) % (3 : Int32)) := ⟨_, rfl⟩
  rw [← hus3]
  refine own_by (B := T2.setTop (mkF m 28 #[.val (.int ua), .val (.int ub), .val (.int uc), .val (.ref ba), .val (.ref bb), .val (.int us2), .val (.int us3), .unset, .unset, .unset, .unset, .unset, .unset, .unset, .unset, .unset, .unset, .unset, .unset, .unset] [])) (fun _ k => XS.istore X2.here hx rfl (hb hby at_26) rfl (l' := #[.val (.int ua), .val (.int ub), .val (.int uc), .val (.ref ba), .val (.ref bb), .val (.int us2), .val (.int us3), .unset, .unset, .unset, .unset, .unset, .unset, .unset, .unset, .unset, .unset, .unset, .unset, .unset]) rfl k) ?_
  refine own_by (B := T2.setTop (mkF m 30 #[.val (.int ua), .val (.int ub), .val (.int uc), .val (.ref ba), .val (.ref bb), .val (.int us2), .val (.int us3), .unset, .unset, .unset, .unset, .unset, .unset, .unset, .unset, .unset, .unset, .unset, .unset, .unset] [(.int us2)])) (fun _ k => XS.iload X2.here hx rfl (hb hby at_28) rfl  k) ?_
  refine own_by (B := T2.setTop (mkF m 32 #[.val (.int ua), .val (.int ub), .val (.int uc), .val (.ref ba), .val (.ref bb), .val (.int us2), .val (.int us3), .val (.int us2), .unset, .unset, .unset, .unset, .unset, .unset, .unset, .unset, .unset, .unset, .unset, .unset] [])) (fun _ k => XS.istore X2.here hx rfl (hb hby at_30) rfl (l' := #[.val (.int ua), .val (.int ub), .val (.int uc), .val (.ref ba), .val (.ref bb), .val (.int us2), .val (.int us3), .val (.int us2), .unset, .unset, .unset, .unset, .unset, .unset, .unset, .unset, .unset, .unset, .unset, .unset]) rfl k) ?_
  refine own_by (B := T2.setTop (mkF m 34 #[.val (.int ua), .val (.int ub), .val (.int uc), .val (.ref ba), .val (.ref bb), .val (.int us2), .val (.int us3), .val (.int us2), .unset, .unset, .unset, .unset, .unset, .unset, .unset, .unset, .unset, .unset, .unset, .unset] [(.int us3)])) (fun _ k => XS.iload X2.here hx rfl (hb hby at_32) rfl  k) ?_
  refine own_by (B := T2.setTop (mkF m 35 #[.val (.int ua), .val (.int ub), .val (.int uc), .val (.ref ba), .val (.ref bb), .val (.int us2), .val (.int us3), .val (.int us2), .unset, .unset, .unset, .unset, .unset, .unset, .unset, .unset, .unset, .unset, .unset, .unset] [(.int (2 : Int32)), (.int us3)])) (fun _ k => XS.iconst X2.here hx rfl (hb hby at_34) k) ?_
  obtain ⟨mv3, hmv3⟩ : ∃ z : Int32, z = if us3 = (2 : Int32) then us2 else us3 := ⟨_, rfl⟩
  suffices hj4 : own_Go p.tables e below (own_K s below (own_Q0 n0) 40 256) (T2.setTop (mkF m 45 #[.val (.int ua), .val (.int ub), .val (.int uc), .val (.ref ba), .val (.ref bb), .val (.int us2), .val (.int us3), .val (.int us2), .unset, .unset, .unset, .unset, .unset, .unset, .unset, .unset, .unset, .unset, .unset, .unset] [(.int mv3)])) by
    by_cases hc5 : us3 = (2 : Int32)
    · refine own_by (B := T2.setTop (mkF m 38 #[.val (.int ua), .val (.int ub), .val (.int uc), .val (.ref ba), .val (.ref bb), .val (.int us2), .val (.int us3), .val (.int us2), .unset, .unset, .unset, .unset, .unset, .unset, .unset, .unset, .unset, .unset, .unset, .unset] [])) (fun _ k => XS.icmpNo X2.here hx rfl (hb hby at_35) rfl (XT.ii_ne_f hc5) k) ?_
      refine own_by (B := T2.setTop (mkF m 40 #[.val (.int ua), .val (.int ub), .val (.int uc), .val (.ref ba), .val (.ref bb), .val (.int us2), .val (.int us3), .val (.int us2), .unset, .unset, .unset, .unset, .unset, .unset, .unset, .unset, .unset, .unset, .unset, .unset] [(.int us2)])) (fun _ k => XS.iload X2.here hx rfl (hb hby at_38) rfl  k) ?_
      refine own_by (B := T2.setTop (mkF m 45 #[.val (.int ua), .val (.int ub), .val (.int uc), .val (.ref ba), .val (.ref bb), .val (.int us2), .val (.int us3), .val (.int us2), .unset, .unset, .unset, .unset, .unset, .unset, .unset, .unset, .unset, .unset, .unset, .unset] [(.int us2)])) (fun _ k => XS.goto X2.here hx rfl (pc0 := 40) (pc' := 45) rfl (hb hby at_40) (by decide) (by decide) k) ?_
      rw [show mv3 = us2 from hmv3.trans (((if_pos hc5).trans rfl))] at hj4
      exact hj4
    · refine own_by (B := T2.setTop (mkF m 43 #[.val (.int ua), .val (.int ub), .val (.int uc), .val (.ref ba), .val (.ref bb), .val (.int us2), .val (.int us3), .val (.int us2), .unset, .unset, .unset, .unset, .unset, .unset, .unset, .unset, .unset, .unset, .unset, .unset] [])) (fun _ k => XS.icmpYes X2.here hx rfl (pc0 := 35) (pc' := 43) rfl (hb hby at_35) rfl (XT.ii_ne_t hc5) (by decide) (by decide) k) ?_
      refine own_by (B := T2.setTop (mkF m 45 #[.val (.int ua), .val (.int ub), .val (.int uc), .val (.ref ba), .val (.ref bb), .val (.int us2), .val (.int us3), .val (.int us2), .unset, .unset, .unset, .unset, .unset, .unset, .unset, .unset, .unset, .unset, .unset, .unset] [(.int us3)])) (fun _ k => XS.iload X2.here hx rfl (hb hby at_43) rfl  k) ?_
      rw [show mv3 = us3 from hmv3.trans (((if_neg hc5).trans rfl))] at hj4
      exact hj4
  refine own_by (B := T2.setTop (mkF m 47 #[.val (.int ua), .val (.int ub), .val (.int uc), .val (.ref ba), .val (.ref bb), .val (.int us2), .val (.int us3), .val (.int us2), .val (.int mv3), .unset, .unset, .unset, .unset, .unset, .unset, .unset, .unset, .unset, .unset, .unset] [])) (fun _ k => XS.istore X2.here hx rfl (hb hby at_45) rfl (l' := #[.val (.int ua), .val (.int ub), .val (.int uc), .val (.ref ba), .val (.ref bb), .val (.int us2), .val (.int us3), .val (.int us2), .val (.int mv3), .unset, .unset, .unset, .unset, .unset, .unset, .unset, .unset, .unset, .unset, .unset]) rfl k) ?_
  refine own_by (B := T2.setTop (mkF m 48 #[.val (.int ua), .val (.int ub), .val (.int uc), .val (.ref ba), .val (.ref bb), .val (.int us2), .val (.int us3), .val (.int us2), .val (.int mv3), .unset, .unset, .unset, .unset, .unset, .unset, .unset, .unset, .unset, .unset, .unset] [(.int (1 : Int32))])) (fun _ k => XS.iconst X2.here hx rfl (hb hby at_47) k) ?_
  refine own_by (B := T2.setTop (mkF m 50 #[.val (.int ua), .val (.int ub), .val (.int uc), .val (.ref ba), .val (.ref bb), .val (.int us2), .val (.int us3), .val (.int us2), .val (.int mv3), .unset, .unset, .unset, .unset, .unset, .unset, .unset, .unset, .unset, .unset, .unset] [(.int us2), (.int (1 : Int32))])) (fun _ k => XS.iload X2.here hx rfl (hb hby at_48) rfl  k) ?_
  obtain ⟨mv6, hmv6⟩ : ∃ z : Int32, z = if us2 = (0 : Int32) then (1 : Int32) else (0 : Int32) := ⟨_, rfl⟩
  suffices hj7 : own_Go p.tables e below (own_K s below (own_Q0 n0) 40 256) (T2.setTop (mkF m 58 #[.val (.int ua), .val (.int ub), .val (.int uc), .val (.ref ba), .val (.ref bb), .val (.int us2), .val (.int us3), .val (.int us2), .val (.int mv3), .unset, .unset, .unset, .unset, .unset, .unset, .unset, .unset, .unset, .unset, .unset] [(.int mv6), (.int (1 : Int32))])) by
    by_cases hc8 : us2 = (0 : Int32)
    · refine own_by (B := T2.setTop (mkF m 53 #[.val (.int ua), .val (.int ub), .val (.int uc), .val (.ref ba), .val (.ref bb), .val (.int us2), .val (.int us3), .val (.int us2), .val (.int mv3), .unset, .unset, .unset, .unset, .unset, .unset, .unset, .unset, .unset, .unset, .unset] [(.int (1 : Int32))])) (fun _ k => XS.ifNo X2.here hx rfl (hb hby at_50) rfl (XT.i0_ne_f hc8) k) ?_
      refine own_by (B := T2.setTop (mkF m 54 #[.val (.int ua), .val (.int ub), .val (.int uc), .val (.ref ba), .val (.ref bb), .val (.int us2), .val (.int us3), .val (.int us2), .val (.int mv3), .unset, .unset, .unset, .unset, .unset, .unset, .unset, .unset, .unset, .unset, .unset] [(.int (1 : Int32)), (.int (1 : Int32))])) (fun _ k => XS.iconst X2.here hx rfl (hb hby at_53) k) ?_
      refine own_by (B := T2.setTop (mkF m 58 #[.val (.int ua), .val (.int ub), .val (.int uc), .val (.ref ba), .val (.ref bb), .val (.int us2), .val (.int us3), .val (.int us2), .val (.int mv3), .unset, .unset, .unset, .unset, .unset, .unset, .unset, .unset, .unset, .unset, .unset] [(.int (1 : Int32)), (.int (1 : Int32))])) (fun _ k => XS.goto X2.here hx rfl (pc0 := 54) (pc' := 58) rfl (hb hby at_54) (by decide) (by decide) k) ?_
      rw [show mv6 = (1 : Int32) from hmv6.trans (((if_pos hc8).trans rfl))] at hj7
      exact hj7
    · refine own_by (B := T2.setTop (mkF m 57 #[.val (.int ua), .val (.int ub), .val (.int uc), .val (.ref ba), .val (.ref bb), .val (.int us2), .val (.int us3), .val (.int us2), .val (.int mv3), .unset, .unset, .unset, .unset, .unset, .unset, .unset, .unset, .unset, .unset, .unset] [(.int (1 : Int32))])) (fun _ k => XS.ifYes X2.here hx rfl (pc0 := 50) (pc' := 57) rfl (hb hby at_50) rfl (XT.i0_ne_t hc8) (by decide) (by decide) k) ?_
      refine own_by (B := T2.setTop (mkF m 58 #[.val (.int ua), .val (.int ub), .val (.int uc), .val (.ref ba), .val (.ref bb), .val (.int us2), .val (.int us3), .val (.int us2), .val (.int mv3), .unset, .unset, .unset, .unset, .unset, .unset, .unset, .unset, .unset, .unset, .unset] [(.int (0 : Int32)), (.int (1 : Int32))])) (fun _ k => XS.iconst X2.here hx rfl (hb hby at_57) k) ?_
      rw [show mv6 = (0 : Int32) from hmv6.trans (((if_neg hc8).trans rfl))] at hj7
      exact hj7
  refine own_by (B := T2.setTop (mkF m 59 #[.val (.int ua), .val (.int ub), .val (.int uc), .val (.ref ba), .val (.ref bb), .val (.int us2), .val (.int us3), .val (.int us2), .val (.int mv3), .unset, .unset, .unset, .unset, .unset, .unset, .unset, .unset, .unset, .unset, .unset] [(.int ((1 : Int32) + mv6))])) (fun _ k => XS.iadd X2.here hx rfl (hb hby at_58) rfl k) ?_
  refine own_by (B := T2.setTop (mkF m 61 #[.val (.int ua), .val (.int ub), .val (.int uc), .val (.ref ba), .val (.ref bb), .val (.int us2), .val (.int us3), .val (.int us2), .val (.int mv3), .unset, .unset, .unset, .unset, .unset, .unset, .unset, .unset, .unset, .unset, .unset] [(.int mv3), (.int ((1 : Int32) + mv6))])) (fun _ k => XS.iload X2.here hx rfl (hb hby at_59) rfl  k) ?_
  obtain ⟨mv9, hmv9⟩ : ∃ z : Int32, z = if mv3 = (0 : Int32) then (1 : Int32) else (0 : Int32) := ⟨_, rfl⟩
  suffices hj10 : own_Go p.tables e below (own_K s below (own_Q0 n0) 40 256) (T2.setTop (mkF m 69 #[.val (.int ua), .val (.int ub), .val (.int uc), .val (.ref ba), .val (.ref bb), .val (.int us2), .val (.int us3), .val (.int us2), .val (.int mv3), .unset, .unset, .unset, .unset, .unset, .unset, .unset, .unset, .unset, .unset, .unset] [(.int mv9), (.int ((1 : Int32) + mv6))])) by
    by_cases hc11 : mv3 = (0 : Int32)
    · refine own_by (B := T2.setTop (mkF m 64 #[.val (.int ua), .val (.int ub), .val (.int uc), .val (.ref ba), .val (.ref bb), .val (.int us2), .val (.int us3), .val (.int us2), .val (.int mv3), .unset, .unset, .unset, .unset, .unset, .unset, .unset, .unset, .unset, .unset, .unset] [(.int ((1 : Int32) + mv6))])) (fun _ k => XS.ifNo X2.here hx rfl (hb hby at_61) rfl (XT.i0_ne_f hc11) k) ?_
      refine own_by (B := T2.setTop (mkF m 65 #[.val (.int ua), .val (.int ub), .val (.int uc), .val (.ref ba), .val (.ref bb), .val (.int us2), .val (.int us3), .val (.int us2), .val (.int mv3), .unset, .unset, .unset, .unset, .unset, .unset, .unset, .unset, .unset, .unset, .unset] [(.int (1 : Int32)), (.int ((1 : Int32) + mv6))])) (fun _ k => XS.iconst X2.here hx rfl (hb hby at_64) k) ?_
      refine own_by (B := T2.setTop (mkF m 69 #[.val (.int ua), .val (.int ub), .val (.int uc), .val (.ref ba), .val (.ref bb), .val (.int us2), .val (.int us3), .val (.int us2), .val (.int mv3), .unset, .unset, .unset, .unset, .unset, .unset, .unset, .unset, .unset, .unset, .unset] [(.int (1 : Int32)), (.int ((1 : Int32) + mv6))])) (fun _ k => XS.goto X2.here hx rfl (pc0 := 65) (pc' := 69) rfl (hb hby at_65) (by decide) (by decide) k) ?_
      rw [show mv9 = (1 : Int32) from hmv9.trans (((if_pos hc11).trans rfl))] at hj10
      exact hj10
    · refine own_by (B := T2.setTop (mkF m 68 #[.val (.int ua), .val (.int ub), .val (.int uc), .val (.ref ba), .val (.ref bb), .val (.int us2), .val (.int us3), .val (.int us2), .val (.int mv3), .unset, .unset, .unset, .unset, .unset, .unset, .unset, .unset, .unset, .unset, .unset] [(.int ((1 : Int32) + mv6))])) (fun _ k => XS.ifYes X2.here hx rfl (pc0 := 61) (pc' := 68) rfl (hb hby at_61) rfl (XT.i0_ne_t hc11) (by decide) (by decide) k) ?_
      refine own_by (B := T2.setTop (mkF m 69 #[.val (.int ua), .val (.int ub), .val (.int uc), .val (.ref ba), .val (.ref bb), .val (.int us2), .val (.int us3), .val (.int us2), .val (.int mv3), .unset, .unset, .unset, .unset, .unset, .unset, .unset, .unset, .unset, .unset, .unset] [(.int (0 : Int32)), (.int ((1 : Int32) + mv6))])) (fun _ k => XS.iconst X2.here hx rfl (hb hby at_68) k) ?_
      rw [show mv9 = (0 : Int32) from hmv9.trans (((if_neg hc11).trans rfl))] at hj10
      exact hj10
  refine own_by (B := T2.setTop (mkF m 70 #[.val (.int ua), .val (.int ub), .val (.int uc), .val (.ref ba), .val (.ref bb), .val (.int us2), .val (.int us3), .val (.int us2), .val (.int mv3), .unset, .unset, .unset, .unset, .unset, .unset, .unset, .unset, .unset, .unset, .unset] [(.int (((1 : Int32) + mv6) + mv9))])) (fun _ k => XS.iadd X2.here hx rfl (hb hby at_69) rfl k) ?_
  obtain ⟨unA, hunA⟩ : ∃ z : Int32, z = (((1 : Int32) + mv6) + mv9) := ⟨_, rfl⟩
  rw [← hunA]
  refine own_by (B := T2.setTop (mkF m 72 #[.val (.int ua), .val (.int ub), .val (.int uc), .val (.ref ba), .val (.ref bb), .val (.int us2), .val (.int us3), .val (.int us2), .val (.int mv3), .val (.int unA), .unset, .unset, .unset, .unset, .unset, .unset, .unset, .unset, .unset, .unset] [])) (fun _ k => XS.istore X2.here hx rfl (hb hby at_70) rfl (l' := #[.val (.int ua), .val (.int ub), .val (.int uc), .val (.ref ba), .val (.ref bb), .val (.int us2), .val (.int us3), .val (.int us2), .val (.int mv3), .val (.int unA), .unset, .unset, .unset, .unset, .unset, .unset, .unset, .unset, .unset, .unset]) rfl k) ?_
  refine own_by (B := T2.setTop (mkF m 73 #[.val (.int ua), .val (.int ub), .val (.int uc), .val (.ref ba), .val (.ref bb), .val (.int us2), .val (.int us3), .val (.int us2), .val (.int mv3), .val (.int unA), .unset, .unset, .unset, .unset, .unset, .unset, .unset, .unset, .unset, .unset] [(.int (4 : Int32))])) (fun _ k => XS.iconst X2.here hx rfl (hb hby at_72) k) ?_
  refine own_by (B := T2.setTop (mkF m 75 #[.val (.int ua), .val (.int ub), .val (.int uc), .val (.ref ba), .val (.ref bb), .val (.int us2), .val (.int us3), .val (.int us2), .val (.int mv3), .val (.int unA), .unset, .unset, .unset, .unset, .unset, .unset, .unset, .unset, .unset, .unset] [(.int unA), (.int (4 : Int32))])) (fun _ k => XS.iload X2.here hx rfl (hb hby at_73) rfl  k) ?_
  refine own_by (B := T2.setTop (mkF m 76 #[.val (.int ua), .val (.int ub), .val (.int uc), .val (.ref ba), .val (.ref bb), .val (.int us2), .val (.int us3), .val (.int us2), .val (.int mv3), .val (.int unA), .unset, .unset, .unset, .unset, .unset, .unset, .unset, .unset, .unset, .unset] [(.int ((4 : Int32) - unA))])) (fun _ k => XS.isub X2.here hx rfl (hb hby at_75) rfl k) ?_
  obtain ⟨unB, hunB⟩ : ∃ z : Int32, z = ((4 : Int32) - unA) := ⟨_, rfl⟩
  rw [← hunB]
  refine own_by (B := T2.setTop (mkF m 78 #[.val (.int ua), .val (.int ub), .val (.int uc), .val (.ref ba), .val (.ref bb), .val (.int us2), .val (.int us3), .val (.int us2), .val (.int mv3), .val (.int unA), .val (.int unB), .unset, .unset, .unset, .unset, .unset, .unset, .unset, .unset, .unset] [])) (fun _ k => XS.istore X2.here hx rfl (hb hby at_76) rfl (l' := #[.val (.int ua), .val (.int ub), .val (.int uc), .val (.ref ba), .val (.ref bb), .val (.int us2), .val (.int us3), .val (.int us2), .val (.int mv3), .val (.int unA), .val (.int unB), .unset, .unset, .unset, .unset, .unset, .unset, .unset, .unset, .unset]) rfl k) ?_
  refine own_by (B := T2.setTop (mkF m 80 #[.val (.int ua), .val (.int ub), .val (.int uc), .val (.ref ba), .val (.ref bb), .val (.int us2), .val (.int us3), .val (.int us2), .val (.int mv3), .val (.int unA), .val (.int unB), .unset, .unset, .unset, .unset, .unset, .unset, .unset, .unset, .unset] [(.int unA)])) (fun _ k => XS.iload X2.here hx rfl (hb hby at_78) rfl  k) ?_
  refine own_by (B := T2.setTop (mkF m 81 #[.val (.int ua), .val (.int ub), .val (.int uc), .val (.ref ba), .val (.ref bb), .val (.int us2), .val (.int us3), .val (.int us2), .val (.int mv3), .val (.int unA), .val (.int unB), .unset, .unset, .unset, .unset, .unset, .unset, .unset, .unset, .unset] [(.ref ba), (.int unA)])) (fun _ k => XS.aloadN X2.here hx rfl (hb hby at_80) rfl rfl  k) ?_
  have c12 := (VC1.keep KC2 nin0)
  obtain ⟨cl13, Ar13, qq13, Sz13, Nn13, Hh13, Gg13⟩ := id (c12.1)
  refine own_by (B := T2.setTop (mkF m 82 #[.val (.int ua), .val (.int ub), .val (.int uc), .val (.ref ba), .val (.ref bb), .val (.int us2), .val (.int us3), .val (.int us2), .val (.int mv3), .val (.int unA), .val (.int unB), .unset, .unset, .unset, .unset, .unset, .unset, .unset, .unset, .unset] [(.int (Int32.ofNat La.length)), (.int unA)])) (fun t k => X2.arraylength hx (by rw [e2]; exact Ar13.1) (State.isArrayOf_alike hZ.alike Ar13.2.1) (g := (mkF m 81 #[.val (.int ua), .val (.int ub), .val (.int uc), .val (.ref ba), .val (.ref bb), .val (.int us2), .val (.int us3), .val (.int us2), .val (.int mv3), .val (.int unA), .val (.int unB), .unset, .unset, .unset, .unset, .unset, .unset, .unset, .unset, .unset] [(.ref ba), (.int unA)])) rfl rfl (hb hby at_81) t (by rw [len_of Sz13 Nn13]; exact k)) ?_
  obtain ⟨mv14, hmv14⟩ : ∃ z : Int32, z = if (Int32.ofNat La.length) < unA then (0 : Int32) else if (Int32.ofNat Lb.length) < unB then (0 : Int32) else (1 : Int32) := ⟨_, rfl⟩
  suffices hj15 : own_Go p.tables e below (own_K s below (own_Q0 n0) 40 256) (T2.setTop (mkF m 98 #[.val (.int ua), .val (.int ub), .val (.int uc), .val (.ref ba), .val (.ref bb), .val (.int us2), .val (.int us3), .val (.int us2), .val (.int mv3), .val (.int unA), .val (.int unB), .unset, .unset, .unset, .unset, .unset, .unset, .unset, .unset, .unset] [(.int mv14)])) by
    by_cases hc16 : (Int32.ofNat La.length) < unA
    · refine own_by (B := T2.setTop (mkF m 97 #[.val (.int ua), .val (.int ub), .val (.int uc), .val (.ref ba), .val (.ref bb), .val (.int us2), .val (.int us3), .val (.int us2), .val (.int mv3), .val (.int unA), .val (.int unB), .unset, .unset, .unset, .unset, .unset, .unset, .unset, .unset, .unset] [])) (fun _ k => XS.icmpYes X2.here hx rfl (pc0 := 82) (pc' := 97) rfl (hb hby at_82) rfl (XT.ii_gt_t hc16) (by decide) (by decide) k) ?_
      refine own_by (B := T2.setTop (mkF m 98 #[.val (.int ua), .val (.int ub), .val (.int uc), .val (.ref ba), .val (.ref bb), .val (.int us2), .val (.int us3), .val (.int us2), .val (.int mv3), .val (.int unA), .val (.int unB), .unset, .unset, .unset, .unset, .unset, .unset, .unset, .unset, .unset] [(.int (0 : Int32))])) (fun _ k => XS.iconst X2.here hx rfl (hb hby at_97) k) ?_
      rw [show mv14 = (0 : Int32) from hmv14.trans (((if_pos hc16).trans rfl))] at hj15
      exact hj15
    · refine own_by (B := T2.setTop (mkF m 85 #[.val (.int ua), .val (.int ub), .val (.int uc), .val (.ref ba), .val (.ref bb), .val (.int us2), .val (.int us3), .val (.int us2), .val (.int mv3), .val (.int unA), .val (.int unB), .unset, .unset, .unset, .unset, .unset, .unset, .unset, .unset, .unset] [])) (fun _ k => XS.icmpNo X2.here hx rfl (hb hby at_82) rfl (XT.ii_gt_f hc16) k) ?_
      refine own_by (B := T2.setTop (mkF m 87 #[.val (.int ua), .val (.int ub), .val (.int uc), .val (.ref ba), .val (.ref bb), .val (.int us2), .val (.int us3), .val (.int us2), .val (.int mv3), .val (.int unA), .val (.int unB), .unset, .unset, .unset, .unset, .unset, .unset, .unset, .unset, .unset] [(.int unB)])) (fun _ k => XS.iload X2.here hx rfl (hb hby at_85) rfl  k) ?_
      refine own_by (B := T2.setTop (mkF m 89 #[.val (.int ua), .val (.int ub), .val (.int uc), .val (.ref ba), .val (.ref bb), .val (.int us2), .val (.int us3), .val (.int us2), .val (.int mv3), .val (.int unA), .val (.int unB), .unset, .unset, .unset, .unset, .unset, .unset, .unset, .unset, .unset] [(.ref bb), (.int unB)])) (fun _ k => XS.aload X2.here hx rfl (hb hby at_87) rfl rfl  k) ?_
      obtain ⟨cl17, Ar17, qq17, Sz17, Nn17, Hh17, Gg17⟩ := id (VC2.1)
      refine own_by (B := T2.setTop (mkF m 90 #[.val (.int ua), .val (.int ub), .val (.int uc), .val (.ref ba), .val (.ref bb), .val (.int us2), .val (.int us3), .val (.int us2), .val (.int mv3), .val (.int unA), .val (.int unB), .unset, .unset, .unset, .unset, .unset, .unset, .unset, .unset, .unset] [(.int (Int32.ofNat Lb.length)), (.int unB)])) (fun t k => X2.arraylength hx (by rw [e2]; exact Ar17.1) (State.isArrayOf_alike hZ.alike Ar17.2.1) (g := (mkF m 89 #[.val (.int ua), .val (.int ub), .val (.int uc), .val (.ref ba), .val (.ref bb), .val (.int us2), .val (.int us3), .val (.int us2), .val (.int mv3), .val (.int unA), .val (.int unB), .unset, .unset, .unset, .unset, .unset, .unset, .unset, .unset, .unset] [(.ref bb), (.int unB)])) rfl rfl (hb hby at_89) t (by rw [len_of Sz17 Nn17]; exact k)) ?_
      by_cases hc18 : (Int32.ofNat Lb.length) < unB
      · refine own_by (B := T2.setTop (mkF m 97 #[.val (.int ua), .val (.int ub), .val (.int uc), .val (.ref ba), .val (.ref bb), .val (.int us2), .val (.int us3), .val (.int us2), .val (.int mv3), .val (.int unA), .val (.int unB), .unset, .unset, .unset, .unset, .unset, .unset, .unset, .unset, .unset] [])) (fun _ k => XS.icmpYes X2.here hx rfl (pc0 := 90) (pc' := 97) rfl (hb hby at_90) rfl (XT.ii_gt_t hc18) (by decide) (by decide) k) ?_
        refine own_by (B := T2.setTop (mkF m 98 #[.val (.int ua), .val (.int ub), .val (.int uc), .val (.ref ba), .val (.ref bb), .val (.int us2), .val (.int us3), .val (.int us2), .val (.int mv3), .val (.int unA), .val (.int unB), .unset, .unset, .unset, .unset, .unset, .unset, .unset, .unset, .unset] [(.int (0 : Int32))])) (fun _ k => XS.iconst X2.here hx rfl (hb hby at_97) k) ?_
        rw [show mv14 = (0 : Int32) from hmv14.trans (((if_neg hc16).trans  ((if_pos hc18).trans rfl)))] at hj15
        exact hj15
      · refine own_by (B := T2.setTop (mkF m 93 #[.val (.int ua), .val (.int ub), .val (.int uc), .val (.ref ba), .val (.ref bb), .val (.int us2), .val (.int us3), .val (.int us2), .val (.int mv3), .val (.int unA), .val (.int unB), .unset, .unset, .unset, .unset, .unset, .unset, .unset, .unset, .unset] [])) (fun _ k => XS.icmpNo X2.here hx rfl (hb hby at_90) rfl (XT.ii_gt_f hc18) k) ?_
        refine own_by (B := T2.setTop (mkF m 94 #[.val (.int ua), .val (.int ub), .val (.int uc), .val (.ref ba), .val (.ref bb), .val (.int us2), .val (.int us3), .val (.int us2), .val (.int mv3), .val (.int unA), .val (.int unB), .unset, .unset, .unset, .unset, .unset, .unset, .unset, .unset, .unset] [(.int (1 : Int32))])) (fun _ k => XS.iconst X2.here hx rfl (hb hby at_93) k) ?_
        refine own_by (B := T2.setTop (mkF m 98 #[.val (.int ua), .val (.int ub), .val (.int uc), .val (.ref ba), .val (.ref bb), .val (.int us2), .val (.int us3), .val (.int us2), .val (.int mv3), .val (.int unA), .val (.int unB), .unset, .unset, .unset, .unset, .unset, .unset, .unset, .unset, .unset] [(.int (1 : Int32))])) (fun _ k => XS.goto X2.here hx rfl (pc0 := 94) (pc' := 98) rfl (hb hby at_94) (by decide) (by decide) k) ?_
        rw [show mv14 = (1 : Int32) from hmv14.trans (((if_neg hc16).trans  ((if_neg hc18).trans rfl)))] at hj15
        exact hj15
  refine own_by (B := T2.setTop (mkF m 100 #[.val (.int ua), .val (.int ub), .val (.int uc), .val (.ref ba), .val (.ref bb), .val (.int us2), .val (.int us3), .val (.int us2), .val (.int mv3), .val (.int unA), .val (.int unB), .val (.int mv14), .unset, .unset, .unset, .unset, .unset, .unset, .unset, .unset] [])) (fun _ k => XS.istore X2.here hx rfl (hb hby at_98) rfl (l' := #[.val (.int ua), .val (.int ub), .val (.int uc), .val (.ref ba), .val (.ref bb), .val (.int us2), .val (.int us3), .val (.int us2), .val (.int mv3), .val (.int unA), .val (.int unB), .val (.int mv14), .unset, .unset, .unset, .unset, .unset, .unset, .unset, .unset]) rfl k) ?_
  obtain ⟨T19, h19, X19, e19, E19, A19, D19, -, st19⟩ := newO X2 hx hZ hown (hw _ (List.mem_of_getElem? (i := 5) rfl)) (hw _ (List.mem_of_getElem? (i := 6) rfl)) (hw _ (List.mem_of_getElem? (i := 7) rfl)) e2 (g := (mkF m 100 #[.val (.int ua), .val (.int ub), .val (.int uc), .val (.ref ba), .val (.ref bb), .val (.int us2), .val (.int us3), .val (.int us2), .val (.int mv3), .val (.int unA), .val (.int unB), .val (.int mv14), .unset, .unset, .unset, .unset, .unset, .unset, .unset, .unset] [])) rfl (hb hby at_100) (by decide) (by decide)
  obtain ⟨b19, g19⟩ : ∃ z, z = h2.size := ⟨_, rfl⟩
  rw [← g19] at A19 D19 st19
  have sz19 := E19.1
  have gn19 : n0 ≤ b19 := g19 ▸ own_old_le O2
  have fz19 : h0.size ≤ b19 := g19 ▸ K2.1
  have lt19 := own_lt A19.lt
  have O19 := O2.ext E19
  have K19 := K2.ext E19
  have F19_fits : Fld Z h19 b19 "com/example/document_pattern_rules/documentpatternrules/pattern/Pairing" "fits" "[[I" .null := D19 (Or.inr (hw _ (List.mem_of_getElem? (i := 17) rfl))) (ty := (.array (.array .int))) (by decide)
  have F19_kind : Fld Z h19 b19 "com/example/document_pattern_rules/documentpatternrules/pattern/Pairing" "kind" "[I" .null := D19 (Or.inr (hw _ (List.mem_of_getElem? (i := 19) rfl))) (ty := (.array .int)) (by decide)
  have F19_partner : Fld Z h19 b19 "com/example/document_pattern_rules/documentpatternrules/pattern/Pairing" "partner" "[I" .null := D19 (Or.inr (hw _ (List.mem_of_getElem? (i := 21) rfl))) (ty := (.array .int)) (by decide)
  have F19_holder : Fld Z h19 b19 "com/example/document_pattern_rules/documentpatternrules/pattern/Pairing" "holder" "[I" .null := D19 (Or.inr (hw _ (List.mem_of_getElem? (i := 23) rfl))) (ty := (.array .int)) (by decide)
  have F19_fixed : Fld Z h19 b19 "com/example/document_pattern_rules/documentpatternrules/pattern/Pairing" "fixed" "[Z" .null := D19 (Or.inr (hw _ (List.mem_of_getElem? (i := 26) rfl))) (ty := (.array .boolean)) (by decide)
  have F19_visited : Fld Z h19 b19 "com/example/document_pattern_rules/documentpatternrules/pattern/Pairing" "visited" "[J" .null := D19 (Or.inr (hw _ (List.mem_of_getElem? (i := 29) rfl))) (ty := (.array .long)) (by decide)
  have F19_path : Fld Z h19 b19 "com/example/document_pattern_rules/documentpatternrules/pattern/Pairing" "path" "[I" .null := D19 (Or.inr (hw _ (List.mem_of_getElem? (i := 31) rfl))) (ty := (.array .int)) (by decide)
  have F19_via : Fld Z h19 b19 "com/example/document_pattern_rules/documentpatternrules/pattern/Pairing" "via" "[I" .null := D19 (Or.inr (hw _ (List.mem_of_getElem? (i := 33) rfl))) (ty := (.array .int)) (by decide)
  have F19_ownFrom : Fld Z h19 b19 "com/example/document_pattern_rules/documentpatternrules/pattern/Pairing" "ownFrom" "[I" .null := D19 (Or.inr (hw _ (List.mem_of_getElem? (i := 35) rfl))) (ty := (.array .int)) (by decide)
  have F19_scanned : Fld Z h19 b19 "com/example/document_pattern_rules/documentpatternrules/pattern/Pairing" "scanned" "[J" .null := D19 (Or.inr (hw _ (List.mem_of_getElem? (i := 37) rfl))) (ty := (.array .long)) (by decide)
  have F19_next : Fld Z h19 b19 "com/example/document_pattern_rules/documentpatternrules/pattern/Pairing" "next" "[I" .null := D19 (Or.inr (hw _ (List.mem_of_getElem? (i := 39) rfl))) (ty := (.array .int)) (by decide)
  have F19_fixedFrom : Fld Z h19 b19 "com/example/document_pattern_rules/documentpatternrules/pattern/Pairing" "fixedFrom" "[I" .null := D19 (Or.inr (hw _ (List.mem_of_getElem? (i := 41) rfl))) (ty := (.array .int)) (by decide)
  have F19_rows : Fld Z h19 b19 "com/example/document_pattern_rules/documentpatternrules/pattern/Pairing" "rows" "I" (.int (0 : Int32)) := D19 (Or.inl (hw _ (List.mem_of_getElem? (i := 52) rfl))) (ty := .int) (by decide)
  have F19_searches : Fld Z h19 b19 "com/example/document_pattern_rules/documentpatternrules/pattern/Pairing" "searches" "J" (.long (0 : Int64)) := D19 (Or.inl (hw _ (List.mem_of_getElem? (i := 65) rfl))) (ty := .long) (by decide)
  refine own_by (B := T19.setTop (mkF m 103 #[.val (.int ua), .val (.int ub), .val (.int uc), .val (.ref ba), .val (.ref bb), .val (.int us2), .val (.int us3), .val (.int us2), .val (.int mv3), .val (.int unA), .val (.int unB), .val (.int mv14), .unset, .unset, .unset, .unset, .unset, .unset, .unset, .unset] [(.ref b19)])) st19 ?_
  refine own_by (B := T19.setTop (mkF m 104 #[.val (.int ua), .val (.int ub), .val (.int uc), .val (.ref ba), .val (.ref bb), .val (.int us2), .val (.int us3), .val (.int us2), .val (.int mv3), .val (.int unA), .val (.int unB), .val (.int mv14), .unset, .unset, .unset, .unset, .unset, .unset, .unset, .unset] [(.ref b19), (.ref b19)])) (fun _ k => XS.dup X19.here hx rfl (hb hby at_103) rfl rfl k) ?_
  refine own_by (B := T19.setTop (mkF m 105 #[.val (.int ua), .val (.int ub), .val (.int uc), .val (.ref ba), .val (.ref bb), .val (.int us2), .val (.int us3), .val (.int us2), .val (.int mv3), .val (.int unA), .val (.int unB), .val (.int mv14), .unset, .unset, .unset, .unset, .unset, .unset, .unset, .unset] [(.int (4 : Int32)), (.ref b19), (.ref b19)])) (fun _ k => XS.iconst X19.here hx rfl (hb hby at_104) k) ?_
  refine own_by (B := T19.setTop (mkF m 107 #[.val (.int ua), .val (.int ub), .val (.int uc), .val (.ref ba), .val (.ref bb), .val (.int us2), .val (.int us3), .val (.int us2), .val (.int mv3), .val (.int unA), .val (.int unB), .val (.int mv14), .unset, .unset, .unset, .unset, .unset, .unset, .unset, .unset] [(.int (12 : Int32)), (.int (4 : Int32)), (.ref b19), (.ref b19)])) (fun _ k => XS.bipush X19.here hx rfl (hb hby at_105) k) ?_
  have c20 := (c12.ext E19)
  have c21 := (VC2.ext E19)
  have c22 := ((EC1.keep KC2).ext E19)
  have c23 := (EC2.ext E19)
  have lab : ba < b19 ∧ bb < b19 := by omega
  have cc : ∀ i L, ([La, Lb] : List (List Int32))[i]? = some L → own_IA Z h19 (own_two ba bb i) (own_two kka kkb i) .int (Int32.ofNat L.length) L ∧ Exa Z h19 (own_two ba bb i) "[I" ∧ own_two ba bb i < b19 := own_cc (P := fun i L => own_IA Z h19 (own_two ba bb i) (own_two kka kkb i) .int (Int32.ofNat L.length) L ∧ Exa Z h19 (own_two ba bb i) "[I" ∧ own_two ba bb i < b19) ⟨c20, c22, lab.1⟩ ⟨c21, c23, lab.2⟩
  obtain ⟨_, _, ⟨T24, L24, k24, n24⟩, -, X24, ⟨Lc24, hQ24, l24, y24, z24⟩, st24⟩ := X19.specialBack hx (y := (⟨"com/example/document_pattern_rules/documentpatternrules/pattern/Pairing", "<init>", "(II)V"⟩ : MethodName)) rfl hown (mvT hZ (hw _ (List.mem_of_getElem? (i := 8) rfl))) (mvT hZ (hw _ (List.mem_of_getElem? (i := 9) rfl))) (mvT hZ (hw _ (List.mem_of_getElem? (i := 10) rfl))) (by decide) (backOf (W := 1) (rmCt l Z a0 hw [] b19 (own_two ba bb) (own_two kka kkb) [La, Lb] h19 n0 (own_old_le O19) O19 A19 F19_fits F19_kind F19_partner F19_holder F19_fixed F19_visited F19_path F19_via F19_ownFrom F19_scanned F19_next F19_fixedFrom F19_searches F19_rows gn19 cc) hZ (hw _ (List.mem_of_getElem? (i := 10) rfl)) (hw _ (List.mem_of_getElem? (i := 7) rfl)) (by decide) (by decide)) (g := (mkF m 107 #[.val (.int ua), .val (.int ub), .val (.int uc), .val (.ref ba), .val (.ref bb), .val (.int us2), .val (.int us3), .val (.int us2), .val (.int mv3), .val (.int unA), .val (.int unB), .val (.int mv14), .unset, .unset, .unset, .unset, .unset, .unset, .unset, .unset] [(.int (12 : Int32)), (.int (4 : Int32)), (.ref b19), (.ref b19)])) rfl (by rw [hml]; rfl) (Steps.refl _) (a := b19) (argsL := [(.int (4 : Int32)), (.int (12 : Int32))]) (rest := [(.ref b19)]) (lenOf pd_0__II_V rfl) rfl (by show 2 * 0 + _ ≤ _; exact Nat.le_of_eq rfl) (hb hby at_107) (fun _ _ => ⟨rfl, e19, (by decide : 3 + 12 ≤ _), (by decide : 20 + 64 ≤ _)⟩)
  dsimp only [Pt.U, Pt.locs, Pt.cells, Pt.slots] at X24 l24 y24 z24 st24 hQ24
  subst l24 y24 z24
  obtain ⟨A, K, rfl, NC24, hA, PC24⟩ := hQ24
  subst hA
  obtain ⟨h24, e24⟩ : ∃ z, T24.heap = z := ⟨_, rfl⟩
  rw [e24] at PC24
  have N24 := Fr.app N2 NC24
  refine own_by (B := T24.setTop (mkF m 110 #[.val (.int ua), .val (.int ub), .val (.int uc), .val (.ref ba), .val (.ref bb), .val (.int us2), .val (.int us3), .val (.int us2), .val (.int mv3), .val (.int unA), .val (.int unB), .val (.int mv14), .unset, .unset, .unset, .unset, .unset, .unset, .unset, .unset] [(.ref (A 0))])) (fun _ k => st24.trans k) ?_
  refine own_by (B := T24.setTop (mkF m 112 #[.val (.int ua), .val (.int ub), .val (.int uc), .val (.ref ba), .val (.ref bb), .val (.int us2), .val (.int us3), .val (.int us2), .val (.int mv3), .val (.int unA), .val (.int unB), .val (.int mv14), .val (.ref (A 0)), .unset, .unset, .unset, .unset, .unset, .unset, .unset] [])) (fun _ k => XS.astore X24.here hx rfl (hb hby at_110) rfl rfl (l' := #[.val (.int ua), .val (.int ub), .val (.int uc), .val (.ref ba), .val (.ref bb), .val (.int us2), .val (.int us3), .val (.int us2), .val (.int mv3), .val (.int unA), .val (.int unB), .val (.int mv14), .val (.ref (A 0)), .unset, .unset, .unset, .unset, .unset, .unset, .unset]) rfl k) ?_
  have hF : own_law112 [La, Lb] La Lb us2 us3 us2 mv3 unA unB mv14 = some (1 : Int32) := own_fin hLa hLb hus2 hus3 hmv3 hmv6 hmv9 hunA hunB hmv14
  unfold own_law112 at hF
  refine own_by (B := T24.setTop (mkF m 114 #[.val (.int ua), .val (.int ub), .val (.int uc), .val (.ref ba), .val (.ref bb), .val (.int us2), .val (.int us3), .val (.int us2), .val (.int mv3), .val (.int unA), .val (.int unB), .val (.int mv14), .val (.ref (A 0)), .unset, .unset, .unset, .unset, .unset, .unset, .unset] [(.ref (A 0))])) (fun _ k => XS.aload X24.here hx rfl (hb hby at_112) rfl rfl  k) ?_
  refine own_by (B := T24.setTop (mkF m 115 #[.val (.int ua), .val (.int ub), .val (.int uc), .val (.ref ba), .val (.ref bb), .val (.int us2), .val (.int us3), .val (.int us2), .val (.int mv3), .val (.int unA), .val (.int unB), .val (.int mv14), .val (.ref (A 0)), .unset, .unset, .unset, .unset, .unset, .unset, .unset] [(.ref ba), (.ref (A 0))])) (fun _ k => XS.aloadN X24.here hx rfl (hb hby at_114) rfl rfl  k) ?_
  obtain ⟨q125, hq125, hF⟩ := own_bind hF
  obtain ⟨cq126, kq126, qa126, qb126, qc126⟩ := isOf hZ e24 (own_PS_E PC24)
  obtain ⟨_, _, ⟨T126, L126, k126, n126⟩, -, X126, ⟨Lc126, hQ126, l126, y126, z126⟩, st126⟩ := X24.virtualBack hx (y := (⟨"com/example/document_pattern_rules/documentpatternrules/pattern/Pairing", "add", "([I)V"⟩ : MethodName)) (z := (⟨"com/example/document_pattern_rules/documentpatternrules/pattern/Pairing", "add", "([I)V"⟩ : MethodName)) hown (mvT hZ (hw _ (List.mem_of_getElem? (i := 46) rfl))) (mvT hZ (hw _ (List.mem_of_getElem? (i := 47) rfl))) (notFace_of_selects (args := #[]) (mvT hZ (hw _ (List.mem_of_getElem? (i := 49) rfl)))) (mvT hZ (hw _ (List.mem_of_getElem? (i := 49) rfl))) (mvT hZ (hw _ (List.mem_of_getElem? (i := 48) rfl))) (by decide) (backOf (W := 0) (rm_add l Z a0 hw [] A K (4 : Int32) (12 : Int32) (own_two ba bb) (own_two kka kkb) [La, Lb] own_u0 _ 0 _ h24 n0 (Nat.le_trans (own_PS_gn PC24).1 (Nat.le_of_lt (own_PS_E PC24).lt)) PC24 hq125 rfl) hZ (hw _ (List.mem_of_getElem? (i := 50) rfl)) (hw _ (List.mem_of_getElem? (i := 7) rfl)) (by decide) (by decide)) qa126 qc126 (g := (mkF m 115 #[.val (.int ua), .val (.int ub), .val (.int uc), .val (.ref ba), .val (.ref bb), .val (.int us2), .val (.int us3), .val (.int us2), .val (.int mv3), .val (.int unA), .val (.int unB), .val (.int mv14), .val (.ref (A 0)), .unset, .unset, .unset, .unset, .unset, .unset, .unset] [(.ref ba), (.ref (A 0))])) rfl (by rw [hml]; rfl) (Steps.refl _) (argsL := [(.ref ba)]) (rest := []) (lenOf pd_0___I_V rfl) rfl (by show 2 * 0 + _ ≤ _; exact Nat.le_of_eq rfl) (hb hby at_115) (fun _ _ => ⟨rfl, e24, (by decide : 15 + 0 ≤ _), (by decide : 84 + 0 ≤ _)⟩)
  dsimp only [Pt.U, Pt.locs, Pt.cells, Pt.slots] at X126 l126 y126 z126 st126 hQ126
  subst l126 y126 z126
  obtain ⟨rfl, NC126, PC126⟩ := hQ126
  refine own_by (B := T126.setTop (mkF m 118 #[.val (.int ua), .val (.int ub), .val (.int uc), .val (.ref ba), .val (.ref bb), .val (.int us2), .val (.int us3), .val (.int us2), .val (.int mv3), .val (.int unA), .val (.int unB), .val (.int mv14), .val (.ref (A 0)), .unset, .unset, .unset, .unset, .unset, .unset, .unset] [])) (fun _ k => st126.trans k) ?_
  obtain ⟨h126, e126⟩ : ∃ z, T126.heap = z := ⟨_, rfl⟩
  rw [e126] at PC126
  have N126 := Fr.app N24 NC126
  refine own_by (B := T126.setTop (mkF m 120 #[.val (.int ua), .val (.int ub), .val (.int uc), .val (.ref ba), .val (.ref bb), .val (.int us2), .val (.int us3), .val (.int us2), .val (.int mv3), .val (.int unA), .val (.int unB), .val (.int mv14), .val (.ref (A 0)), .unset, .unset, .unset, .unset, .unset, .unset, .unset] [(.ref (A 0))])) (fun _ k => XS.aload X126.here hx rfl (hb hby at_118) rfl rfl  k) ?_
  refine own_by (B := T126.setTop (mkF m 122 #[.val (.int ua), .val (.int ub), .val (.int uc), .val (.ref ba), .val (.ref bb), .val (.int us2), .val (.int us3), .val (.int us2), .val (.int mv3), .val (.int unA), .val (.int unB), .val (.int mv14), .val (.ref (A 0)), .unset, .unset, .unset, .unset, .unset, .unset, .unset] [(.ref bb), (.ref (A 0))])) (fun _ k => XS.aload X126.here hx rfl (hb hby at_120) rfl rfl  k) ?_
  obtain ⟨q127, hq127, hF⟩ := own_bind hF
  obtain ⟨cq128, kq128, qa128, qb128, qc128⟩ := isOf hZ e126 (own_PS_E PC126)
  obtain ⟨_, _, ⟨T128, L128, k128, n128⟩, -, X128, ⟨Lc128, hQ128, l128, y128, z128⟩, st128⟩ := X126.virtualBack hx (y := (⟨"com/example/document_pattern_rules/documentpatternrules/pattern/Pairing", "add", "([I)V"⟩ : MethodName)) (z := (⟨"com/example/document_pattern_rules/documentpatternrules/pattern/Pairing", "add", "([I)V"⟩ : MethodName)) hown (mvT hZ (hw _ (List.mem_of_getElem? (i := 46) rfl))) (mvT hZ (hw _ (List.mem_of_getElem? (i := 47) rfl))) (notFace_of_selects (args := #[]) (mvT hZ (hw _ (List.mem_of_getElem? (i := 49) rfl)))) (mvT hZ (hw _ (List.mem_of_getElem? (i := 49) rfl))) (mvT hZ (hw _ (List.mem_of_getElem? (i := 48) rfl))) (by decide) (backOf (W := 0) (rm_add l Z a0 hw [] A K (4 : Int32) (12 : Int32) (own_two ba bb) (own_two kka kkb) [La, Lb] q125 _ 1 _ h126 n0 (Nat.le_trans (own_PS_gn PC126).1 (Nat.le_of_lt (own_PS_E PC126).lt)) PC126 hq127 rfl) hZ (hw _ (List.mem_of_getElem? (i := 50) rfl)) (hw _ (List.mem_of_getElem? (i := 7) rfl)) (by decide) (by decide)) qa128 qc128 (g := (mkF m 122 #[.val (.int ua), .val (.int ub), .val (.int uc), .val (.ref ba), .val (.ref bb), .val (.int us2), .val (.int us3), .val (.int us2), .val (.int mv3), .val (.int unA), .val (.int unB), .val (.int mv14), .val (.ref (A 0)), .unset, .unset, .unset, .unset, .unset, .unset, .unset] [(.ref bb), (.ref (A 0))])) rfl (by rw [hml]; rfl) (Steps.refl _) (argsL := [(.ref bb)]) (rest := []) (lenOf pd_0___I_V rfl) rfl (by show 2 * 0 + _ ≤ _; exact Nat.le_of_eq rfl) (hb hby at_122) (fun _ _ => ⟨rfl, e126, (by decide : 15 + 0 ≤ _), (by decide : 84 + 0 ≤ _)⟩)
  dsimp only [Pt.U, Pt.locs, Pt.cells, Pt.slots] at X128 l128 y128 z128 st128 hQ128
  subst l128 y128 z128
  obtain ⟨rfl, NC128, PC128⟩ := hQ128
  refine own_by (B := T128.setTop (mkF m 125 #[.val (.int ua), .val (.int ub), .val (.int uc), .val (.ref ba), .val (.ref bb), .val (.int us2), .val (.int us3), .val (.int us2), .val (.int mv3), .val (.int unA), .val (.int unB), .val (.int mv14), .val (.ref (A 0)), .unset, .unset, .unset, .unset, .unset, .unset, .unset] [])) (fun _ k => st128.trans k) ?_
  obtain ⟨h128, e128⟩ : ∃ z, T128.heap = z := ⟨_, rfl⟩
  rw [e128] at PC128
  have N128 := Fr.app N126 NC128
  refine own_by (B := T128.setTop (mkF m 127 #[.val (.int ua), .val (.int ub), .val (.int uc), .val (.ref ba), .val (.ref bb), .val (.int us2), .val (.int us3), .val (.int us2), .val (.int mv3), .val (.int unA), .val (.int unB), .val (.int mv14), .val (.ref (A 0)), .unset, .unset, .unset, .unset, .unset, .unset, .unset] [(.ref (A 0))])) (fun _ k => XS.aload X128.here hx rfl (hb hby at_125) rfl rfl  k) ?_
  refine own_by (B := T128.setTop (mkF m 129 #[.val (.int ua), .val (.int ub), .val (.int uc), .val (.ref ba), .val (.ref bb), .val (.int us2), .val (.int us3), .val (.int us2), .val (.int mv3), .val (.int unA), .val (.int unB), .val (.int mv14), .val (.ref (A 0)), .unset, .unset, .unset, .unset, .unset, .unset, .unset] [(.int us2), (.ref (A 0))])) (fun _ k => XS.iload X128.here hx rfl (hb hby at_127) rfl  k) ?_
  obtain ⟨q129, hq129, hF⟩ := own_bind hF
  obtain ⟨cq130, kq130, qa130, qb130, qc130⟩ := isOf hZ e128 (own_PS_E PC128)
  obtain ⟨_, _, ⟨T130, L130, k130, n130⟩, -, X130, ⟨Lc130, hQ130, l130, y130, z130⟩, st130⟩ := X128.virtualBack hx (y := (⟨"com/example/document_pattern_rules/documentpatternrules/pattern/Pairing", "addAlike", "(I)V"⟩ : MethodName)) (z := (⟨"com/example/document_pattern_rules/documentpatternrules/pattern/Pairing", "addAlike", "(I)V"⟩ : MethodName)) hown (mvT hZ (hw _ (List.mem_of_getElem? (i := 54) rfl))) (mvT hZ (hw _ (List.mem_of_getElem? (i := 55) rfl))) (notFace_of_selects (args := #[]) (mvT hZ (hw _ (List.mem_of_getElem? (i := 57) rfl)))) (mvT hZ (hw _ (List.mem_of_getElem? (i := 57) rfl))) (mvT hZ (hw _ (List.mem_of_getElem? (i := 56) rfl))) (by decide) (backOf (W := 0) (rm_addAlike l Z a0 hw [] A K (4 : Int32) (12 : Int32) (own_two ba bb) (own_two kka kkb) [La, Lb] q127 _ us2 h128 n0 (Nat.le_trans (own_PS_gn PC128).1 (Nat.le_of_lt (own_PS_E PC128).lt)) PC128 hq129) hZ (hw _ (List.mem_of_getElem? (i := 58) rfl)) (hw _ (List.mem_of_getElem? (i := 7) rfl)) (by decide) (by decide)) qa130 qc130 (g := (mkF m 129 #[.val (.int ua), .val (.int ub), .val (.int uc), .val (.ref ba), .val (.ref bb), .val (.int us2), .val (.int us3), .val (.int us2), .val (.int mv3), .val (.int unA), .val (.int unB), .val (.int mv14), .val (.ref (A 0)), .unset, .unset, .unset, .unset, .unset, .unset, .unset] [(.int us2), (.ref (A 0))])) rfl (by rw [hml]; rfl) (Steps.refl _) (argsL := [(.int us2)]) (rest := []) (lenOf pd_0__I_V rfl) rfl (by show 2 * 0 + _ ≤ _; exact Nat.le_of_eq rfl) (hb hby at_129) (fun _ _ => ⟨rfl, e128, (by decide : 15 + 0 ≤ _), (by decide : 84 + 0 ≤ _)⟩)
  dsimp only [Pt.U, Pt.locs, Pt.cells, Pt.slots] at X130 l130 y130 z130 st130 hQ130
  subst l130 y130 z130
  obtain ⟨rfl, NC130, PC130⟩ := hQ130
  refine own_by (B := T130.setTop (mkF m 132 #[.val (.int ua), .val (.int ub), .val (.int uc), .val (.ref ba), .val (.ref bb), .val (.int us2), .val (.int us3), .val (.int us2), .val (.int mv3), .val (.int unA), .val (.int unB), .val (.int mv14), .val (.ref (A 0)), .unset, .unset, .unset, .unset, .unset, .unset, .unset] [])) (fun _ k => st130.trans k) ?_
  obtain ⟨h130, e130⟩ : ∃ z, T130.heap = z := ⟨_, rfl⟩
  rw [e130] at PC130
  have N130 := Fr.app N128 NC130
  refine own_by (B := T130.setTop (mkF m 134 #[.val (.int ua), .val (.int ub), .val (.int uc), .val (.ref ba), .val (.ref bb), .val (.int us2), .val (.int us3), .val (.int us2), .val (.int mv3), .val (.int unA), .val (.int unB), .val (.int mv14), .val (.ref (A 0)), .unset, .unset, .unset, .unset, .unset, .unset, .unset] [(.ref (A 0))])) (fun _ k => XS.aload X130.here hx rfl (hb hby at_132) rfl rfl  k) ?_
  refine own_by (B := T130.setTop (mkF m 136 #[.val (.int ua), .val (.int ub), .val (.int uc), .val (.ref ba), .val (.ref bb), .val (.int us2), .val (.int us3), .val (.int us2), .val (.int mv3), .val (.int unA), .val (.int unB), .val (.int mv14), .val (.ref (A 0)), .unset, .unset, .unset, .unset, .unset, .unset, .unset] [(.int us3), (.ref (A 0))])) (fun _ k => XS.iload X130.here hx rfl (hb hby at_134) rfl  k) ?_
  obtain ⟨q131, hq131, hF⟩ := own_bind hF
  obtain ⟨cq132, kq132, qa132, qb132, qc132⟩ := isOf hZ e130 (own_PS_E PC130)
  obtain ⟨_, _, ⟨T132, L132, k132, n132⟩, -, X132, ⟨Lc132, hQ132, l132, y132, z132⟩, st132⟩ := X130.virtualBack hx (y := (⟨"com/example/document_pattern_rules/documentpatternrules/pattern/Pairing", "addAlike", "(I)V"⟩ : MethodName)) (z := (⟨"com/example/document_pattern_rules/documentpatternrules/pattern/Pairing", "addAlike", "(I)V"⟩ : MethodName)) hown (mvT hZ (hw _ (List.mem_of_getElem? (i := 54) rfl))) (mvT hZ (hw _ (List.mem_of_getElem? (i := 55) rfl))) (notFace_of_selects (args := #[]) (mvT hZ (hw _ (List.mem_of_getElem? (i := 57) rfl)))) (mvT hZ (hw _ (List.mem_of_getElem? (i := 57) rfl))) (mvT hZ (hw _ (List.mem_of_getElem? (i := 56) rfl))) (by decide) (backOf (W := 0) (rm_addAlike l Z a0 hw [] A K (4 : Int32) (12 : Int32) (own_two ba bb) (own_two kka kkb) [La, Lb] q129 _ us3 h130 n0 (Nat.le_trans (own_PS_gn PC130).1 (Nat.le_of_lt (own_PS_E PC130).lt)) PC130 hq131) hZ (hw _ (List.mem_of_getElem? (i := 58) rfl)) (hw _ (List.mem_of_getElem? (i := 7) rfl)) (by decide) (by decide)) qa132 qc132 (g := (mkF m 136 #[.val (.int ua), .val (.int ub), .val (.int uc), .val (.ref ba), .val (.ref bb), .val (.int us2), .val (.int us3), .val (.int us2), .val (.int mv3), .val (.int unA), .val (.int unB), .val (.int mv14), .val (.ref (A 0)), .unset, .unset, .unset, .unset, .unset, .unset, .unset] [(.int us3), (.ref (A 0))])) rfl (by rw [hml]; rfl) (Steps.refl _) (argsL := [(.int us3)]) (rest := []) (lenOf pd_0__I_V rfl) rfl (by show 2 * 0 + _ ≤ _; exact Nat.le_of_eq rfl) (hb hby at_136) (fun _ _ => ⟨rfl, e130, (by decide : 15 + 0 ≤ _), (by decide : 84 + 0 ≤ _)⟩)
  dsimp only [Pt.U, Pt.locs, Pt.cells, Pt.slots] at X132 l132 y132 z132 st132 hQ132
  subst l132 y132 z132
  obtain ⟨rfl, NC132, PC132⟩ := hQ132
  refine own_by (B := T132.setTop (mkF m 139 #[.val (.int ua), .val (.int ub), .val (.int uc), .val (.ref ba), .val (.ref bb), .val (.int us2), .val (.int us3), .val (.int us2), .val (.int mv3), .val (.int unA), .val (.int unB), .val (.int mv14), .val (.ref (A 0)), .unset, .unset, .unset, .unset, .unset, .unset, .unset] [])) (fun _ k => st132.trans k) ?_
  obtain ⟨h132, e132⟩ : ∃ z, T132.heap = z := ⟨_, rfl⟩
  rw [e132] at PC132
  have N132 := Fr.app N130 NC132
  refine own_by (B := T132.setTop (mkF m 141 #[.val (.int ua), .val (.int ub), .val (.int uc), .val (.ref ba), .val (.ref bb), .val (.int us2), .val (.int us3), .val (.int us2), .val (.int mv3), .val (.int unA), .val (.int unB), .val (.int mv14), .val (.ref (A 0)), .unset, .unset, .unset, .unset, .unset, .unset, .unset] [(.ref (A 0))])) (fun _ k => XS.aload X132.here hx rfl (hb hby at_139) rfl rfl  k) ?_
  obtain ⟨q133, hq133, hF⟩ := own_bind hF
  obtain ⟨cq134, kq134, qa134, qb134, qc134⟩ := isOf hZ e132 (own_PS_E PC132)
  obtain ⟨_, _, ⟨T134, L134, k134, n134⟩, -, X134, ⟨Lc134, hQ134, l134, y134, z134⟩, st134⟩ := X132.virtualBack hx (y := (⟨"com/example/document_pattern_rules/documentpatternrules/pattern/Pairing", "complete", "()Z"⟩ : MethodName)) (z := (⟨"com/example/document_pattern_rules/documentpatternrules/pattern/Pairing", "complete", "()Z"⟩ : MethodName)) hown (mvT hZ (hw _ (List.mem_of_getElem? (i := 59) rfl))) (mvT hZ (hw _ (List.mem_of_getElem? (i := 60) rfl))) (notFace_of_selects (args := #[]) (mvT hZ (hw _ (List.mem_of_getElem? (i := 62) rfl)))) (mvT hZ (hw _ (List.mem_of_getElem? (i := 62) rfl))) (mvT hZ (hw _ (List.mem_of_getElem? (i := 61) rfl))) (by decide) (backOf (W := 0) (rm_complete l Z a0 hw [] A K (4 : Int32) (12 : Int32) (own_two ba bb) (own_two kka kkb) [La, Lb] q131 _  h132 n0 (Nat.le_trans (own_PS_gn PC132).1 (Nat.le_of_lt (own_PS_E PC132).lt)) PC132 hq133) hZ (hw _ (List.mem_of_getElem? (i := 63) rfl)) (hw _ (List.mem_of_getElem? (i := 7) rfl)) (by decide) (by decide)) qa134 qc134 (g := (mkF m 141 #[.val (.int ua), .val (.int ub), .val (.int uc), .val (.ref ba), .val (.ref bb), .val (.int us2), .val (.int us3), .val (.int us2), .val (.int mv3), .val (.int unA), .val (.int unB), .val (.int mv14), .val (.ref (A 0)), .unset, .unset, .unset, .unset, .unset, .unset, .unset] [(.ref (A 0))])) rfl (by rw [hml]; rfl) (Steps.refl _) (argsL := []) (rest := []) (lenOf pd_0___Z rfl) rfl (by show 2 * 0 + _ ≤ _; exact Nat.le_of_eq rfl) (hb hby at_141) (fun _ _ => ⟨rfl, e132, (by decide : 15 + 0 ≤ _), (by decide : 84 + 0 ≤ _)⟩)
  dsimp only [Pt.U, Pt.locs, Pt.cells, Pt.slots] at X134 l134 y134 z134 st134 hQ134
  subst l134 y134 z134
  obtain ⟨rfl, NC134, PC134⟩ := hQ134
  refine own_by (B := T134.setTop (mkF m 144 #[.val (.int ua), .val (.int ub), .val (.int uc), .val (.ref ba), .val (.ref bb), .val (.int us2), .val (.int us3), .val (.int us2), .val (.int mv3), .val (.int unA), .val (.int unB), .val (.int mv14), .val (.ref (A 0)), .unset, .unset, .unset, .unset, .unset, .unset, .unset] [(.int (q133.1))])) (fun _ k => st134.trans k) ?_
  obtain ⟨h134, e134⟩ : ∃ z, T134.heap = z := ⟨_, rfl⟩
  rw [e134] at PC134
  have N134 := Fr.app N132 NC134
  refine own_by (B := T134.setTop (mkF m 146 #[.val (.int ua), .val (.int ub), .val (.int uc), .val (.ref ba), .val (.ref bb), .val (.int us2), .val (.int us3), .val (.int us2), .val (.int mv3), .val (.int unA), .val (.int unB), .val (.int mv14), .val (.ref (A 0)), .val (.int (q133.1)), .unset, .unset, .unset, .unset, .unset, .unset] [])) (fun _ k => XS.istore X134.here hx rfl (hb hby at_144) rfl (l' := #[.val (.int ua), .val (.int ub), .val (.int uc), .val (.ref ba), .val (.ref bb), .val (.int us2), .val (.int us3), .val (.int us2), .val (.int mv3), .val (.int unA), .val (.int unB), .val (.int mv14), .val (.ref (A 0)), .val (.int (q133.1)), .unset, .unset, .unset, .unset, .unset, .unset]) rfl k) ?_
  refine own_by (B := T134.setTop (mkF m 148 #[.val (.int ua), .val (.int ub), .val (.int uc), .val (.ref ba), .val (.ref bb), .val (.int us2), .val (.int us3), .val (.int us2), .val (.int mv3), .val (.int unA), .val (.int unB), .val (.int mv14), .val (.ref (A 0)), .val (.int (q133.1)), .unset, .unset, .unset, .unset, .unset, .unset] [(.int (q133.1))])) (fun _ k => XS.iload X134.here hx rfl (hb hby at_146) rfl  k) ?_
  refine own_by (B := T134.setTop (mkF m 150 #[.val (.int ua), .val (.int ub), .val (.int uc), .val (.ref ba), .val (.ref bb), .val (.int us2), .val (.int us3), .val (.int us2), .val (.int mv3), .val (.int unA), .val (.int unB), .val (.int mv14), .val (.ref (A 0)), .val (.int (q133.1)), .unset, .unset, .unset, .unset, .unset, .unset] [(.int mv14), (.int (q133.1))])) (fun _ k => XS.iload X134.here hx rfl (hb hby at_148) rfl  k) ?_
  by_cases hc135 : (q133.1) = mv14
  · rw [if_pos hc135] at hF
    refine own_by (B := T134.setTop (mkF m 155 #[.val (.int ua), .val (.int ub), .val (.int uc), .val (.ref ba), .val (.ref bb), .val (.int us2), .val (.int us3), .val (.int us2), .val (.int mv3), .val (.int unA), .val (.int unB), .val (.int mv14), .val (.ref (A 0)), .val (.int (q133.1)), .unset, .unset, .unset, .unset, .unset, .unset] [])) (fun _ k => XS.icmpYes X134.here hx rfl (pc0 := 150) (pc' := 155) rfl (hb hby at_150) rfl (XT.ii_eq_t hc135) (by decide) (by decide) k) ?_
    refine own_by (B := T134.setTop (mkF m 157 #[.val (.int ua), .val (.int ub), .val (.int uc), .val (.ref ba), .val (.ref bb), .val (.int us2), .val (.int us3), .val (.int us2), .val (.int mv3), .val (.int unA), .val (.int unB), .val (.int mv14), .val (.ref (A 0)), .val (.int (q133.1)), .unset, .unset, .unset, .unset, .unset, .unset] [(.int (q133.1))])) (fun _ k => XS.iload X134.here hx rfl (hb hby at_155) rfl  k) ?_
    by_cases hc136 : (q133.1) = (0 : Int32)
    · rw [if_pos hc136] at hF
      refine own_by (B := T134.setTop (mkF m 160 #[.val (.int ua), .val (.int ub), .val (.int uc), .val (.ref ba), .val (.ref bb), .val (.int us2), .val (.int us3), .val (.int us2), .val (.int mv3), .val (.int unA), .val (.int unB), .val (.int mv14), .val (.ref (A 0)), .val (.int (q133.1)), .unset, .unset, .unset, .unset, .unset, .unset] [])) (fun _ k => XS.ifNo X134.here hx rfl (hb hby at_157) rfl (XT.i0_ne_f hc136) k) ?_
      refine own_by (B := T134.setTop (mkF m 161 #[.val (.int ua), .val (.int ub), .val (.int uc), .val (.ref ba), .val (.ref bb), .val (.int us2), .val (.int us3), .val (.int us2), .val (.int mv3), .val (.int unA), .val (.int unB), .val (.int mv14), .val (.ref (A 0)), .val (.int (q133.1)), .unset, .unset, .unset, .unset, .unset, .unset] [(.int (1 : Int32))])) (fun _ k => XS.iconst X134.here hx rfl (hb hby at_160) k) ?_
      exact own_retZ X134 hx hrt hlk rfl (hb hby at_161) (by decide) (by decide) ⟨rfl, N134⟩
    · rw [if_neg hc136] at hF
      refine own_by (B := T134.setTop (mkF m 162 #[.val (.int ua), .val (.int ub), .val (.int uc), .val (.ref ba), .val (.ref bb), .val (.int us2), .val (.int us3), .val (.int us2), .val (.int mv3), .val (.int unA), .val (.int unB), .val (.int mv14), .val (.ref (A 0)), .val (.int (q133.1)), .unset, .unset, .unset, .unset, .unset, .unset] [])) (fun _ k => XS.ifYes X134.here hx rfl (pc0 := 157) (pc' := 162) rfl (hb hby at_157) rfl (XT.i0_ne_t hc136) (by decide) (by decide) k) ?_
      refine own_by (B := T134.setTop (mkF m 164 #[.val (.int ua), .val (.int ub), .val (.int uc), .val (.ref ba), .val (.ref bb), .val (.int us2), .val (.int us3), .val (.int us2), .val (.int mv3), .val (.int unA), .val (.int unB), .val (.int mv14), .val (.ref (A 0)), .val (.int (q133.1)), .unset, .unset, .unset, .unset, .unset, .unset] [(.int us2)])) (fun _ k => XS.iload X134.here hx rfl (hb hby at_162) rfl  k) ?_
      by_cases hc137 : us2 = (0 : Int32)
      · rw [if_pos hc137] at hF
        refine own_by (B := T134.setTop (mkF m 167 #[.val (.int ua), .val (.int ub), .val (.int uc), .val (.ref ba), .val (.ref bb), .val (.int us2), .val (.int us3), .val (.int us2), .val (.int mv3), .val (.int unA), .val (.int unB), .val (.int mv14), .val (.ref (A 0)), .val (.int (q133.1)), .unset, .unset, .unset, .unset, .unset, .unset] [])) (fun _ k => XS.ifNo X134.here hx rfl (hb hby at_164) rfl (XT.i0_ne_f hc137) k) ?_
        refine own_by (B := T134.setTop (mkF m 168 #[.val (.int ua), .val (.int ub), .val (.int uc), .val (.ref ba), .val (.ref bb), .val (.int us2), .val (.int us3), .val (.int us2), .val (.int mv3), .val (.int unA), .val (.int unB), .val (.int mv14), .val (.ref (A 0)), .val (.int (q133.1)), .unset, .unset, .unset, .unset, .unset, .unset] [(.ref ba)])) (fun _ k => XS.aloadN X134.here hx rfl (hb hby at_167) rfl rfl  k) ?_
        refine own_by (B := T134.setTop (mkF m 169 #[.val (.int ua), .val (.int ub), .val (.int uc), .val (.ref ba), .val (.ref bb), .val (.int us2), .val (.int us3), .val (.int us2), .val (.int mv3), .val (.int unA), .val (.int unB), .val (.int mv14), .val (.ref (A 0)), .val (.int (q133.1)), .unset, .unset, .unset, .unset, .unset, .unset] [(.int (1 : Int32)), (.ref ba)])) (fun _ k => XS.iconst X134.here hx rfl (hb hby at_168) k) ?_
        obtain ⟨w138, hw138, hF⟩ := own_bind hF
        refine own_by (B := T134.setTop (mkF m 170 #[.val (.int ua), .val (.int ub), .val (.int uc), .val (.ref ba), .val (.ref bb), .val (.int us2), .val (.int us3), .val (.int us2), .val (.int mv3), .val (.int unA), .val (.int unB), .val (.int mv14), .val (.ref (A 0)), .val (.int (q133.1)), .unset, .unset, .unset, .unset, .unset, .unset] [(.int w138)])) (own_ldI X134 hx hZ e134 ((own_PS_cc PC134) _ _ (rfl : ([La, Lb] : List (List Int32))[0]? = some La)).1 hw138 (g := (mkF m 169 #[.val (.int ua), .val (.int ub), .val (.int uc), .val (.ref ba), .val (.ref bb), .val (.int us2), .val (.int us3), .val (.int us2), .val (.int mv3), .val (.int unA), .val (.int unB), .val (.int mv14), .val (.ref (A 0)), .val (.int (q133.1)), .unset, .unset, .unset, .unset, .unset, .unset] [(.int (1 : Int32)), (.ref ba)])) rfl rfl (hb hby at_169)) ?_
        refine own_by (B := T134.setTop (mkF m 177 #[.val (.int ua), .val (.int ub), .val (.int uc), .val (.ref ba), .val (.ref bb), .val (.int us2), .val (.int us3), .val (.int us2), .val (.int mv3), .val (.int unA), .val (.int unB), .val (.int mv14), .val (.ref (A 0)), .val (.int (q133.1)), .unset, .unset, .unset, .unset, .unset, .unset] [(.int w138)])) (fun _ k => XS.goto X134.here hx rfl (pc0 := 170) (pc' := 177) rfl (hb hby at_170) (by decide) (by decide) k) ?_
        refine own_by (B := T134.setTop (mkF m 179 #[.val (.int ua), .val (.int ub), .val (.int uc), .val (.ref ba), .val (.ref bb), .val (.int us2), .val (.int us3), .val (.int us2), .val (.int mv3), .val (.int unA), .val (.int unB), .val (.int mv14), .val (.ref (A 0)), .val (.int (q133.1)), .val (.int w138), .unset, .unset, .unset, .unset, .unset] [])) (fun _ k => XS.istore X134.here hx rfl (hb hby at_177) rfl (l' := #[.val (.int ua), .val (.int ub), .val (.int uc), .val (.ref ba), .val (.ref bb), .val (.int us2), .val (.int us3), .val (.int us2), .val (.int mv3), .val (.int unA), .val (.int unB), .val (.int mv14), .val (.ref (A 0)), .val (.int (q133.1)), .val (.int w138), .unset, .unset, .unset, .unset, .unset]) rfl k) ?_
        refine own_by (B := T134.setTop (mkF m 181 #[.val (.int ua), .val (.int ub), .val (.int uc), .val (.ref ba), .val (.ref bb), .val (.int us2), .val (.int us3), .val (.int us2), .val (.int mv3), .val (.int unA), .val (.int unB), .val (.int mv14), .val (.ref (A 0)), .val (.int (q133.1)), .val (.int w138), .unset, .unset, .unset, .unset, .unset] [(.int mv3)])) (fun _ k => XS.iload X134.here hx rfl (hb hby at_179) rfl  k) ?_
        by_cases hc139 : mv3 = (0 : Int32)
        · rw [if_pos hc139] at hF
          refine own_by (B := T134.setTop (mkF m 184 #[.val (.int ua), .val (.int ub), .val (.int uc), .val (.ref ba), .val (.ref bb), .val (.int us2), .val (.int us3), .val (.int us2), .val (.int mv3), .val (.int unA), .val (.int unB), .val (.int mv14), .val (.ref (A 0)), .val (.int (q133.1)), .val (.int w138), .unset, .unset, .unset, .unset, .unset] [])) (fun _ k => XS.ifNo X134.here hx rfl (hb hby at_181) rfl (XT.i0_ne_f hc139) k) ?_
          refine own_by (B := T134.setTop (mkF m 185 #[.val (.int ua), .val (.int ub), .val (.int uc), .val (.ref ba), .val (.ref bb), .val (.int us2), .val (.int us3), .val (.int us2), .val (.int mv3), .val (.int unA), .val (.int unB), .val (.int mv14), .val (.ref (A 0)), .val (.int (q133.1)), .val (.int w138), .unset, .unset, .unset, .unset, .unset] [(.ref ba)])) (fun _ k => XS.aloadN X134.here hx rfl (hb hby at_184) rfl rfl  k) ?_
          refine own_by (B := T134.setTop (mkF m 187 #[.val (.int ua), .val (.int ub), .val (.int uc), .val (.ref ba), .val (.ref bb), .val (.int us2), .val (.int us3), .val (.int us2), .val (.int mv3), .val (.int unA), .val (.int unB), .val (.int mv14), .val (.ref (A 0)), .val (.int (q133.1)), .val (.int w138), .unset, .unset, .unset, .unset, .unset] [(.int unA), (.ref ba)])) (fun _ k => XS.iload X134.here hx rfl (hb hby at_185) rfl  k) ?_
          refine own_by (B := T134.setTop (mkF m 188 #[.val (.int ua), .val (.int ub), .val (.int uc), .val (.ref ba), .val (.ref bb), .val (.int us2), .val (.int us3), .val (.int us2), .val (.int mv3), .val (.int unA), .val (.int unB), .val (.int mv14), .val (.ref (A 0)), .val (.int (q133.1)), .val (.int w138), .unset, .unset, .unset, .unset, .unset] [(.int (1 : Int32)), (.int unA), (.ref ba)])) (fun _ k => XS.iconst X134.here hx rfl (hb hby at_187) k) ?_
          refine own_by (B := T134.setTop (mkF m 189 #[.val (.int ua), .val (.int ub), .val (.int uc), .val (.ref ba), .val (.ref bb), .val (.int us2), .val (.int us3), .val (.int us2), .val (.int mv3), .val (.int unA), .val (.int unB), .val (.int mv14), .val (.ref (A 0)), .val (.int (q133.1)), .val (.int w138), .unset, .unset, .unset, .unset, .unset] [(.int (unA - (1 : Int32))), (.ref ba)])) (fun _ k => XS.isub X134.here hx rfl (hb hby at_188) rfl k) ?_
          obtain ⟨w140, hw140, hF⟩ := own_bind hF
          refine own_by (B := T134.setTop (mkF m 190 #[.val (.int ua), .val (.int ub), .val (.int uc), .val (.ref ba), .val (.ref bb), .val (.int us2), .val (.int us3), .val (.int us2), .val (.int mv3), .val (.int unA), .val (.int unB), .val (.int mv14), .val (.ref (A 0)), .val (.int (q133.1)), .val (.int w138), .unset, .unset, .unset, .unset, .unset] [(.int w140)])) (own_ldI X134 hx hZ e134 ((own_PS_cc PC134) _ _ (rfl : ([La, Lb] : List (List Int32))[0]? = some La)).1 hw140 (g := (mkF m 189 #[.val (.int ua), .val (.int ub), .val (.int uc), .val (.ref ba), .val (.ref bb), .val (.int us2), .val (.int us3), .val (.int us2), .val (.int mv3), .val (.int unA), .val (.int unB), .val (.int mv14), .val (.ref (A 0)), .val (.int (q133.1)), .val (.int w138), .unset, .unset, .unset, .unset, .unset] [(.int (unA - (1 : Int32))), (.ref ba)])) rfl rfl (hb hby at_189)) ?_
          refine own_by (B := T134.setTop (mkF m 200 #[.val (.int ua), .val (.int ub), .val (.int uc), .val (.ref ba), .val (.ref bb), .val (.int us2), .val (.int us3), .val (.int us2), .val (.int mv3), .val (.int unA), .val (.int unB), .val (.int mv14), .val (.ref (A 0)), .val (.int (q133.1)), .val (.int w138), .unset, .unset, .unset, .unset, .unset] [(.int w140)])) (fun _ k => XS.goto X134.here hx rfl (pc0 := 190) (pc' := 200) rfl (hb hby at_190) (by decide) (by decide) k) ?_
          refine own_by (B := T134.setTop (mkF m 202 #[.val (.int ua), .val (.int ub), .val (.int uc), .val (.ref ba), .val (.ref bb), .val (.int us2), .val (.int us3), .val (.int us2), .val (.int mv3), .val (.int unA), .val (.int unB), .val (.int mv14), .val (.ref (A 0)), .val (.int (q133.1)), .val (.int w138), .val (.int w140), .unset, .unset, .unset, .unset] [])) (fun _ k => XS.istore X134.here hx rfl (hb hby at_200) rfl (l' := #[.val (.int ua), .val (.int ub), .val (.int uc), .val (.ref ba), .val (.ref bb), .val (.int us2), .val (.int us3), .val (.int us2), .val (.int mv3), .val (.int unA), .val (.int unB), .val (.int mv14), .val (.ref (A 0)), .val (.int (q133.1)), .val (.int w138), .val (.int w140), .unset, .unset, .unset, .unset]) rfl k) ?_
          refine own_by (B := T134.setTop (mkF m 204 #[.val (.int ua), .val (.int ub), .val (.int uc), .val (.ref ba), .val (.ref bb), .val (.int us2), .val (.int us3), .val (.int us2), .val (.int mv3), .val (.int unA), .val (.int unB), .val (.int mv14), .val (.ref (A 0)), .val (.int (q133.1)), .val (.int w138), .val (.int w140), .unset, .unset, .unset, .unset] [(.ref (A 0))])) (fun _ k => XS.aload X134.here hx rfl (hb hby at_202) rfl rfl  k) ?_
          refine own_by (B := T134.setTop (mkF m 205 #[.val (.int ua), .val (.int ub), .val (.int uc), .val (.ref ba), .val (.ref bb), .val (.int us2), .val (.int us3), .val (.int us2), .val (.int mv3), .val (.int unA), .val (.int unB), .val (.int mv14), .val (.ref (A 0)), .val (.int (q133.1)), .val (.int w138), .val (.int w140), .unset, .unset, .unset, .unset] [(.int (0 : Int32)), (.ref (A 0))])) (fun _ k => XS.iconst X134.here hx rfl (hb hby at_204) k) ?_
          obtain ⟨q141, hq141, hF⟩ := own_bind hF
          obtain ⟨cq142, kq142, qa142, qb142, qc142⟩ := isOf hZ e134 (own_PS_E PC134)
          obtain ⟨_, _, ⟨T142, L142, k142, n142⟩, -, X142, ⟨Lc142, hQ142, l142, y142, z142⟩, st142⟩ := X134.virtualBack hx (y := (⟨"com/example/document_pattern_rules/documentpatternrules/pattern/Pairing", "lowest", "(I)I"⟩ : MethodName)) (z := (⟨"com/example/document_pattern_rules/documentpatternrules/pattern/Pairing", "lowest", "(I)I"⟩ : MethodName)) hown (mvT hZ (hw _ (List.mem_of_getElem? (i := 78) rfl))) (mvT hZ (hw _ (List.mem_of_getElem? (i := 79) rfl))) (notFace_of_selects (args := #[]) (mvT hZ (hw _ (List.mem_of_getElem? (i := 81) rfl)))) (mvT hZ (hw _ (List.mem_of_getElem? (i := 81) rfl))) (mvT hZ (hw _ (List.mem_of_getElem? (i := 80) rfl))) (by decide) (backOf (W := 0) (rm_lowest l Z a0 hw [] A K (4 : Int32) (12 : Int32) (own_two ba bb) (own_two kka kkb) [La, Lb] (q133.2) _ (0 : Int32) h134 n0 (Nat.le_trans (own_PS_gn PC134).1 (Nat.le_of_lt (own_PS_E PC134).lt)) PC134 hq141) hZ (hw _ (List.mem_of_getElem? (i := 82) rfl)) (hw _ (List.mem_of_getElem? (i := 7) rfl)) (by decide) (by decide)) qa142 qc142 (g := (mkF m 205 #[.val (.int ua), .val (.int ub), .val (.int uc), .val (.ref ba), .val (.ref bb), .val (.int us2), .val (.int us3), .val (.int us2), .val (.int mv3), .val (.int unA), .val (.int unB), .val (.int mv14), .val (.ref (A 0)), .val (.int (q133.1)), .val (.int w138), .val (.int w140), .unset, .unset, .unset, .unset] [(.int (0 : Int32)), (.ref (A 0))])) rfl (by rw [hml]; rfl) (Steps.refl _) (argsL := [(.int (0 : Int32))]) (rest := []) (lenOf pd_0__I_I rfl) rfl (by show 2 * 0 + _ ≤ _; exact Nat.le_of_eq rfl) (hb hby at_205) (fun _ _ => ⟨rfl, e134, (by decide : 15 + 0 ≤ _), (by decide : 84 + 0 ≤ _)⟩)
          dsimp only [Pt.U, Pt.locs, Pt.cells, Pt.slots] at X142 l142 y142 z142 st142 hQ142
          subst l142 y142 z142
          obtain ⟨rfl, NC142, PC142⟩ := hQ142
          refine own_by (B := T142.setTop (mkF m 208 #[.val (.int ua), .val (.int ub), .val (.int uc), .val (.ref ba), .val (.ref bb), .val (.int us2), .val (.int us3), .val (.int us2), .val (.int mv3), .val (.int unA), .val (.int unB), .val (.int mv14), .val (.ref (A 0)), .val (.int (q133.1)), .val (.int w138), .val (.int w140), .unset, .unset, .unset, .unset] [(.int (q141.1))])) (fun _ k => st142.trans k) ?_
          obtain ⟨h142, e142⟩ : ∃ z, T142.heap = z := ⟨_, rfl⟩
          rw [e142] at PC142
          have N142 := Fr.app N134 NC142
          refine own_by (B := T142.setTop (mkF m 210 #[.val (.int ua), .val (.int ub), .val (.int uc), .val (.ref ba), .val (.ref bb), .val (.int us2), .val (.int us3), .val (.int us2), .val (.int mv3), .val (.int unA), .val (.int unB), .val (.int mv14), .val (.ref (A 0)), .val (.int (q133.1)), .val (.int w138), .val (.int w140), .val (.int (q141.1)), .unset, .unset, .unset] [])) (fun _ k => XS.istore X142.here hx rfl (hb hby at_208) rfl (l' := #[.val (.int ua), .val (.int ub), .val (.int uc), .val (.ref ba), .val (.ref bb), .val (.int us2), .val (.int us3), .val (.int us2), .val (.int mv3), .val (.int unA), .val (.int unB), .val (.int mv14), .val (.ref (A 0)), .val (.int (q133.1)), .val (.int w138), .val (.int w140), .val (.int (q141.1)), .unset, .unset, .unset]) rfl k) ?_
          refine own_by (B := T142.setTop (mkF m 212 #[.val (.int ua), .val (.int ub), .val (.int uc), .val (.ref ba), .val (.ref bb), .val (.int us2), .val (.int us3), .val (.int us2), .val (.int mv3), .val (.int unA), .val (.int unB), .val (.int mv14), .val (.ref (A 0)), .val (.int (q133.1)), .val (.int w138), .val (.int w140), .val (.int (q141.1)), .unset, .unset, .unset] [(.ref (A 0))])) (fun _ k => XS.aload X142.here hx rfl (hb hby at_210) rfl rfl  k) ?_
          refine own_by (B := T142.setTop (mkF m 213 #[.val (.int ua), .val (.int ub), .val (.int uc), .val (.ref ba), .val (.ref bb), .val (.int us2), .val (.int us3), .val (.int us2), .val (.int mv3), .val (.int unA), .val (.int unB), .val (.int mv14), .val (.ref (A 0)), .val (.int (q133.1)), .val (.int w138), .val (.int w140), .val (.int (q141.1)), .unset, .unset, .unset] [(.int (1 : Int32)), (.ref (A 0))])) (fun _ k => XS.iconst X142.here hx rfl (hb hby at_212) k) ?_
          obtain ⟨q143, hq143, hF⟩ := own_bind hF
          obtain ⟨cq144, kq144, qa144, qb144, qc144⟩ := isOf hZ e142 (own_PS_E PC142)
          obtain ⟨_, _, ⟨T144, L144, k144, n144⟩, -, X144, ⟨Lc144, hQ144, l144, y144, z144⟩, st144⟩ := X142.virtualBack hx (y := (⟨"com/example/document_pattern_rules/documentpatternrules/pattern/Pairing", "lowest", "(I)I"⟩ : MethodName)) (z := (⟨"com/example/document_pattern_rules/documentpatternrules/pattern/Pairing", "lowest", "(I)I"⟩ : MethodName)) hown (mvT hZ (hw _ (List.mem_of_getElem? (i := 78) rfl))) (mvT hZ (hw _ (List.mem_of_getElem? (i := 79) rfl))) (notFace_of_selects (args := #[]) (mvT hZ (hw _ (List.mem_of_getElem? (i := 81) rfl)))) (mvT hZ (hw _ (List.mem_of_getElem? (i := 81) rfl))) (mvT hZ (hw _ (List.mem_of_getElem? (i := 80) rfl))) (by decide) (backOf (W := 0) (rm_lowest l Z a0 hw [] A K (4 : Int32) (12 : Int32) (own_two ba bb) (own_two kka kkb) [La, Lb] (q141.2) _ (1 : Int32) h142 n0 (Nat.le_trans (own_PS_gn PC142).1 (Nat.le_of_lt (own_PS_E PC142).lt)) PC142 hq143) hZ (hw _ (List.mem_of_getElem? (i := 82) rfl)) (hw _ (List.mem_of_getElem? (i := 7) rfl)) (by decide) (by decide)) qa144 qc144 (g := (mkF m 213 #[.val (.int ua), .val (.int ub), .val (.int uc), .val (.ref ba), .val (.ref bb), .val (.int us2), .val (.int us3), .val (.int us2), .val (.int mv3), .val (.int unA), .val (.int unB), .val (.int mv14), .val (.ref (A 0)), .val (.int (q133.1)), .val (.int w138), .val (.int w140), .val (.int (q141.1)), .unset, .unset, .unset] [(.int (1 : Int32)), (.ref (A 0))])) rfl (by rw [hml]; rfl) (Steps.refl _) (argsL := [(.int (1 : Int32))]) (rest := []) (lenOf pd_0__I_I rfl) rfl (by show 2 * 0 + _ ≤ _; exact Nat.le_of_eq rfl) (hb hby at_213) (fun _ _ => ⟨rfl, e142, (by decide : 15 + 0 ≤ _), (by decide : 84 + 0 ≤ _)⟩)
          dsimp only [Pt.U, Pt.locs, Pt.cells, Pt.slots] at X144 l144 y144 z144 st144 hQ144
          subst l144 y144 z144
          obtain ⟨rfl, NC144, PC144⟩ := hQ144
          refine own_by (B := T144.setTop (mkF m 216 #[.val (.int ua), .val (.int ub), .val (.int uc), .val (.ref ba), .val (.ref bb), .val (.int us2), .val (.int us3), .val (.int us2), .val (.int mv3), .val (.int unA), .val (.int unB), .val (.int mv14), .val (.ref (A 0)), .val (.int (q133.1)), .val (.int w138), .val (.int w140), .val (.int (q141.1)), .unset, .unset, .unset] [(.int (q143.1))])) (fun _ k => st144.trans k) ?_
          obtain ⟨h144, e144⟩ : ∃ z, T144.heap = z := ⟨_, rfl⟩
          rw [e144] at PC144
          have N144 := Fr.app N142 NC144
          refine own_by (B := T144.setTop (mkF m 218 #[.val (.int ua), .val (.int ub), .val (.int uc), .val (.ref ba), .val (.ref bb), .val (.int us2), .val (.int us3), .val (.int us2), .val (.int mv3), .val (.int unA), .val (.int unB), .val (.int mv14), .val (.ref (A 0)), .val (.int (q133.1)), .val (.int w138), .val (.int w140), .val (.int (q141.1)), .val (.int (q143.1)), .unset, .unset] [])) (fun _ k => XS.istore X144.here hx rfl (hb hby at_216) rfl (l' := #[.val (.int ua), .val (.int ub), .val (.int uc), .val (.ref ba), .val (.ref bb), .val (.int us2), .val (.int us3), .val (.int us2), .val (.int mv3), .val (.int unA), .val (.int unB), .val (.int mv14), .val (.ref (A 0)), .val (.int (q133.1)), .val (.int w138), .val (.int w140), .val (.int (q141.1)), .val (.int (q143.1)), .unset, .unset]) rfl k) ?_
          refine own_by (B := T144.setTop (mkF m 220 #[.val (.int ua), .val (.int ub), .val (.int uc), .val (.ref ba), .val (.ref bb), .val (.int us2), .val (.int us3), .val (.int us2), .val (.int mv3), .val (.int unA), .val (.int unB), .val (.int mv14), .val (.ref (A 0)), .val (.int (q133.1)), .val (.int w138), .val (.int w140), .val (.int (q141.1)), .val (.int (q143.1)), .unset, .unset] [(.ref (A 0))])) (fun _ k => XS.aload X144.here hx rfl (hb hby at_218) rfl rfl  k) ?_
          refine own_by (B := T144.setTop (mkF m 221 #[.val (.int ua), .val (.int ub), .val (.int uc), .val (.ref ba), .val (.ref bb), .val (.int us2), .val (.int us3), .val (.int us2), .val (.int mv3), .val (.int unA), .val (.int unB), .val (.int mv14), .val (.ref (A 0)), .val (.int (q133.1)), .val (.int w138), .val (.int w140), .val (.int (q141.1)), .val (.int (q143.1)), .unset, .unset] [(.int (2 : Int32)), (.ref (A 0))])) (fun _ k => XS.iconst X144.here hx rfl (hb hby at_220) k) ?_
          obtain ⟨q145, hq145, hF⟩ := own_bind hF
          obtain ⟨cq146, kq146, qa146, qb146, qc146⟩ := isOf hZ e144 (own_PS_E PC144)
          obtain ⟨_, _, ⟨T146, L146, k146, n146⟩, -, X146, ⟨Lc146, hQ146, l146, y146, z146⟩, st146⟩ := X144.virtualBack hx (y := (⟨"com/example/document_pattern_rules/documentpatternrules/pattern/Pairing", "lowest", "(I)I"⟩ : MethodName)) (z := (⟨"com/example/document_pattern_rules/documentpatternrules/pattern/Pairing", "lowest", "(I)I"⟩ : MethodName)) hown (mvT hZ (hw _ (List.mem_of_getElem? (i := 78) rfl))) (mvT hZ (hw _ (List.mem_of_getElem? (i := 79) rfl))) (notFace_of_selects (args := #[]) (mvT hZ (hw _ (List.mem_of_getElem? (i := 81) rfl)))) (mvT hZ (hw _ (List.mem_of_getElem? (i := 81) rfl))) (mvT hZ (hw _ (List.mem_of_getElem? (i := 80) rfl))) (by decide) (backOf (W := 0) (rm_lowest l Z a0 hw [] A K (4 : Int32) (12 : Int32) (own_two ba bb) (own_two kka kkb) [La, Lb] (q143.2) _ (2 : Int32) h144 n0 (Nat.le_trans (own_PS_gn PC144).1 (Nat.le_of_lt (own_PS_E PC144).lt)) PC144 hq145) hZ (hw _ (List.mem_of_getElem? (i := 82) rfl)) (hw _ (List.mem_of_getElem? (i := 7) rfl)) (by decide) (by decide)) qa146 qc146 (g := (mkF m 221 #[.val (.int ua), .val (.int ub), .val (.int uc), .val (.ref ba), .val (.ref bb), .val (.int us2), .val (.int us3), .val (.int us2), .val (.int mv3), .val (.int unA), .val (.int unB), .val (.int mv14), .val (.ref (A 0)), .val (.int (q133.1)), .val (.int w138), .val (.int w140), .val (.int (q141.1)), .val (.int (q143.1)), .unset, .unset] [(.int (2 : Int32)), (.ref (A 0))])) rfl (by rw [hml]; rfl) (Steps.refl _) (argsL := [(.int (2 : Int32))]) (rest := []) (lenOf pd_0__I_I rfl) rfl (by show 2 * 0 + _ ≤ _; exact Nat.le_of_eq rfl) (hb hby at_221) (fun _ _ => ⟨rfl, e144, (by decide : 15 + 0 ≤ _), (by decide : 84 + 0 ≤ _)⟩)
          dsimp only [Pt.U, Pt.locs, Pt.cells, Pt.slots] at X146 l146 y146 z146 st146 hQ146
          subst l146 y146 z146
          obtain ⟨rfl, NC146, PC146⟩ := hQ146
          refine own_by (B := T146.setTop (mkF m 224 #[.val (.int ua), .val (.int ub), .val (.int uc), .val (.ref ba), .val (.ref bb), .val (.int us2), .val (.int us3), .val (.int us2), .val (.int mv3), .val (.int unA), .val (.int unB), .val (.int mv14), .val (.ref (A 0)), .val (.int (q133.1)), .val (.int w138), .val (.int w140), .val (.int (q141.1)), .val (.int (q143.1)), .unset, .unset] [(.int (q145.1))])) (fun _ k => st146.trans k) ?_
          obtain ⟨h146, e146⟩ : ∃ z, T146.heap = z := ⟨_, rfl⟩
          rw [e146] at PC146
          have N146 := Fr.app N144 NC146
          refine own_by (B := T146.setTop (mkF m 226 #[.val (.int ua), .val (.int ub), .val (.int uc), .val (.ref ba), .val (.ref bb), .val (.int us2), .val (.int us3), .val (.int us2), .val (.int mv3), .val (.int unA), .val (.int unB), .val (.int mv14), .val (.ref (A 0)), .val (.int (q133.1)), .val (.int w138), .val (.int w140), .val (.int (q141.1)), .val (.int (q143.1)), .val (.int (q145.1)), .unset] [])) (fun _ k => XS.istore X146.here hx rfl (hb hby at_224) rfl (l' := #[.val (.int ua), .val (.int ub), .val (.int uc), .val (.ref ba), .val (.ref bb), .val (.int us2), .val (.int us3), .val (.int us2), .val (.int mv3), .val (.int unA), .val (.int unB), .val (.int mv14), .val (.ref (A 0)), .val (.int (q133.1)), .val (.int w138), .val (.int w140), .val (.int (q141.1)), .val (.int (q143.1)), .val (.int (q145.1)), .unset]) rfl k) ?_
          refine own_by (B := T146.setTop (mkF m 228 #[.val (.int ua), .val (.int ub), .val (.int uc), .val (.ref ba), .val (.ref bb), .val (.int us2), .val (.int us3), .val (.int us2), .val (.int mv3), .val (.int unA), .val (.int unB), .val (.int mv14), .val (.ref (A 0)), .val (.int (q133.1)), .val (.int w138), .val (.int w140), .val (.int (q141.1)), .val (.int (q143.1)), .val (.int (q145.1)), .unset] [(.ref (A 0))])) (fun _ k => XS.aload X146.here hx rfl (hb hby at_226) rfl rfl  k) ?_
          refine own_by (B := T146.setTop (mkF m 229 #[.val (.int ua), .val (.int ub), .val (.int uc), .val (.ref ba), .val (.ref bb), .val (.int us2), .val (.int us3), .val (.int us2), .val (.int mv3), .val (.int unA), .val (.int unB), .val (.int mv14), .val (.ref (A 0)), .val (.int (q133.1)), .val (.int w138), .val (.int w140), .val (.int (q141.1)), .val (.int (q143.1)), .val (.int (q145.1)), .unset] [(.int (3 : Int32)), (.ref (A 0))])) (fun _ k => XS.iconst X146.here hx rfl (hb hby at_228) k) ?_
          obtain ⟨q147, hq147, hF⟩ := own_bind hF
          obtain ⟨cq148, kq148, qa148, qb148, qc148⟩ := isOf hZ e146 (own_PS_E PC146)
          obtain ⟨_, _, ⟨T148, L148, k148, n148⟩, -, X148, ⟨Lc148, hQ148, l148, y148, z148⟩, st148⟩ := X146.virtualBack hx (y := (⟨"com/example/document_pattern_rules/documentpatternrules/pattern/Pairing", "lowest", "(I)I"⟩ : MethodName)) (z := (⟨"com/example/document_pattern_rules/documentpatternrules/pattern/Pairing", "lowest", "(I)I"⟩ : MethodName)) hown (mvT hZ (hw _ (List.mem_of_getElem? (i := 78) rfl))) (mvT hZ (hw _ (List.mem_of_getElem? (i := 79) rfl))) (notFace_of_selects (args := #[]) (mvT hZ (hw _ (List.mem_of_getElem? (i := 81) rfl)))) (mvT hZ (hw _ (List.mem_of_getElem? (i := 81) rfl))) (mvT hZ (hw _ (List.mem_of_getElem? (i := 80) rfl))) (by decide) (backOf (W := 0) (rm_lowest l Z a0 hw [] A K (4 : Int32) (12 : Int32) (own_two ba bb) (own_two kka kkb) [La, Lb] (q145.2) _ (3 : Int32) h146 n0 (Nat.le_trans (own_PS_gn PC146).1 (Nat.le_of_lt (own_PS_E PC146).lt)) PC146 hq147) hZ (hw _ (List.mem_of_getElem? (i := 82) rfl)) (hw _ (List.mem_of_getElem? (i := 7) rfl)) (by decide) (by decide)) qa148 qc148 (g := (mkF m 229 #[.val (.int ua), .val (.int ub), .val (.int uc), .val (.ref ba), .val (.ref bb), .val (.int us2), .val (.int us3), .val (.int us2), .val (.int mv3), .val (.int unA), .val (.int unB), .val (.int mv14), .val (.ref (A 0)), .val (.int (q133.1)), .val (.int w138), .val (.int w140), .val (.int (q141.1)), .val (.int (q143.1)), .val (.int (q145.1)), .unset] [(.int (3 : Int32)), (.ref (A 0))])) rfl (by rw [hml]; rfl) (Steps.refl _) (argsL := [(.int (3 : Int32))]) (rest := []) (lenOf pd_0__I_I rfl) rfl (by show 2 * 0 + _ ≤ _; exact Nat.le_of_eq rfl) (hb hby at_229) (fun _ _ => ⟨rfl, e146, (by decide : 15 + 0 ≤ _), (by decide : 84 + 0 ≤ _)⟩)
          dsimp only [Pt.U, Pt.locs, Pt.cells, Pt.slots] at X148 l148 y148 z148 st148 hQ148
          subst l148 y148 z148
          obtain ⟨rfl, NC148, PC148⟩ := hQ148
          refine own_by (B := T148.setTop (mkF m 232 #[.val (.int ua), .val (.int ub), .val (.int uc), .val (.ref ba), .val (.ref bb), .val (.int us2), .val (.int us3), .val (.int us2), .val (.int mv3), .val (.int unA), .val (.int unB), .val (.int mv14), .val (.ref (A 0)), .val (.int (q133.1)), .val (.int w138), .val (.int w140), .val (.int (q141.1)), .val (.int (q143.1)), .val (.int (q145.1)), .unset] [(.int (q147.1))])) (fun _ k => st148.trans k) ?_
          obtain ⟨h148, e148⟩ : ∃ z, T148.heap = z := ⟨_, rfl⟩
          rw [e148] at PC148
          have N148 := Fr.app N146 NC148
          refine own_by (B := T148.setTop (mkF m 234 #[.val (.int ua), .val (.int ub), .val (.int uc), .val (.ref ba), .val (.ref bb), .val (.int us2), .val (.int us3), .val (.int us2), .val (.int mv3), .val (.int unA), .val (.int unB), .val (.int mv14), .val (.ref (A 0)), .val (.int (q133.1)), .val (.int w138), .val (.int w140), .val (.int (q141.1)), .val (.int (q143.1)), .val (.int (q145.1)), .val (.int (q147.1))] [])) (fun _ k => XS.istore X148.here hx rfl (hb hby at_232) rfl (l' := #[.val (.int ua), .val (.int ub), .val (.int uc), .val (.ref ba), .val (.ref bb), .val (.int us2), .val (.int us3), .val (.int us2), .val (.int mv3), .val (.int unA), .val (.int unB), .val (.int mv14), .val (.ref (A 0)), .val (.int (q133.1)), .val (.int w138), .val (.int w140), .val (.int (q141.1)), .val (.int (q143.1)), .val (.int (q145.1)), .val (.int (q147.1))]) rfl k) ?_
          refine own_by (B := T148.setTop (mkF m 236 #[.val (.int ua), .val (.int ub), .val (.int uc), .val (.ref ba), .val (.ref bb), .val (.int us2), .val (.int us3), .val (.int us2), .val (.int mv3), .val (.int unA), .val (.int unB), .val (.int mv14), .val (.ref (A 0)), .val (.int (q133.1)), .val (.int w138), .val (.int w140), .val (.int (q141.1)), .val (.int (q143.1)), .val (.int (q145.1)), .val (.int (q147.1))] [(.int (q141.1))])) (fun _ k => XS.iload X148.here hx rfl (hb hby at_234) rfl  k) ?_
          refine own_by (B := T148.setTop (mkF m 237 #[.val (.int ua), .val (.int ub), .val (.int uc), .val (.ref ba), .val (.ref bb), .val (.int us2), .val (.int us3), .val (.int us2), .val (.int mv3), .val (.int unA), .val (.int unB), .val (.int mv14), .val (.ref (A 0)), .val (.int (q133.1)), .val (.int w138), .val (.int w140), .val (.int (q141.1)), .val (.int (q143.1)), .val (.int (q145.1)), .val (.int (q147.1))] [(.ref ba), (.int (q141.1))])) (fun _ k => XS.aloadN X148.here hx rfl (hb hby at_236) rfl rfl  k) ?_
          refine own_by (B := T148.setTop (mkF m 238 #[.val (.int ua), .val (.int ub), .val (.int uc), .val (.ref ba), .val (.ref bb), .val (.int us2), .val (.int us3), .val (.int us2), .val (.int mv3), .val (.int unA), .val (.int unB), .val (.int mv14), .val (.ref (A 0)), .val (.int (q133.1)), .val (.int w138), .val (.int w140), .val (.int (q141.1)), .val (.int (q143.1)), .val (.int (q145.1)), .val (.int (q147.1))] [(.int (0 : Int32)), (.ref ba), (.int (q141.1))])) (fun _ k => XS.iconst X148.here hx rfl (hb hby at_237) k) ?_
          obtain ⟨w149, hw149, hF⟩ := own_bind hF
          refine own_by (B := T148.setTop (mkF m 239 #[.val (.int ua), .val (.int ub), .val (.int uc), .val (.ref ba), .val (.ref bb), .val (.int us2), .val (.int us3), .val (.int us2), .val (.int mv3), .val (.int unA), .val (.int unB), .val (.int mv14), .val (.ref (A 0)), .val (.int (q133.1)), .val (.int w138), .val (.int w140), .val (.int (q141.1)), .val (.int (q143.1)), .val (.int (q145.1)), .val (.int (q147.1))] [(.int w149), (.int (q141.1))])) (own_ldI X148 hx hZ e148 ((own_PS_cc PC148) _ _ (rfl : ([La, Lb] : List (List Int32))[0]? = some La)).1 hw149 (g := (mkF m 238 #[.val (.int ua), .val (.int ub), .val (.int uc), .val (.ref ba), .val (.ref bb), .val (.int us2), .val (.int us3), .val (.int us2), .val (.int mv3), .val (.int unA), .val (.int unB), .val (.int mv14), .val (.ref (A 0)), .val (.int (q133.1)), .val (.int w138), .val (.int w140), .val (.int (q141.1)), .val (.int (q143.1)), .val (.int (q145.1)), .val (.int (q147.1))] [(.int (0 : Int32)), (.ref ba), (.int (q141.1))])) rfl rfl (hb hby at_238)) ?_
          by_cases hc150 : (q141.1) = w149
          · rw [if_pos hc150] at hF
            refine own_by (B := T148.setTop (mkF m 242 #[.val (.int ua), .val (.int ub), .val (.int uc), .val (.ref ba), .val (.ref bb), .val (.int us2), .val (.int us3), .val (.int us2), .val (.int mv3), .val (.int unA), .val (.int unB), .val (.int mv14), .val (.ref (A 0)), .val (.int (q133.1)), .val (.int w138), .val (.int w140), .val (.int (q141.1)), .val (.int (q143.1)), .val (.int (q145.1)), .val (.int (q147.1))] [])) (fun _ k => XS.icmpNo X148.here hx rfl (hb hby at_239) rfl (XT.ii_ne_f hc150) k) ?_
            refine own_by (B := T148.setTop (mkF m 244 #[.val (.int ua), .val (.int ub), .val (.int uc), .val (.ref ba), .val (.ref bb), .val (.int us2), .val (.int us3), .val (.int us2), .val (.int mv3), .val (.int unA), .val (.int unB), .val (.int mv14), .val (.ref (A 0)), .val (.int (q133.1)), .val (.int w138), .val (.int w140), .val (.int (q141.1)), .val (.int (q143.1)), .val (.int (q145.1)), .val (.int (q147.1))] [(.int (q143.1))])) (fun _ k => XS.iload X148.here hx rfl (hb hby at_242) rfl  k) ?_
            refine own_by (B := T148.setTop (mkF m 246 #[.val (.int ua), .val (.int ub), .val (.int uc), .val (.ref ba), .val (.ref bb), .val (.int us2), .val (.int us3), .val (.int us2), .val (.int mv3), .val (.int unA), .val (.int unB), .val (.int mv14), .val (.ref (A 0)), .val (.int (q133.1)), .val (.int w138), .val (.int w140), .val (.int (q141.1)), .val (.int (q143.1)), .val (.int (q145.1)), .val (.int (q147.1))] [(.ref bb), (.int (q143.1))])) (fun _ k => XS.aload X148.here hx rfl (hb hby at_244) rfl rfl  k) ?_
            refine own_by (B := T148.setTop (mkF m 247 #[.val (.int ua), .val (.int ub), .val (.int uc), .val (.ref ba), .val (.ref bb), .val (.int us2), .val (.int us3), .val (.int us2), .val (.int mv3), .val (.int unA), .val (.int unB), .val (.int mv14), .val (.ref (A 0)), .val (.int (q133.1)), .val (.int w138), .val (.int w140), .val (.int (q141.1)), .val (.int (q143.1)), .val (.int (q145.1)), .val (.int (q147.1))] [(.int (0 : Int32)), (.ref bb), (.int (q143.1))])) (fun _ k => XS.iconst X148.here hx rfl (hb hby at_246) k) ?_
            obtain ⟨w151, hw151, hF⟩ := own_bind hF
            refine own_by (B := T148.setTop (mkF m 248 #[.val (.int ua), .val (.int ub), .val (.int uc), .val (.ref ba), .val (.ref bb), .val (.int us2), .val (.int us3), .val (.int us2), .val (.int mv3), .val (.int unA), .val (.int unB), .val (.int mv14), .val (.ref (A 0)), .val (.int (q133.1)), .val (.int w138), .val (.int w140), .val (.int (q141.1)), .val (.int (q143.1)), .val (.int (q145.1)), .val (.int (q147.1))] [(.int w151), (.int (q143.1))])) (own_ldI X148 hx hZ e148 ((own_PS_cc PC148) _ _ (rfl : ([La, Lb] : List (List Int32))[1]? = some Lb)).1 hw151 (g := (mkF m 247 #[.val (.int ua), .val (.int ub), .val (.int uc), .val (.ref ba), .val (.ref bb), .val (.int us2), .val (.int us3), .val (.int us2), .val (.int mv3), .val (.int unA), .val (.int unB), .val (.int mv14), .val (.ref (A 0)), .val (.int (q133.1)), .val (.int w138), .val (.int w140), .val (.int (q141.1)), .val (.int (q143.1)), .val (.int (q145.1)), .val (.int (q147.1))] [(.int (0 : Int32)), (.ref bb), (.int (q143.1))])) rfl rfl (hb hby at_247)) ?_
            by_cases hc152 : (q143.1) = w151
            · rw [if_pos hc152] at hF
              refine own_by (B := T148.setTop (mkF m 251 #[.val (.int ua), .val (.int ub), .val (.int uc), .val (.ref ba), .val (.ref bb), .val (.int us2), .val (.int us3), .val (.int us2), .val (.int mv3), .val (.int unA), .val (.int unB), .val (.int mv14), .val (.ref (A 0)), .val (.int (q133.1)), .val (.int w138), .val (.int w140), .val (.int (q141.1)), .val (.int (q143.1)), .val (.int (q145.1)), .val (.int (q147.1))] [])) (fun _ k => XS.icmpNo X148.here hx rfl (hb hby at_248) rfl (XT.ii_ne_f hc152) k) ?_
              refine own_by (B := T148.setTop (mkF m 253 #[.val (.int ua), .val (.int ub), .val (.int uc), .val (.ref ba), .val (.ref bb), .val (.int us2), .val (.int us3), .val (.int us2), .val (.int mv3), .val (.int unA), .val (.int unB), .val (.int mv14), .val (.ref (A 0)), .val (.int (q133.1)), .val (.int w138), .val (.int w140), .val (.int (q141.1)), .val (.int (q143.1)), .val (.int (q145.1)), .val (.int (q147.1))] [(.int (q145.1))])) (fun _ k => XS.iload X148.here hx rfl (hb hby at_251) rfl  k) ?_
              refine own_by (B := T148.setTop (mkF m 255 #[.val (.int ua), .val (.int ub), .val (.int uc), .val (.ref ba), .val (.ref bb), .val (.int us2), .val (.int us3), .val (.int us2), .val (.int mv3), .val (.int unA), .val (.int unB), .val (.int mv14), .val (.ref (A 0)), .val (.int (q133.1)), .val (.int w138), .val (.int w140), .val (.int (q141.1)), .val (.int (q143.1)), .val (.int (q145.1)), .val (.int (q147.1))] [(.int w138), (.int (q145.1))])) (fun _ k => XS.iload X148.here hx rfl (hb hby at_253) rfl  k) ?_
              by_cases hc153 : (q145.1) = w138
              · rw [if_pos hc153] at hF
                refine own_by (B := T148.setTop (mkF m 258 #[.val (.int ua), .val (.int ub), .val (.int uc), .val (.ref ba), .val (.ref bb), .val (.int us2), .val (.int us3), .val (.int us2), .val (.int mv3), .val (.int unA), .val (.int unB), .val (.int mv14), .val (.ref (A 0)), .val (.int (q133.1)), .val (.int w138), .val (.int w140), .val (.int (q141.1)), .val (.int (q143.1)), .val (.int (q145.1)), .val (.int (q147.1))] [])) (fun _ k => XS.icmpNo X148.here hx rfl (hb hby at_255) rfl (XT.ii_ne_f hc153) k) ?_
                refine own_by (B := T148.setTop (mkF m 260 #[.val (.int ua), .val (.int ub), .val (.int uc), .val (.ref ba), .val (.ref bb), .val (.int us2), .val (.int us3), .val (.int us2), .val (.int mv3), .val (.int unA), .val (.int unB), .val (.int mv14), .val (.ref (A 0)), .val (.int (q133.1)), .val (.int w138), .val (.int w140), .val (.int (q141.1)), .val (.int (q143.1)), .val (.int (q145.1)), .val (.int (q147.1))] [(.int (q147.1))])) (fun _ k => XS.iload X148.here hx rfl (hb hby at_258) rfl  k) ?_
                refine own_by (B := T148.setTop (mkF m 262 #[.val (.int ua), .val (.int ub), .val (.int uc), .val (.ref ba), .val (.ref bb), .val (.int us2), .val (.int us3), .val (.int us2), .val (.int mv3), .val (.int unA), .val (.int unB), .val (.int mv14), .val (.ref (A 0)), .val (.int (q133.1)), .val (.int w138), .val (.int w140), .val (.int (q141.1)), .val (.int (q143.1)), .val (.int (q145.1)), .val (.int (q147.1))] [(.int w140), (.int (q147.1))])) (fun _ k => XS.iload X148.here hx rfl (hb hby at_260) rfl  k) ?_
                by_cases hc154 : (q147.1) = w140
                · rw [if_pos hc154] at hF
                  refine own_by (B := T148.setTop (mkF m 265 #[.val (.int ua), .val (.int ub), .val (.int uc), .val (.ref ba), .val (.ref bb), .val (.int us2), .val (.int us3), .val (.int us2), .val (.int mv3), .val (.int unA), .val (.int unB), .val (.int mv14), .val (.ref (A 0)), .val (.int (q133.1)), .val (.int w138), .val (.int w140), .val (.int (q141.1)), .val (.int (q143.1)), .val (.int (q145.1)), .val (.int (q147.1))] [])) (fun _ k => XS.icmpNo X148.here hx rfl (hb hby at_262) rfl (XT.ii_ne_f hc154) k) ?_
                  refine own_by (B := T148.setTop (mkF m 266 #[.val (.int ua), .val (.int ub), .val (.int uc), .val (.ref ba), .val (.ref bb), .val (.int us2), .val (.int us3), .val (.int us2), .val (.int mv3), .val (.int unA), .val (.int unB), .val (.int mv14), .val (.ref (A 0)), .val (.int (q133.1)), .val (.int w138), .val (.int w140), .val (.int (q141.1)), .val (.int (q143.1)), .val (.int (q145.1)), .val (.int (q147.1))] [(.int (1 : Int32))])) (fun _ k => XS.iconst X148.here hx rfl (hb hby at_265) k) ?_
                  refine own_by (B := T148.setTop (mkF m 270 #[.val (.int ua), .val (.int ub), .val (.int uc), .val (.ref ba), .val (.ref bb), .val (.int us2), .val (.int us3), .val (.int us2), .val (.int mv3), .val (.int unA), .val (.int unB), .val (.int mv14), .val (.ref (A 0)), .val (.int (q133.1)), .val (.int w138), .val (.int w140), .val (.int (q141.1)), .val (.int (q143.1)), .val (.int (q145.1)), .val (.int (q147.1))] [(.int (1 : Int32))])) (fun _ k => XS.goto X148.here hx rfl (pc0 := 266) (pc' := 270) rfl (hb hby at_266) (by decide) (by decide) k) ?_
                  exact own_retZ X148 hx hrt hlk rfl (hb hby at_270) (by decide) (by decide) ⟨rfl, N148⟩
                · rw [if_neg hc154] at hF
                  refine own_by (B := T148.setTop (mkF m 269 #[.val (.int ua), .val (.int ub), .val (.int uc), .val (.ref ba), .val (.ref bb), .val (.int us2), .val (.int us3), .val (.int us2), .val (.int mv3), .val (.int unA), .val (.int unB), .val (.int mv14), .val (.ref (A 0)), .val (.int (q133.1)), .val (.int w138), .val (.int w140), .val (.int (q141.1)), .val (.int (q143.1)), .val (.int (q145.1)), .val (.int (q147.1))] [])) (fun _ k => XS.icmpYes X148.here hx rfl (pc0 := 262) (pc' := 269) rfl (hb hby at_262) rfl (XT.ii_ne_t hc154) (by decide) (by decide) k) ?_
                  refine own_by (B := T148.setTop (mkF m 270 #[.val (.int ua), .val (.int ub), .val (.int uc), .val (.ref ba), .val (.ref bb), .val (.int us2), .val (.int us3), .val (.int us2), .val (.int mv3), .val (.int unA), .val (.int unB), .val (.int mv14), .val (.ref (A 0)), .val (.int (q133.1)), .val (.int w138), .val (.int w140), .val (.int (q141.1)), .val (.int (q143.1)), .val (.int (q145.1)), .val (.int (q147.1))] [(.int (0 : Int32))])) (fun _ k => XS.iconst X148.here hx rfl (hb hby at_269) k) ?_
                  exact absurd (Option.some.inj hF) (by decide)
              · rw [if_neg hc153] at hF
                refine own_by (B := T148.setTop (mkF m 269 #[.val (.int ua), .val (.int ub), .val (.int uc), .val (.ref ba), .val (.ref bb), .val (.int us2), .val (.int us3), .val (.int us2), .val (.int mv3), .val (.int unA), .val (.int unB), .val (.int mv14), .val (.ref (A 0)), .val (.int (q133.1)), .val (.int w138), .val (.int w140), .val (.int (q141.1)), .val (.int (q143.1)), .val (.int (q145.1)), .val (.int (q147.1))] [])) (fun _ k => XS.icmpYes X148.here hx rfl (pc0 := 255) (pc' := 269) rfl (hb hby at_255) rfl (XT.ii_ne_t hc153) (by decide) (by decide) k) ?_
                refine own_by (B := T148.setTop (mkF m 270 #[.val (.int ua), .val (.int ub), .val (.int uc), .val (.ref ba), .val (.ref bb), .val (.int us2), .val (.int us3), .val (.int us2), .val (.int mv3), .val (.int unA), .val (.int unB), .val (.int mv14), .val (.ref (A 0)), .val (.int (q133.1)), .val (.int w138), .val (.int w140), .val (.int (q141.1)), .val (.int (q143.1)), .val (.int (q145.1)), .val (.int (q147.1))] [(.int (0 : Int32))])) (fun _ k => XS.iconst X148.here hx rfl (hb hby at_269) k) ?_
                exact absurd (Option.some.inj hF) (by decide)
            · rw [if_neg hc152] at hF
              refine own_by (B := T148.setTop (mkF m 269 #[.val (.int ua), .val (.int ub), .val (.int uc), .val (.ref ba), .val (.ref bb), .val (.int us2), .val (.int us3), .val (.int us2), .val (.int mv3), .val (.int unA), .val (.int unB), .val (.int mv14), .val (.ref (A 0)), .val (.int (q133.1)), .val (.int w138), .val (.int w140), .val (.int (q141.1)), .val (.int (q143.1)), .val (.int (q145.1)), .val (.int (q147.1))] [])) (fun _ k => XS.icmpYes X148.here hx rfl (pc0 := 248) (pc' := 269) rfl (hb hby at_248) rfl (XT.ii_ne_t hc152) (by decide) (by decide) k) ?_
              refine own_by (B := T148.setTop (mkF m 270 #[.val (.int ua), .val (.int ub), .val (.int uc), .val (.ref ba), .val (.ref bb), .val (.int us2), .val (.int us3), .val (.int us2), .val (.int mv3), .val (.int unA), .val (.int unB), .val (.int mv14), .val (.ref (A 0)), .val (.int (q133.1)), .val (.int w138), .val (.int w140), .val (.int (q141.1)), .val (.int (q143.1)), .val (.int (q145.1)), .val (.int (q147.1))] [(.int (0 : Int32))])) (fun _ k => XS.iconst X148.here hx rfl (hb hby at_269) k) ?_
              exact absurd (Option.some.inj hF) (by decide)
          · rw [if_neg hc150] at hF
            refine own_by (B := T148.setTop (mkF m 269 #[.val (.int ua), .val (.int ub), .val (.int uc), .val (.ref ba), .val (.ref bb), .val (.int us2), .val (.int us3), .val (.int us2), .val (.int mv3), .val (.int unA), .val (.int unB), .val (.int mv14), .val (.ref (A 0)), .val (.int (q133.1)), .val (.int w138), .val (.int w140), .val (.int (q141.1)), .val (.int (q143.1)), .val (.int (q145.1)), .val (.int (q147.1))] [])) (fun _ k => XS.icmpYes X148.here hx rfl (pc0 := 239) (pc' := 269) rfl (hb hby at_239) rfl (XT.ii_ne_t hc150) (by decide) (by decide) k) ?_
            refine own_by (B := T148.setTop (mkF m 270 #[.val (.int ua), .val (.int ub), .val (.int uc), .val (.ref ba), .val (.ref bb), .val (.int us2), .val (.int us3), .val (.int us2), .val (.int mv3), .val (.int unA), .val (.int unB), .val (.int mv14), .val (.ref (A 0)), .val (.int (q133.1)), .val (.int w138), .val (.int w140), .val (.int (q141.1)), .val (.int (q143.1)), .val (.int (q145.1)), .val (.int (q147.1))] [(.int (0 : Int32))])) (fun _ k => XS.iconst X148.here hx rfl (hb hby at_269) k) ?_
            exact absurd (Option.some.inj hF) (by decide)
        · rw [if_neg hc139] at hF
          refine own_by (B := T134.setTop (mkF m 193 #[.val (.int ua), .val (.int ub), .val (.int uc), .val (.ref ba), .val (.ref bb), .val (.int us2), .val (.int us3), .val (.int us2), .val (.int mv3), .val (.int unA), .val (.int unB), .val (.int mv14), .val (.ref (A 0)), .val (.int (q133.1)), .val (.int w138), .unset, .unset, .unset, .unset, .unset] [])) (fun _ k => XS.ifYes X134.here hx rfl (pc0 := 181) (pc' := 193) rfl (hb hby at_181) rfl (XT.i0_ne_t hc139) (by decide) (by decide) k) ?_
          refine own_by (B := T134.setTop (mkF m 195 #[.val (.int ua), .val (.int ub), .val (.int uc), .val (.ref ba), .val (.ref bb), .val (.int us2), .val (.int us3), .val (.int us2), .val (.int mv3), .val (.int unA), .val (.int unB), .val (.int mv14), .val (.ref (A 0)), .val (.int (q133.1)), .val (.int w138), .unset, .unset, .unset, .unset, .unset] [(.ref bb)])) (fun _ k => XS.aload X134.here hx rfl (hb hby at_193) rfl rfl  k) ?_
          refine own_by (B := T134.setTop (mkF m 197 #[.val (.int ua), .val (.int ub), .val (.int uc), .val (.ref ba), .val (.ref bb), .val (.int us2), .val (.int us3), .val (.int us2), .val (.int mv3), .val (.int unA), .val (.int unB), .val (.int mv14), .val (.ref (A 0)), .val (.int (q133.1)), .val (.int w138), .unset, .unset, .unset, .unset, .unset] [(.int unB), (.ref bb)])) (fun _ k => XS.iload X134.here hx rfl (hb hby at_195) rfl  k) ?_
          refine own_by (B := T134.setTop (mkF m 198 #[.val (.int ua), .val (.int ub), .val (.int uc), .val (.ref ba), .val (.ref bb), .val (.int us2), .val (.int us3), .val (.int us2), .val (.int mv3), .val (.int unA), .val (.int unB), .val (.int mv14), .val (.ref (A 0)), .val (.int (q133.1)), .val (.int w138), .unset, .unset, .unset, .unset, .unset] [(.int (1 : Int32)), (.int unB), (.ref bb)])) (fun _ k => XS.iconst X134.here hx rfl (hb hby at_197) k) ?_
          refine own_by (B := T134.setTop (mkF m 199 #[.val (.int ua), .val (.int ub), .val (.int uc), .val (.ref ba), .val (.ref bb), .val (.int us2), .val (.int us3), .val (.int us2), .val (.int mv3), .val (.int unA), .val (.int unB), .val (.int mv14), .val (.ref (A 0)), .val (.int (q133.1)), .val (.int w138), .unset, .unset, .unset, .unset, .unset] [(.int (unB - (1 : Int32))), (.ref bb)])) (fun _ k => XS.isub X134.here hx rfl (hb hby at_198) rfl k) ?_
          obtain ⟨w155, hw155, hF⟩ := own_bind hF
          refine own_by (B := T134.setTop (mkF m 200 #[.val (.int ua), .val (.int ub), .val (.int uc), .val (.ref ba), .val (.ref bb), .val (.int us2), .val (.int us3), .val (.int us2), .val (.int mv3), .val (.int unA), .val (.int unB), .val (.int mv14), .val (.ref (A 0)), .val (.int (q133.1)), .val (.int w138), .unset, .unset, .unset, .unset, .unset] [(.int w155)])) (own_ldI X134 hx hZ e134 ((own_PS_cc PC134) _ _ (rfl : ([La, Lb] : List (List Int32))[1]? = some Lb)).1 hw155 (g := (mkF m 199 #[.val (.int ua), .val (.int ub), .val (.int uc), .val (.ref ba), .val (.ref bb), .val (.int us2), .val (.int us3), .val (.int us2), .val (.int mv3), .val (.int unA), .val (.int unB), .val (.int mv14), .val (.ref (A 0)), .val (.int (q133.1)), .val (.int w138), .unset, .unset, .unset, .unset, .unset] [(.int (unB - (1 : Int32))), (.ref bb)])) rfl rfl (hb hby at_199)) ?_
          refine own_by (B := T134.setTop (mkF m 202 #[.val (.int ua), .val (.int ub), .val (.int uc), .val (.ref ba), .val (.ref bb), .val (.int us2), .val (.int us3), .val (.int us2), .val (.int mv3), .val (.int unA), .val (.int unB), .val (.int mv14), .val (.ref (A 0)), .val (.int (q133.1)), .val (.int w138), .val (.int w155), .unset, .unset, .unset, .unset] [])) (fun _ k => XS.istore X134.here hx rfl (hb hby at_200) rfl (l' := #[.val (.int ua), .val (.int ub), .val (.int uc), .val (.ref ba), .val (.ref bb), .val (.int us2), .val (.int us3), .val (.int us2), .val (.int mv3), .val (.int unA), .val (.int unB), .val (.int mv14), .val (.ref (A 0)), .val (.int (q133.1)), .val (.int w138), .val (.int w155), .unset, .unset, .unset, .unset]) rfl k) ?_
          refine own_by (B := T134.setTop (mkF m 204 #[.val (.int ua), .val (.int ub), .val (.int uc), .val (.ref ba), .val (.ref bb), .val (.int us2), .val (.int us3), .val (.int us2), .val (.int mv3), .val (.int unA), .val (.int unB), .val (.int mv14), .val (.ref (A 0)), .val (.int (q133.1)), .val (.int w138), .val (.int w155), .unset, .unset, .unset, .unset] [(.ref (A 0))])) (fun _ k => XS.aload X134.here hx rfl (hb hby at_202) rfl rfl  k) ?_
          refine own_by (B := T134.setTop (mkF m 205 #[.val (.int ua), .val (.int ub), .val (.int uc), .val (.ref ba), .val (.ref bb), .val (.int us2), .val (.int us3), .val (.int us2), .val (.int mv3), .val (.int unA), .val (.int unB), .val (.int mv14), .val (.ref (A 0)), .val (.int (q133.1)), .val (.int w138), .val (.int w155), .unset, .unset, .unset, .unset] [(.int (0 : Int32)), (.ref (A 0))])) (fun _ k => XS.iconst X134.here hx rfl (hb hby at_204) k) ?_
          obtain ⟨q156, hq156, hF⟩ := own_bind hF
          obtain ⟨cq157, kq157, qa157, qb157, qc157⟩ := isOf hZ e134 (own_PS_E PC134)
          obtain ⟨_, _, ⟨T157, L157, k157, n157⟩, -, X157, ⟨Lc157, hQ157, l157, y157, z157⟩, st157⟩ := X134.virtualBack hx (y := (⟨"com/example/document_pattern_rules/documentpatternrules/pattern/Pairing", "lowest", "(I)I"⟩ : MethodName)) (z := (⟨"com/example/document_pattern_rules/documentpatternrules/pattern/Pairing", "lowest", "(I)I"⟩ : MethodName)) hown (mvT hZ (hw _ (List.mem_of_getElem? (i := 78) rfl))) (mvT hZ (hw _ (List.mem_of_getElem? (i := 79) rfl))) (notFace_of_selects (args := #[]) (mvT hZ (hw _ (List.mem_of_getElem? (i := 81) rfl)))) (mvT hZ (hw _ (List.mem_of_getElem? (i := 81) rfl))) (mvT hZ (hw _ (List.mem_of_getElem? (i := 80) rfl))) (by decide) (backOf (W := 0) (rm_lowest l Z a0 hw [] A K (4 : Int32) (12 : Int32) (own_two ba bb) (own_two kka kkb) [La, Lb] (q133.2) _ (0 : Int32) h134 n0 (Nat.le_trans (own_PS_gn PC134).1 (Nat.le_of_lt (own_PS_E PC134).lt)) PC134 hq156) hZ (hw _ (List.mem_of_getElem? (i := 82) rfl)) (hw _ (List.mem_of_getElem? (i := 7) rfl)) (by decide) (by decide)) qa157 qc157 (g := (mkF m 205 #[.val (.int ua), .val (.int ub), .val (.int uc), .val (.ref ba), .val (.ref bb), .val (.int us2), .val (.int us3), .val (.int us2), .val (.int mv3), .val (.int unA), .val (.int unB), .val (.int mv14), .val (.ref (A 0)), .val (.int (q133.1)), .val (.int w138), .val (.int w155), .unset, .unset, .unset, .unset] [(.int (0 : Int32)), (.ref (A 0))])) rfl (by rw [hml]; rfl) (Steps.refl _) (argsL := [(.int (0 : Int32))]) (rest := []) (lenOf pd_0__I_I rfl) rfl (by show 2 * 0 + _ ≤ _; exact Nat.le_of_eq rfl) (hb hby at_205) (fun _ _ => ⟨rfl, e134, (by decide : 15 + 0 ≤ _), (by decide : 84 + 0 ≤ _)⟩)
          dsimp only [Pt.U, Pt.locs, Pt.cells, Pt.slots] at X157 l157 y157 z157 st157 hQ157
          subst l157 y157 z157
          obtain ⟨rfl, NC157, PC157⟩ := hQ157
          refine own_by (B := T157.setTop (mkF m 208 #[.val (.int ua), .val (.int ub), .val (.int uc), .val (.ref ba), .val (.ref bb), .val (.int us2), .val (.int us3), .val (.int us2), .val (.int mv3), .val (.int unA), .val (.int unB), .val (.int mv14), .val (.ref (A 0)), .val (.int (q133.1)), .val (.int w138), .val (.int w155), .unset, .unset, .unset, .unset] [(.int (q156.1))])) (fun _ k => st157.trans k) ?_
          obtain ⟨h157, e157⟩ : ∃ z, T157.heap = z := ⟨_, rfl⟩
          rw [e157] at PC157
          have N157 := Fr.app N134 NC157
          refine own_by (B := T157.setTop (mkF m 210 #[.val (.int ua), .val (.int ub), .val (.int uc), .val (.ref ba), .val (.ref bb), .val (.int us2), .val (.int us3), .val (.int us2), .val (.int mv3), .val (.int unA), .val (.int unB), .val (.int mv14), .val (.ref (A 0)), .val (.int (q133.1)), .val (.int w138), .val (.int w155), .val (.int (q156.1)), .unset, .unset, .unset] [])) (fun _ k => XS.istore X157.here hx rfl (hb hby at_208) rfl (l' := #[.val (.int ua), .val (.int ub), .val (.int uc), .val (.ref ba), .val (.ref bb), .val (.int us2), .val (.int us3), .val (.int us2), .val (.int mv3), .val (.int unA), .val (.int unB), .val (.int mv14), .val (.ref (A 0)), .val (.int (q133.1)), .val (.int w138), .val (.int w155), .val (.int (q156.1)), .unset, .unset, .unset]) rfl k) ?_
          refine own_by (B := T157.setTop (mkF m 212 #[.val (.int ua), .val (.int ub), .val (.int uc), .val (.ref ba), .val (.ref bb), .val (.int us2), .val (.int us3), .val (.int us2), .val (.int mv3), .val (.int unA), .val (.int unB), .val (.int mv14), .val (.ref (A 0)), .val (.int (q133.1)), .val (.int w138), .val (.int w155), .val (.int (q156.1)), .unset, .unset, .unset] [(.ref (A 0))])) (fun _ k => XS.aload X157.here hx rfl (hb hby at_210) rfl rfl  k) ?_
          refine own_by (B := T157.setTop (mkF m 213 #[.val (.int ua), .val (.int ub), .val (.int uc), .val (.ref ba), .val (.ref bb), .val (.int us2), .val (.int us3), .val (.int us2), .val (.int mv3), .val (.int unA), .val (.int unB), .val (.int mv14), .val (.ref (A 0)), .val (.int (q133.1)), .val (.int w138), .val (.int w155), .val (.int (q156.1)), .unset, .unset, .unset] [(.int (1 : Int32)), (.ref (A 0))])) (fun _ k => XS.iconst X157.here hx rfl (hb hby at_212) k) ?_
          obtain ⟨q158, hq158, hF⟩ := own_bind hF
          obtain ⟨cq159, kq159, qa159, qb159, qc159⟩ := isOf hZ e157 (own_PS_E PC157)
          obtain ⟨_, _, ⟨T159, L159, k159, n159⟩, -, X159, ⟨Lc159, hQ159, l159, y159, z159⟩, st159⟩ := X157.virtualBack hx (y := (⟨"com/example/document_pattern_rules/documentpatternrules/pattern/Pairing", "lowest", "(I)I"⟩ : MethodName)) (z := (⟨"com/example/document_pattern_rules/documentpatternrules/pattern/Pairing", "lowest", "(I)I"⟩ : MethodName)) hown (mvT hZ (hw _ (List.mem_of_getElem? (i := 78) rfl))) (mvT hZ (hw _ (List.mem_of_getElem? (i := 79) rfl))) (notFace_of_selects (args := #[]) (mvT hZ (hw _ (List.mem_of_getElem? (i := 81) rfl)))) (mvT hZ (hw _ (List.mem_of_getElem? (i := 81) rfl))) (mvT hZ (hw _ (List.mem_of_getElem? (i := 80) rfl))) (by decide) (backOf (W := 0) (rm_lowest l Z a0 hw [] A K (4 : Int32) (12 : Int32) (own_two ba bb) (own_two kka kkb) [La, Lb] (q156.2) _ (1 : Int32) h157 n0 (Nat.le_trans (own_PS_gn PC157).1 (Nat.le_of_lt (own_PS_E PC157).lt)) PC157 hq158) hZ (hw _ (List.mem_of_getElem? (i := 82) rfl)) (hw _ (List.mem_of_getElem? (i := 7) rfl)) (by decide) (by decide)) qa159 qc159 (g := (mkF m 213 #[.val (.int ua), .val (.int ub), .val (.int uc), .val (.ref ba), .val (.ref bb), .val (.int us2), .val (.int us3), .val (.int us2), .val (.int mv3), .val (.int unA), .val (.int unB), .val (.int mv14), .val (.ref (A 0)), .val (.int (q133.1)), .val (.int w138), .val (.int w155), .val (.int (q156.1)), .unset, .unset, .unset] [(.int (1 : Int32)), (.ref (A 0))])) rfl (by rw [hml]; rfl) (Steps.refl _) (argsL := [(.int (1 : Int32))]) (rest := []) (lenOf pd_0__I_I rfl) rfl (by show 2 * 0 + _ ≤ _; exact Nat.le_of_eq rfl) (hb hby at_213) (fun _ _ => ⟨rfl, e157, (by decide : 15 + 0 ≤ _), (by decide : 84 + 0 ≤ _)⟩)
          dsimp only [Pt.U, Pt.locs, Pt.cells, Pt.slots] at X159 l159 y159 z159 st159 hQ159
          subst l159 y159 z159
          obtain ⟨rfl, NC159, PC159⟩ := hQ159
          refine own_by (B := T159.setTop (mkF m 216 #[.val (.int ua), .val (.int ub), .val (.int uc), .val (.ref ba), .val (.ref bb), .val (.int us2), .val (.int us3), .val (.int us2), .val (.int mv3), .val (.int unA), .val (.int unB), .val (.int mv14), .val (.ref (A 0)), .val (.int (q133.1)), .val (.int w138), .val (.int w155), .val (.int (q156.1)), .unset, .unset, .unset] [(.int (q158.1))])) (fun _ k => st159.trans k) ?_
          obtain ⟨h159, e159⟩ : ∃ z, T159.heap = z := ⟨_, rfl⟩
          rw [e159] at PC159
          have N159 := Fr.app N157 NC159
          refine own_by (B := T159.setTop (mkF m 218 #[.val (.int ua), .val (.int ub), .val (.int uc), .val (.ref ba), .val (.ref bb), .val (.int us2), .val (.int us3), .val (.int us2), .val (.int mv3), .val (.int unA), .val (.int unB), .val (.int mv14), .val (.ref (A 0)), .val (.int (q133.1)), .val (.int w138), .val (.int w155), .val (.int (q156.1)), .val (.int (q158.1)), .unset, .unset] [])) (fun _ k => XS.istore X159.here hx rfl (hb hby at_216) rfl (l' := #[.val (.int ua), .val (.int ub), .val (.int uc), .val (.ref ba), .val (.ref bb), .val (.int us2), .val (.int us3), .val (.int us2), .val (.int mv3), .val (.int unA), .val (.int unB), .val (.int mv14), .val (.ref (A 0)), .val (.int (q133.1)), .val (.int w138), .val (.int w155), .val (.int (q156.1)), .val (.int (q158.1)), .unset, .unset]) rfl k) ?_
          refine own_by (B := T159.setTop (mkF m 220 #[.val (.int ua), .val (.int ub), .val (.int uc), .val (.ref ba), .val (.ref bb), .val (.int us2), .val (.int us3), .val (.int us2), .val (.int mv3), .val (.int unA), .val (.int unB), .val (.int mv14), .val (.ref (A 0)), .val (.int (q133.1)), .val (.int w138), .val (.int w155), .val (.int (q156.1)), .val (.int (q158.1)), .unset, .unset] [(.ref (A 0))])) (fun _ k => XS.aload X159.here hx rfl (hb hby at_218) rfl rfl  k) ?_
          refine own_by (B := T159.setTop (mkF m 221 #[.val (.int ua), .val (.int ub), .val (.int uc), .val (.ref ba), .val (.ref bb), .val (.int us2), .val (.int us3), .val (.int us2), .val (.int mv3), .val (.int unA), .val (.int unB), .val (.int mv14), .val (.ref (A 0)), .val (.int (q133.1)), .val (.int w138), .val (.int w155), .val (.int (q156.1)), .val (.int (q158.1)), .unset, .unset] [(.int (2 : Int32)), (.ref (A 0))])) (fun _ k => XS.iconst X159.here hx rfl (hb hby at_220) k) ?_
          obtain ⟨q160, hq160, hF⟩ := own_bind hF
          obtain ⟨cq161, kq161, qa161, qb161, qc161⟩ := isOf hZ e159 (own_PS_E PC159)
          obtain ⟨_, _, ⟨T161, L161, k161, n161⟩, -, X161, ⟨Lc161, hQ161, l161, y161, z161⟩, st161⟩ := X159.virtualBack hx (y := (⟨"com/example/document_pattern_rules/documentpatternrules/pattern/Pairing", "lowest", "(I)I"⟩ : MethodName)) (z := (⟨"com/example/document_pattern_rules/documentpatternrules/pattern/Pairing", "lowest", "(I)I"⟩ : MethodName)) hown (mvT hZ (hw _ (List.mem_of_getElem? (i := 78) rfl))) (mvT hZ (hw _ (List.mem_of_getElem? (i := 79) rfl))) (notFace_of_selects (args := #[]) (mvT hZ (hw _ (List.mem_of_getElem? (i := 81) rfl)))) (mvT hZ (hw _ (List.mem_of_getElem? (i := 81) rfl))) (mvT hZ (hw _ (List.mem_of_getElem? (i := 80) rfl))) (by decide) (backOf (W := 0) (rm_lowest l Z a0 hw [] A K (4 : Int32) (12 : Int32) (own_two ba bb) (own_two kka kkb) [La, Lb] (q158.2) _ (2 : Int32) h159 n0 (Nat.le_trans (own_PS_gn PC159).1 (Nat.le_of_lt (own_PS_E PC159).lt)) PC159 hq160) hZ (hw _ (List.mem_of_getElem? (i := 82) rfl)) (hw _ (List.mem_of_getElem? (i := 7) rfl)) (by decide) (by decide)) qa161 qc161 (g := (mkF m 221 #[.val (.int ua), .val (.int ub), .val (.int uc), .val (.ref ba), .val (.ref bb), .val (.int us2), .val (.int us3), .val (.int us2), .val (.int mv3), .val (.int unA), .val (.int unB), .val (.int mv14), .val (.ref (A 0)), .val (.int (q133.1)), .val (.int w138), .val (.int w155), .val (.int (q156.1)), .val (.int (q158.1)), .unset, .unset] [(.int (2 : Int32)), (.ref (A 0))])) rfl (by rw [hml]; rfl) (Steps.refl _) (argsL := [(.int (2 : Int32))]) (rest := []) (lenOf pd_0__I_I rfl) rfl (by show 2 * 0 + _ ≤ _; exact Nat.le_of_eq rfl) (hb hby at_221) (fun _ _ => ⟨rfl, e159, (by decide : 15 + 0 ≤ _), (by decide : 84 + 0 ≤ _)⟩)
          dsimp only [Pt.U, Pt.locs, Pt.cells, Pt.slots] at X161 l161 y161 z161 st161 hQ161
          subst l161 y161 z161
          obtain ⟨rfl, NC161, PC161⟩ := hQ161
          refine own_by (B := T161.setTop (mkF m 224 #[.val (.int ua), .val (.int ub), .val (.int uc), .val (.ref ba), .val (.ref bb), .val (.int us2), .val (.int us3), .val (.int us2), .val (.int mv3), .val (.int unA), .val (.int unB), .val (.int mv14), .val (.ref (A 0)), .val (.int (q133.1)), .val (.int w138), .val (.int w155), .val (.int (q156.1)), .val (.int (q158.1)), .unset, .unset] [(.int (q160.1))])) (fun _ k => st161.trans k) ?_
          obtain ⟨h161, e161⟩ : ∃ z, T161.heap = z := ⟨_, rfl⟩
          rw [e161] at PC161
          have N161 := Fr.app N159 NC161
          refine own_by (B := T161.setTop (mkF m 226 #[.val (.int ua), .val (.int ub), .val (.int uc), .val (.ref ba), .val (.ref bb), .val (.int us2), .val (.int us3), .val (.int us2), .val (.int mv3), .val (.int unA), .val (.int unB), .val (.int mv14), .val (.ref (A 0)), .val (.int (q133.1)), .val (.int w138), .val (.int w155), .val (.int (q156.1)), .val (.int (q158.1)), .val (.int (q160.1)), .unset] [])) (fun _ k => XS.istore X161.here hx rfl (hb hby at_224) rfl (l' := #[.val (.int ua), .val (.int ub), .val (.int uc), .val (.ref ba), .val (.ref bb), .val (.int us2), .val (.int us3), .val (.int us2), .val (.int mv3), .val (.int unA), .val (.int unB), .val (.int mv14), .val (.ref (A 0)), .val (.int (q133.1)), .val (.int w138), .val (.int w155), .val (.int (q156.1)), .val (.int (q158.1)), .val (.int (q160.1)), .unset]) rfl k) ?_
          refine own_by (B := T161.setTop (mkF m 228 #[.val (.int ua), .val (.int ub), .val (.int uc), .val (.ref ba), .val (.ref bb), .val (.int us2), .val (.int us3), .val (.int us2), .val (.int mv3), .val (.int unA), .val (.int unB), .val (.int mv14), .val (.ref (A 0)), .val (.int (q133.1)), .val (.int w138), .val (.int w155), .val (.int (q156.1)), .val (.int (q158.1)), .val (.int (q160.1)), .unset] [(.ref (A 0))])) (fun _ k => XS.aload X161.here hx rfl (hb hby at_226) rfl rfl  k) ?_
          refine own_by (B := T161.setTop (mkF m 229 #[.val (.int ua), .val (.int ub), .val (.int uc), .val (.ref ba), .val (.ref bb), .val (.int us2), .val (.int us3), .val (.int us2), .val (.int mv3), .val (.int unA), .val (.int unB), .val (.int mv14), .val (.ref (A 0)), .val (.int (q133.1)), .val (.int w138), .val (.int w155), .val (.int (q156.1)), .val (.int (q158.1)), .val (.int (q160.1)), .unset] [(.int (3 : Int32)), (.ref (A 0))])) (fun _ k => XS.iconst X161.here hx rfl (hb hby at_228) k) ?_
          obtain ⟨q162, hq162, hF⟩ := own_bind hF
          obtain ⟨cq163, kq163, qa163, qb163, qc163⟩ := isOf hZ e161 (own_PS_E PC161)
          obtain ⟨_, _, ⟨T163, L163, k163, n163⟩, -, X163, ⟨Lc163, hQ163, l163, y163, z163⟩, st163⟩ := X161.virtualBack hx (y := (⟨"com/example/document_pattern_rules/documentpatternrules/pattern/Pairing", "lowest", "(I)I"⟩ : MethodName)) (z := (⟨"com/example/document_pattern_rules/documentpatternrules/pattern/Pairing", "lowest", "(I)I"⟩ : MethodName)) hown (mvT hZ (hw _ (List.mem_of_getElem? (i := 78) rfl))) (mvT hZ (hw _ (List.mem_of_getElem? (i := 79) rfl))) (notFace_of_selects (args := #[]) (mvT hZ (hw _ (List.mem_of_getElem? (i := 81) rfl)))) (mvT hZ (hw _ (List.mem_of_getElem? (i := 81) rfl))) (mvT hZ (hw _ (List.mem_of_getElem? (i := 80) rfl))) (by decide) (backOf (W := 0) (rm_lowest l Z a0 hw [] A K (4 : Int32) (12 : Int32) (own_two ba bb) (own_two kka kkb) [La, Lb] (q160.2) _ (3 : Int32) h161 n0 (Nat.le_trans (own_PS_gn PC161).1 (Nat.le_of_lt (own_PS_E PC161).lt)) PC161 hq162) hZ (hw _ (List.mem_of_getElem? (i := 82) rfl)) (hw _ (List.mem_of_getElem? (i := 7) rfl)) (by decide) (by decide)) qa163 qc163 (g := (mkF m 229 #[.val (.int ua), .val (.int ub), .val (.int uc), .val (.ref ba), .val (.ref bb), .val (.int us2), .val (.int us3), .val (.int us2), .val (.int mv3), .val (.int unA), .val (.int unB), .val (.int mv14), .val (.ref (A 0)), .val (.int (q133.1)), .val (.int w138), .val (.int w155), .val (.int (q156.1)), .val (.int (q158.1)), .val (.int (q160.1)), .unset] [(.int (3 : Int32)), (.ref (A 0))])) rfl (by rw [hml]; rfl) (Steps.refl _) (argsL := [(.int (3 : Int32))]) (rest := []) (lenOf pd_0__I_I rfl) rfl (by show 2 * 0 + _ ≤ _; exact Nat.le_of_eq rfl) (hb hby at_229) (fun _ _ => ⟨rfl, e161, (by decide : 15 + 0 ≤ _), (by decide : 84 + 0 ≤ _)⟩)
          dsimp only [Pt.U, Pt.locs, Pt.cells, Pt.slots] at X163 l163 y163 z163 st163 hQ163
          subst l163 y163 z163
          obtain ⟨rfl, NC163, PC163⟩ := hQ163
          refine own_by (B := T163.setTop (mkF m 232 #[.val (.int ua), .val (.int ub), .val (.int uc), .val (.ref ba), .val (.ref bb), .val (.int us2), .val (.int us3), .val (.int us2), .val (.int mv3), .val (.int unA), .val (.int unB), .val (.int mv14), .val (.ref (A 0)), .val (.int (q133.1)), .val (.int w138), .val (.int w155), .val (.int (q156.1)), .val (.int (q158.1)), .val (.int (q160.1)), .unset] [(.int (q162.1))])) (fun _ k => st163.trans k) ?_
          obtain ⟨h163, e163⟩ : ∃ z, T163.heap = z := ⟨_, rfl⟩
          rw [e163] at PC163
          have N163 := Fr.app N161 NC163
          refine own_by (B := T163.setTop (mkF m 234 #[.val (.int ua), .val (.int ub), .val (.int uc), .val (.ref ba), .val (.ref bb), .val (.int us2), .val (.int us3), .val (.int us2), .val (.int mv3), .val (.int unA), .val (.int unB), .val (.int mv14), .val (.ref (A 0)), .val (.int (q133.1)), .val (.int w138), .val (.int w155), .val (.int (q156.1)), .val (.int (q158.1)), .val (.int (q160.1)), .val (.int (q162.1))] [])) (fun _ k => XS.istore X163.here hx rfl (hb hby at_232) rfl (l' := #[.val (.int ua), .val (.int ub), .val (.int uc), .val (.ref ba), .val (.ref bb), .val (.int us2), .val (.int us3), .val (.int us2), .val (.int mv3), .val (.int unA), .val (.int unB), .val (.int mv14), .val (.ref (A 0)), .val (.int (q133.1)), .val (.int w138), .val (.int w155), .val (.int (q156.1)), .val (.int (q158.1)), .val (.int (q160.1)), .val (.int (q162.1))]) rfl k) ?_
          refine own_by (B := T163.setTop (mkF m 236 #[.val (.int ua), .val (.int ub), .val (.int uc), .val (.ref ba), .val (.ref bb), .val (.int us2), .val (.int us3), .val (.int us2), .val (.int mv3), .val (.int unA), .val (.int unB), .val (.int mv14), .val (.ref (A 0)), .val (.int (q133.1)), .val (.int w138), .val (.int w155), .val (.int (q156.1)), .val (.int (q158.1)), .val (.int (q160.1)), .val (.int (q162.1))] [(.int (q156.1))])) (fun _ k => XS.iload X163.here hx rfl (hb hby at_234) rfl  k) ?_
          refine own_by (B := T163.setTop (mkF m 237 #[.val (.int ua), .val (.int ub), .val (.int uc), .val (.ref ba), .val (.ref bb), .val (.int us2), .val (.int us3), .val (.int us2), .val (.int mv3), .val (.int unA), .val (.int unB), .val (.int mv14), .val (.ref (A 0)), .val (.int (q133.1)), .val (.int w138), .val (.int w155), .val (.int (q156.1)), .val (.int (q158.1)), .val (.int (q160.1)), .val (.int (q162.1))] [(.ref ba), (.int (q156.1))])) (fun _ k => XS.aloadN X163.here hx rfl (hb hby at_236) rfl rfl  k) ?_
          refine own_by (B := T163.setTop (mkF m 238 #[.val (.int ua), .val (.int ub), .val (.int uc), .val (.ref ba), .val (.ref bb), .val (.int us2), .val (.int us3), .val (.int us2), .val (.int mv3), .val (.int unA), .val (.int unB), .val (.int mv14), .val (.ref (A 0)), .val (.int (q133.1)), .val (.int w138), .val (.int w155), .val (.int (q156.1)), .val (.int (q158.1)), .val (.int (q160.1)), .val (.int (q162.1))] [(.int (0 : Int32)), (.ref ba), (.int (q156.1))])) (fun _ k => XS.iconst X163.here hx rfl (hb hby at_237) k) ?_
          obtain ⟨w164, hw164, hF⟩ := own_bind hF
          refine own_by (B := T163.setTop (mkF m 239 #[.val (.int ua), .val (.int ub), .val (.int uc), .val (.ref ba), .val (.ref bb), .val (.int us2), .val (.int us3), .val (.int us2), .val (.int mv3), .val (.int unA), .val (.int unB), .val (.int mv14), .val (.ref (A 0)), .val (.int (q133.1)), .val (.int w138), .val (.int w155), .val (.int (q156.1)), .val (.int (q158.1)), .val (.int (q160.1)), .val (.int (q162.1))] [(.int w164), (.int (q156.1))])) (own_ldI X163 hx hZ e163 ((own_PS_cc PC163) _ _ (rfl : ([La, Lb] : List (List Int32))[0]? = some La)).1 hw164 (g := (mkF m 238 #[.val (.int ua), .val (.int ub), .val (.int uc), .val (.ref ba), .val (.ref bb), .val (.int us2), .val (.int us3), .val (.int us2), .val (.int mv3), .val (.int unA), .val (.int unB), .val (.int mv14), .val (.ref (A 0)), .val (.int (q133.1)), .val (.int w138), .val (.int w155), .val (.int (q156.1)), .val (.int (q158.1)), .val (.int (q160.1)), .val (.int (q162.1))] [(.int (0 : Int32)), (.ref ba), (.int (q156.1))])) rfl rfl (hb hby at_238)) ?_
          by_cases hc165 : (q156.1) = w164
          · rw [if_pos hc165] at hF
            refine own_by (B := T163.setTop (mkF m 242 #[.val (.int ua), .val (.int ub), .val (.int uc), .val (.ref ba), .val (.ref bb), .val (.int us2), .val (.int us3), .val (.int us2), .val (.int mv3), .val (.int unA), .val (.int unB), .val (.int mv14), .val (.ref (A 0)), .val (.int (q133.1)), .val (.int w138), .val (.int w155), .val (.int (q156.1)), .val (.int (q158.1)), .val (.int (q160.1)), .val (.int (q162.1))] [])) (fun _ k => XS.icmpNo X163.here hx rfl (hb hby at_239) rfl (XT.ii_ne_f hc165) k) ?_
            refine own_by (B := T163.setTop (mkF m 244 #[.val (.int ua), .val (.int ub), .val (.int uc), .val (.ref ba), .val (.ref bb), .val (.int us2), .val (.int us3), .val (.int us2), .val (.int mv3), .val (.int unA), .val (.int unB), .val (.int mv14), .val (.ref (A 0)), .val (.int (q133.1)), .val (.int w138), .val (.int w155), .val (.int (q156.1)), .val (.int (q158.1)), .val (.int (q160.1)), .val (.int (q162.1))] [(.int (q158.1))])) (fun _ k => XS.iload X163.here hx rfl (hb hby at_242) rfl  k) ?_
            refine own_by (B := T163.setTop (mkF m 246 #[.val (.int ua), .val (.int ub), .val (.int uc), .val (.ref ba), .val (.ref bb), .val (.int us2), .val (.int us3), .val (.int us2), .val (.int mv3), .val (.int unA), .val (.int unB), .val (.int mv14), .val (.ref (A 0)), .val (.int (q133.1)), .val (.int w138), .val (.int w155), .val (.int (q156.1)), .val (.int (q158.1)), .val (.int (q160.1)), .val (.int (q162.1))] [(.ref bb), (.int (q158.1))])) (fun _ k => XS.aload X163.here hx rfl (hb hby at_244) rfl rfl  k) ?_
            refine own_by (B := T163.setTop (mkF m 247 #[.val (.int ua), .val (.int ub), .val (.int uc), .val (.ref ba), .val (.ref bb), .val (.int us2), .val (.int us3), .val (.int us2), .val (.int mv3), .val (.int unA), .val (.int unB), .val (.int mv14), .val (.ref (A 0)), .val (.int (q133.1)), .val (.int w138), .val (.int w155), .val (.int (q156.1)), .val (.int (q158.1)), .val (.int (q160.1)), .val (.int (q162.1))] [(.int (0 : Int32)), (.ref bb), (.int (q158.1))])) (fun _ k => XS.iconst X163.here hx rfl (hb hby at_246) k) ?_
            obtain ⟨w166, hw166, hF⟩ := own_bind hF
            refine own_by (B := T163.setTop (mkF m 248 #[.val (.int ua), .val (.int ub), .val (.int uc), .val (.ref ba), .val (.ref bb), .val (.int us2), .val (.int us3), .val (.int us2), .val (.int mv3), .val (.int unA), .val (.int unB), .val (.int mv14), .val (.ref (A 0)), .val (.int (q133.1)), .val (.int w138), .val (.int w155), .val (.int (q156.1)), .val (.int (q158.1)), .val (.int (q160.1)), .val (.int (q162.1))] [(.int w166), (.int (q158.1))])) (own_ldI X163 hx hZ e163 ((own_PS_cc PC163) _ _ (rfl : ([La, Lb] : List (List Int32))[1]? = some Lb)).1 hw166 (g := (mkF m 247 #[.val (.int ua), .val (.int ub), .val (.int uc), .val (.ref ba), .val (.ref bb), .val (.int us2), .val (.int us3), .val (.int us2), .val (.int mv3), .val (.int unA), .val (.int unB), .val (.int mv14), .val (.ref (A 0)), .val (.int (q133.1)), .val (.int w138), .val (.int w155), .val (.int (q156.1)), .val (.int (q158.1)), .val (.int (q160.1)), .val (.int (q162.1))] [(.int (0 : Int32)), (.ref bb), (.int (q158.1))])) rfl rfl (hb hby at_247)) ?_
            by_cases hc167 : (q158.1) = w166
            · rw [if_pos hc167] at hF
              refine own_by (B := T163.setTop (mkF m 251 #[.val (.int ua), .val (.int ub), .val (.int uc), .val (.ref ba), .val (.ref bb), .val (.int us2), .val (.int us3), .val (.int us2), .val (.int mv3), .val (.int unA), .val (.int unB), .val (.int mv14), .val (.ref (A 0)), .val (.int (q133.1)), .val (.int w138), .val (.int w155), .val (.int (q156.1)), .val (.int (q158.1)), .val (.int (q160.1)), .val (.int (q162.1))] [])) (fun _ k => XS.icmpNo X163.here hx rfl (hb hby at_248) rfl (XT.ii_ne_f hc167) k) ?_
              refine own_by (B := T163.setTop (mkF m 253 #[.val (.int ua), .val (.int ub), .val (.int uc), .val (.ref ba), .val (.ref bb), .val (.int us2), .val (.int us3), .val (.int us2), .val (.int mv3), .val (.int unA), .val (.int unB), .val (.int mv14), .val (.ref (A 0)), .val (.int (q133.1)), .val (.int w138), .val (.int w155), .val (.int (q156.1)), .val (.int (q158.1)), .val (.int (q160.1)), .val (.int (q162.1))] [(.int (q160.1))])) (fun _ k => XS.iload X163.here hx rfl (hb hby at_251) rfl  k) ?_
              refine own_by (B := T163.setTop (mkF m 255 #[.val (.int ua), .val (.int ub), .val (.int uc), .val (.ref ba), .val (.ref bb), .val (.int us2), .val (.int us3), .val (.int us2), .val (.int mv3), .val (.int unA), .val (.int unB), .val (.int mv14), .val (.ref (A 0)), .val (.int (q133.1)), .val (.int w138), .val (.int w155), .val (.int (q156.1)), .val (.int (q158.1)), .val (.int (q160.1)), .val (.int (q162.1))] [(.int w138), (.int (q160.1))])) (fun _ k => XS.iload X163.here hx rfl (hb hby at_253) rfl  k) ?_
              by_cases hc168 : (q160.1) = w138
              · rw [if_pos hc168] at hF
                refine own_by (B := T163.setTop (mkF m 258 #[.val (.int ua), .val (.int ub), .val (.int uc), .val (.ref ba), .val (.ref bb), .val (.int us2), .val (.int us3), .val (.int us2), .val (.int mv3), .val (.int unA), .val (.int unB), .val (.int mv14), .val (.ref (A 0)), .val (.int (q133.1)), .val (.int w138), .val (.int w155), .val (.int (q156.1)), .val (.int (q158.1)), .val (.int (q160.1)), .val (.int (q162.1))] [])) (fun _ k => XS.icmpNo X163.here hx rfl (hb hby at_255) rfl (XT.ii_ne_f hc168) k) ?_
                refine own_by (B := T163.setTop (mkF m 260 #[.val (.int ua), .val (.int ub), .val (.int uc), .val (.ref ba), .val (.ref bb), .val (.int us2), .val (.int us3), .val (.int us2), .val (.int mv3), .val (.int unA), .val (.int unB), .val (.int mv14), .val (.ref (A 0)), .val (.int (q133.1)), .val (.int w138), .val (.int w155), .val (.int (q156.1)), .val (.int (q158.1)), .val (.int (q160.1)), .val (.int (q162.1))] [(.int (q162.1))])) (fun _ k => XS.iload X163.here hx rfl (hb hby at_258) rfl  k) ?_
                refine own_by (B := T163.setTop (mkF m 262 #[.val (.int ua), .val (.int ub), .val (.int uc), .val (.ref ba), .val (.ref bb), .val (.int us2), .val (.int us3), .val (.int us2), .val (.int mv3), .val (.int unA), .val (.int unB), .val (.int mv14), .val (.ref (A 0)), .val (.int (q133.1)), .val (.int w138), .val (.int w155), .val (.int (q156.1)), .val (.int (q158.1)), .val (.int (q160.1)), .val (.int (q162.1))] [(.int w155), (.int (q162.1))])) (fun _ k => XS.iload X163.here hx rfl (hb hby at_260) rfl  k) ?_
                by_cases hc169 : (q162.1) = w155
                · rw [if_pos hc169] at hF
                  refine own_by (B := T163.setTop (mkF m 265 #[.val (.int ua), .val (.int ub), .val (.int uc), .val (.ref ba), .val (.ref bb), .val (.int us2), .val (.int us3), .val (.int us2), .val (.int mv3), .val (.int unA), .val (.int unB), .val (.int mv14), .val (.ref (A 0)), .val (.int (q133.1)), .val (.int w138), .val (.int w155), .val (.int (q156.1)), .val (.int (q158.1)), .val (.int (q160.1)), .val (.int (q162.1))] [])) (fun _ k => XS.icmpNo X163.here hx rfl (hb hby at_262) rfl (XT.ii_ne_f hc169) k) ?_
                  refine own_by (B := T163.setTop (mkF m 266 #[.val (.int ua), .val (.int ub), .val (.int uc), .val (.ref ba), .val (.ref bb), .val (.int us2), .val (.int us3), .val (.int us2), .val (.int mv3), .val (.int unA), .val (.int unB), .val (.int mv14), .val (.ref (A 0)), .val (.int (q133.1)), .val (.int w138), .val (.int w155), .val (.int (q156.1)), .val (.int (q158.1)), .val (.int (q160.1)), .val (.int (q162.1))] [(.int (1 : Int32))])) (fun _ k => XS.iconst X163.here hx rfl (hb hby at_265) k) ?_
                  refine own_by (B := T163.setTop (mkF m 270 #[.val (.int ua), .val (.int ub), .val (.int uc), .val (.ref ba), .val (.ref bb), .val (.int us2), .val (.int us3), .val (.int us2), .val (.int mv3), .val (.int unA), .val (.int unB), .val (.int mv14), .val (.ref (A 0)), .val (.int (q133.1)), .val (.int w138), .val (.int w155), .val (.int (q156.1)), .val (.int (q158.1)), .val (.int (q160.1)), .val (.int (q162.1))] [(.int (1 : Int32))])) (fun _ k => XS.goto X163.here hx rfl (pc0 := 266) (pc' := 270) rfl (hb hby at_266) (by decide) (by decide) k) ?_
                  exact own_retZ X163 hx hrt hlk rfl (hb hby at_270) (by decide) (by decide) ⟨rfl, N163⟩
                · rw [if_neg hc169] at hF
                  refine own_by (B := T163.setTop (mkF m 269 #[.val (.int ua), .val (.int ub), .val (.int uc), .val (.ref ba), .val (.ref bb), .val (.int us2), .val (.int us3), .val (.int us2), .val (.int mv3), .val (.int unA), .val (.int unB), .val (.int mv14), .val (.ref (A 0)), .val (.int (q133.1)), .val (.int w138), .val (.int w155), .val (.int (q156.1)), .val (.int (q158.1)), .val (.int (q160.1)), .val (.int (q162.1))] [])) (fun _ k => XS.icmpYes X163.here hx rfl (pc0 := 262) (pc' := 269) rfl (hb hby at_262) rfl (XT.ii_ne_t hc169) (by decide) (by decide) k) ?_
                  refine own_by (B := T163.setTop (mkF m 270 #[.val (.int ua), .val (.int ub), .val (.int uc), .val (.ref ba), .val (.ref bb), .val (.int us2), .val (.int us3), .val (.int us2), .val (.int mv3), .val (.int unA), .val (.int unB), .val (.int mv14), .val (.ref (A 0)), .val (.int (q133.1)), .val (.int w138), .val (.int w155), .val (.int (q156.1)), .val (.int (q158.1)), .val (.int (q160.1)), .val (.int (q162.1))] [(.int (0 : Int32))])) (fun _ k => XS.iconst X163.here hx rfl (hb hby at_269) k) ?_
                  exact absurd (Option.some.inj hF) (by decide)
              · rw [if_neg hc168] at hF
                refine own_by (B := T163.setTop (mkF m 269 #[.val (.int ua), .val (.int ub), .val (.int uc), .val (.ref ba), .val (.ref bb), .val (.int us2), .val (.int us3), .val (.int us2), .val (.int mv3), .val (.int unA), .val (.int unB), .val (.int mv14), .val (.ref (A 0)), .val (.int (q133.1)), .val (.int w138), .val (.int w155), .val (.int (q156.1)), .val (.int (q158.1)), .val (.int (q160.1)), .val (.int (q162.1))] [])) (fun _ k => XS.icmpYes X163.here hx rfl (pc0 := 255) (pc' := 269) rfl (hb hby at_255) rfl (XT.ii_ne_t hc168) (by decide) (by decide) k) ?_
                refine own_by (B := T163.setTop (mkF m 270 #[.val (.int ua), .val (.int ub), .val (.int uc), .val (.ref ba), .val (.ref bb), .val (.int us2), .val (.int us3), .val (.int us2), .val (.int mv3), .val (.int unA), .val (.int unB), .val (.int mv14), .val (.ref (A 0)), .val (.int (q133.1)), .val (.int w138), .val (.int w155), .val (.int (q156.1)), .val (.int (q158.1)), .val (.int (q160.1)), .val (.int (q162.1))] [(.int (0 : Int32))])) (fun _ k => XS.iconst X163.here hx rfl (hb hby at_269) k) ?_
                exact absurd (Option.some.inj hF) (by decide)
            · rw [if_neg hc167] at hF
              refine own_by (B := T163.setTop (mkF m 269 #[.val (.int ua), .val (.int ub), .val (.int uc), .val (.ref ba), .val (.ref bb), .val (.int us2), .val (.int us3), .val (.int us2), .val (.int mv3), .val (.int unA), .val (.int unB), .val (.int mv14), .val (.ref (A 0)), .val (.int (q133.1)), .val (.int w138), .val (.int w155), .val (.int (q156.1)), .val (.int (q158.1)), .val (.int (q160.1)), .val (.int (q162.1))] [])) (fun _ k => XS.icmpYes X163.here hx rfl (pc0 := 248) (pc' := 269) rfl (hb hby at_248) rfl (XT.ii_ne_t hc167) (by decide) (by decide) k) ?_
              refine own_by (B := T163.setTop (mkF m 270 #[.val (.int ua), .val (.int ub), .val (.int uc), .val (.ref ba), .val (.ref bb), .val (.int us2), .val (.int us3), .val (.int us2), .val (.int mv3), .val (.int unA), .val (.int unB), .val (.int mv14), .val (.ref (A 0)), .val (.int (q133.1)), .val (.int w138), .val (.int w155), .val (.int (q156.1)), .val (.int (q158.1)), .val (.int (q160.1)), .val (.int (q162.1))] [(.int (0 : Int32))])) (fun _ k => XS.iconst X163.here hx rfl (hb hby at_269) k) ?_
              exact absurd (Option.some.inj hF) (by decide)
          · rw [if_neg hc165] at hF
            refine own_by (B := T163.setTop (mkF m 269 #[.val (.int ua), .val (.int ub), .val (.int uc), .val (.ref ba), .val (.ref bb), .val (.int us2), .val (.int us3), .val (.int us2), .val (.int mv3), .val (.int unA), .val (.int unB), .val (.int mv14), .val (.ref (A 0)), .val (.int (q133.1)), .val (.int w138), .val (.int w155), .val (.int (q156.1)), .val (.int (q158.1)), .val (.int (q160.1)), .val (.int (q162.1))] [])) (fun _ k => XS.icmpYes X163.here hx rfl (pc0 := 239) (pc' := 269) rfl (hb hby at_239) rfl (XT.ii_ne_t hc165) (by decide) (by decide) k) ?_
            refine own_by (B := T163.setTop (mkF m 270 #[.val (.int ua), .val (.int ub), .val (.int uc), .val (.ref ba), .val (.ref bb), .val (.int us2), .val (.int us3), .val (.int us2), .val (.int mv3), .val (.int unA), .val (.int unB), .val (.int mv14), .val (.ref (A 0)), .val (.int (q133.1)), .val (.int w138), .val (.int w155), .val (.int (q156.1)), .val (.int (q158.1)), .val (.int (q160.1)), .val (.int (q162.1))] [(.int (0 : Int32))])) (fun _ k => XS.iconst X163.here hx rfl (hb hby at_269) k) ?_
            exact absurd (Option.some.inj hF) (by decide)
      · rw [if_neg hc137] at hF
        refine own_by (B := T134.setTop (mkF m 173 #[.val (.int ua), .val (.int ub), .val (.int uc), .val (.ref ba), .val (.ref bb), .val (.int us2), .val (.int us3), .val (.int us2), .val (.int mv3), .val (.int unA), .val (.int unB), .val (.int mv14), .val (.ref (A 0)), .val (.int (q133.1)), .unset, .unset, .unset, .unset, .unset, .unset] [])) (fun _ k => XS.ifYes X134.here hx rfl (pc0 := 164) (pc' := 173) rfl (hb hby at_164) rfl (XT.i0_ne_t hc137) (by decide) (by decide) k) ?_
        refine own_by (B := T134.setTop (mkF m 175 #[.val (.int ua), .val (.int ub), .val (.int uc), .val (.ref ba), .val (.ref bb), .val (.int us2), .val (.int us3), .val (.int us2), .val (.int mv3), .val (.int unA), .val (.int unB), .val (.int mv14), .val (.ref (A 0)), .val (.int (q133.1)), .unset, .unset, .unset, .unset, .unset, .unset] [(.ref bb)])) (fun _ k => XS.aload X134.here hx rfl (hb hby at_173) rfl rfl  k) ?_
        refine own_by (B := T134.setTop (mkF m 176 #[.val (.int ua), .val (.int ub), .val (.int uc), .val (.ref ba), .val (.ref bb), .val (.int us2), .val (.int us3), .val (.int us2), .val (.int mv3), .val (.int unA), .val (.int unB), .val (.int mv14), .val (.ref (A 0)), .val (.int (q133.1)), .unset, .unset, .unset, .unset, .unset, .unset] [(.int (1 : Int32)), (.ref bb)])) (fun _ k => XS.iconst X134.here hx rfl (hb hby at_175) k) ?_
        obtain ⟨w170, hw170, hF⟩ := own_bind hF
        refine own_by (B := T134.setTop (mkF m 177 #[.val (.int ua), .val (.int ub), .val (.int uc), .val (.ref ba), .val (.ref bb), .val (.int us2), .val (.int us3), .val (.int us2), .val (.int mv3), .val (.int unA), .val (.int unB), .val (.int mv14), .val (.ref (A 0)), .val (.int (q133.1)), .unset, .unset, .unset, .unset, .unset, .unset] [(.int w170)])) (own_ldI X134 hx hZ e134 ((own_PS_cc PC134) _ _ (rfl : ([La, Lb] : List (List Int32))[1]? = some Lb)).1 hw170 (g := (mkF m 176 #[.val (.int ua), .val (.int ub), .val (.int uc), .val (.ref ba), .val (.ref bb), .val (.int us2), .val (.int us3), .val (.int us2), .val (.int mv3), .val (.int unA), .val (.int unB), .val (.int mv14), .val (.ref (A 0)), .val (.int (q133.1)), .unset, .unset, .unset, .unset, .unset, .unset] [(.int (1 : Int32)), (.ref bb)])) rfl rfl (hb hby at_176)) ?_
        refine own_by (B := T134.setTop (mkF m 179 #[.val (.int ua), .val (.int ub), .val (.int uc), .val (.ref ba), .val (.ref bb), .val (.int us2), .val (.int us3), .val (.int us2), .val (.int mv3), .val (.int unA), .val (.int unB), .val (.int mv14), .val (.ref (A 0)), .val (.int (q133.1)), .val (.int w170), .unset, .unset, .unset, .unset, .unset] [])) (fun _ k => XS.istore X134.here hx rfl (hb hby at_177) rfl (l' := #[.val (.int ua), .val (.int ub), .val (.int uc), .val (.ref ba), .val (.ref bb), .val (.int us2), .val (.int us3), .val (.int us2), .val (.int mv3), .val (.int unA), .val (.int unB), .val (.int mv14), .val (.ref (A 0)), .val (.int (q133.1)), .val (.int w170), .unset, .unset, .unset, .unset, .unset]) rfl k) ?_
        refine own_by (B := T134.setTop (mkF m 181 #[.val (.int ua), .val (.int ub), .val (.int uc), .val (.ref ba), .val (.ref bb), .val (.int us2), .val (.int us3), .val (.int us2), .val (.int mv3), .val (.int unA), .val (.int unB), .val (.int mv14), .val (.ref (A 0)), .val (.int (q133.1)), .val (.int w170), .unset, .unset, .unset, .unset, .unset] [(.int mv3)])) (fun _ k => XS.iload X134.here hx rfl (hb hby at_179) rfl  k) ?_
        by_cases hc171 : mv3 = (0 : Int32)
        · rw [if_pos hc171] at hF
          refine own_by (B := T134.setTop (mkF m 184 #[.val (.int ua), .val (.int ub), .val (.int uc), .val (.ref ba), .val (.ref bb), .val (.int us2), .val (.int us3), .val (.int us2), .val (.int mv3), .val (.int unA), .val (.int unB), .val (.int mv14), .val (.ref (A 0)), .val (.int (q133.1)), .val (.int w170), .unset, .unset, .unset, .unset, .unset] [])) (fun _ k => XS.ifNo X134.here hx rfl (hb hby at_181) rfl (XT.i0_ne_f hc171) k) ?_
          refine own_by (B := T134.setTop (mkF m 185 #[.val (.int ua), .val (.int ub), .val (.int uc), .val (.ref ba), .val (.ref bb), .val (.int us2), .val (.int us3), .val (.int us2), .val (.int mv3), .val (.int unA), .val (.int unB), .val (.int mv14), .val (.ref (A 0)), .val (.int (q133.1)), .val (.int w170), .unset, .unset, .unset, .unset, .unset] [(.ref ba)])) (fun _ k => XS.aloadN X134.here hx rfl (hb hby at_184) rfl rfl  k) ?_
          refine own_by (B := T134.setTop (mkF m 187 #[.val (.int ua), .val (.int ub), .val (.int uc), .val (.ref ba), .val (.ref bb), .val (.int us2), .val (.int us3), .val (.int us2), .val (.int mv3), .val (.int unA), .val (.int unB), .val (.int mv14), .val (.ref (A 0)), .val (.int (q133.1)), .val (.int w170), .unset, .unset, .unset, .unset, .unset] [(.int unA), (.ref ba)])) (fun _ k => XS.iload X134.here hx rfl (hb hby at_185) rfl  k) ?_
          refine own_by (B := T134.setTop (mkF m 188 #[.val (.int ua), .val (.int ub), .val (.int uc), .val (.ref ba), .val (.ref bb), .val (.int us2), .val (.int us3), .val (.int us2), .val (.int mv3), .val (.int unA), .val (.int unB), .val (.int mv14), .val (.ref (A 0)), .val (.int (q133.1)), .val (.int w170), .unset, .unset, .unset, .unset, .unset] [(.int (1 : Int32)), (.int unA), (.ref ba)])) (fun _ k => XS.iconst X134.here hx rfl (hb hby at_187) k) ?_
          refine own_by (B := T134.setTop (mkF m 189 #[.val (.int ua), .val (.int ub), .val (.int uc), .val (.ref ba), .val (.ref bb), .val (.int us2), .val (.int us3), .val (.int us2), .val (.int mv3), .val (.int unA), .val (.int unB), .val (.int mv14), .val (.ref (A 0)), .val (.int (q133.1)), .val (.int w170), .unset, .unset, .unset, .unset, .unset] [(.int (unA - (1 : Int32))), (.ref ba)])) (fun _ k => XS.isub X134.here hx rfl (hb hby at_188) rfl k) ?_
          obtain ⟨w172, hw172, hF⟩ := own_bind hF
          refine own_by (B := T134.setTop (mkF m 190 #[.val (.int ua), .val (.int ub), .val (.int uc), .val (.ref ba), .val (.ref bb), .val (.int us2), .val (.int us3), .val (.int us2), .val (.int mv3), .val (.int unA), .val (.int unB), .val (.int mv14), .val (.ref (A 0)), .val (.int (q133.1)), .val (.int w170), .unset, .unset, .unset, .unset, .unset] [(.int w172)])) (own_ldI X134 hx hZ e134 ((own_PS_cc PC134) _ _ (rfl : ([La, Lb] : List (List Int32))[0]? = some La)).1 hw172 (g := (mkF m 189 #[.val (.int ua), .val (.int ub), .val (.int uc), .val (.ref ba), .val (.ref bb), .val (.int us2), .val (.int us3), .val (.int us2), .val (.int mv3), .val (.int unA), .val (.int unB), .val (.int mv14), .val (.ref (A 0)), .val (.int (q133.1)), .val (.int w170), .unset, .unset, .unset, .unset, .unset] [(.int (unA - (1 : Int32))), (.ref ba)])) rfl rfl (hb hby at_189)) ?_
          refine own_by (B := T134.setTop (mkF m 200 #[.val (.int ua), .val (.int ub), .val (.int uc), .val (.ref ba), .val (.ref bb), .val (.int us2), .val (.int us3), .val (.int us2), .val (.int mv3), .val (.int unA), .val (.int unB), .val (.int mv14), .val (.ref (A 0)), .val (.int (q133.1)), .val (.int w170), .unset, .unset, .unset, .unset, .unset] [(.int w172)])) (fun _ k => XS.goto X134.here hx rfl (pc0 := 190) (pc' := 200) rfl (hb hby at_190) (by decide) (by decide) k) ?_
          refine own_by (B := T134.setTop (mkF m 202 #[.val (.int ua), .val (.int ub), .val (.int uc), .val (.ref ba), .val (.ref bb), .val (.int us2), .val (.int us3), .val (.int us2), .val (.int mv3), .val (.int unA), .val (.int unB), .val (.int mv14), .val (.ref (A 0)), .val (.int (q133.1)), .val (.int w170), .val (.int w172), .unset, .unset, .unset, .unset] [])) (fun _ k => XS.istore X134.here hx rfl (hb hby at_200) rfl (l' := #[.val (.int ua), .val (.int ub), .val (.int uc), .val (.ref ba), .val (.ref bb), .val (.int us2), .val (.int us3), .val (.int us2), .val (.int mv3), .val (.int unA), .val (.int unB), .val (.int mv14), .val (.ref (A 0)), .val (.int (q133.1)), .val (.int w170), .val (.int w172), .unset, .unset, .unset, .unset]) rfl k) ?_
          refine own_by (B := T134.setTop (mkF m 204 #[.val (.int ua), .val (.int ub), .val (.int uc), .val (.ref ba), .val (.ref bb), .val (.int us2), .val (.int us3), .val (.int us2), .val (.int mv3), .val (.int unA), .val (.int unB), .val (.int mv14), .val (.ref (A 0)), .val (.int (q133.1)), .val (.int w170), .val (.int w172), .unset, .unset, .unset, .unset] [(.ref (A 0))])) (fun _ k => XS.aload X134.here hx rfl (hb hby at_202) rfl rfl  k) ?_
          refine own_by (B := T134.setTop (mkF m 205 #[.val (.int ua), .val (.int ub), .val (.int uc), .val (.ref ba), .val (.ref bb), .val (.int us2), .val (.int us3), .val (.int us2), .val (.int mv3), .val (.int unA), .val (.int unB), .val (.int mv14), .val (.ref (A 0)), .val (.int (q133.1)), .val (.int w170), .val (.int w172), .unset, .unset, .unset, .unset] [(.int (0 : Int32)), (.ref (A 0))])) (fun _ k => XS.iconst X134.here hx rfl (hb hby at_204) k) ?_
          obtain ⟨q173, hq173, hF⟩ := own_bind hF
          obtain ⟨cq174, kq174, qa174, qb174, qc174⟩ := isOf hZ e134 (own_PS_E PC134)
          obtain ⟨_, _, ⟨T174, L174, k174, n174⟩, -, X174, ⟨Lc174, hQ174, l174, y174, z174⟩, st174⟩ := X134.virtualBack hx (y := (⟨"com/example/document_pattern_rules/documentpatternrules/pattern/Pairing", "lowest", "(I)I"⟩ : MethodName)) (z := (⟨"com/example/document_pattern_rules/documentpatternrules/pattern/Pairing", "lowest", "(I)I"⟩ : MethodName)) hown (mvT hZ (hw _ (List.mem_of_getElem? (i := 78) rfl))) (mvT hZ (hw _ (List.mem_of_getElem? (i := 79) rfl))) (notFace_of_selects (args := #[]) (mvT hZ (hw _ (List.mem_of_getElem? (i := 81) rfl)))) (mvT hZ (hw _ (List.mem_of_getElem? (i := 81) rfl))) (mvT hZ (hw _ (List.mem_of_getElem? (i := 80) rfl))) (by decide) (backOf (W := 0) (rm_lowest l Z a0 hw [] A K (4 : Int32) (12 : Int32) (own_two ba bb) (own_two kka kkb) [La, Lb] (q133.2) _ (0 : Int32) h134 n0 (Nat.le_trans (own_PS_gn PC134).1 (Nat.le_of_lt (own_PS_E PC134).lt)) PC134 hq173) hZ (hw _ (List.mem_of_getElem? (i := 82) rfl)) (hw _ (List.mem_of_getElem? (i := 7) rfl)) (by decide) (by decide)) qa174 qc174 (g := (mkF m 205 #[.val (.int ua), .val (.int ub), .val (.int uc), .val (.ref ba), .val (.ref bb), .val (.int us2), .val (.int us3), .val (.int us2), .val (.int mv3), .val (.int unA), .val (.int unB), .val (.int mv14), .val (.ref (A 0)), .val (.int (q133.1)), .val (.int w170), .val (.int w172), .unset, .unset, .unset, .unset] [(.int (0 : Int32)), (.ref (A 0))])) rfl (by rw [hml]; rfl) (Steps.refl _) (argsL := [(.int (0 : Int32))]) (rest := []) (lenOf pd_0__I_I rfl) rfl (by show 2 * 0 + _ ≤ _; exact Nat.le_of_eq rfl) (hb hby at_205) (fun _ _ => ⟨rfl, e134, (by decide : 15 + 0 ≤ _), (by decide : 84 + 0 ≤ _)⟩)
          dsimp only [Pt.U, Pt.locs, Pt.cells, Pt.slots] at X174 l174 y174 z174 st174 hQ174
          subst l174 y174 z174
          obtain ⟨rfl, NC174, PC174⟩ := hQ174
          refine own_by (B := T174.setTop (mkF m 208 #[.val (.int ua), .val (.int ub), .val (.int uc), .val (.ref ba), .val (.ref bb), .val (.int us2), .val (.int us3), .val (.int us2), .val (.int mv3), .val (.int unA), .val (.int unB), .val (.int mv14), .val (.ref (A 0)), .val (.int (q133.1)), .val (.int w170), .val (.int w172), .unset, .unset, .unset, .unset] [(.int (q173.1))])) (fun _ k => st174.trans k) ?_
          obtain ⟨h174, e174⟩ : ∃ z, T174.heap = z := ⟨_, rfl⟩
          rw [e174] at PC174
          have N174 := Fr.app N134 NC174
          refine own_by (B := T174.setTop (mkF m 210 #[.val (.int ua), .val (.int ub), .val (.int uc), .val (.ref ba), .val (.ref bb), .val (.int us2), .val (.int us3), .val (.int us2), .val (.int mv3), .val (.int unA), .val (.int unB), .val (.int mv14), .val (.ref (A 0)), .val (.int (q133.1)), .val (.int w170), .val (.int w172), .val (.int (q173.1)), .unset, .unset, .unset] [])) (fun _ k => XS.istore X174.here hx rfl (hb hby at_208) rfl (l' := #[.val (.int ua), .val (.int ub), .val (.int uc), .val (.ref ba), .val (.ref bb), .val (.int us2), .val (.int us3), .val (.int us2), .val (.int mv3), .val (.int unA), .val (.int unB), .val (.int mv14), .val (.ref (A 0)), .val (.int (q133.1)), .val (.int w170), .val (.int w172), .val (.int (q173.1)), .unset, .unset, .unset]) rfl k) ?_
          refine own_by (B := T174.setTop (mkF m 212 #[.val (.int ua), .val (.int ub), .val (.int uc), .val (.ref ba), .val (.ref bb), .val (.int us2), .val (.int us3), .val (.int us2), .val (.int mv3), .val (.int unA), .val (.int unB), .val (.int mv14), .val (.ref (A 0)), .val (.int (q133.1)), .val (.int w170), .val (.int w172), .val (.int (q173.1)), .unset, .unset, .unset] [(.ref (A 0))])) (fun _ k => XS.aload X174.here hx rfl (hb hby at_210) rfl rfl  k) ?_
          refine own_by (B := T174.setTop (mkF m 213 #[.val (.int ua), .val (.int ub), .val (.int uc), .val (.ref ba), .val (.ref bb), .val (.int us2), .val (.int us3), .val (.int us2), .val (.int mv3), .val (.int unA), .val (.int unB), .val (.int mv14), .val (.ref (A 0)), .val (.int (q133.1)), .val (.int w170), .val (.int w172), .val (.int (q173.1)), .unset, .unset, .unset] [(.int (1 : Int32)), (.ref (A 0))])) (fun _ k => XS.iconst X174.here hx rfl (hb hby at_212) k) ?_
          obtain ⟨q175, hq175, hF⟩ := own_bind hF
          obtain ⟨cq176, kq176, qa176, qb176, qc176⟩ := isOf hZ e174 (own_PS_E PC174)
          obtain ⟨_, _, ⟨T176, L176, k176, n176⟩, -, X176, ⟨Lc176, hQ176, l176, y176, z176⟩, st176⟩ := X174.virtualBack hx (y := (⟨"com/example/document_pattern_rules/documentpatternrules/pattern/Pairing", "lowest", "(I)I"⟩ : MethodName)) (z := (⟨"com/example/document_pattern_rules/documentpatternrules/pattern/Pairing", "lowest", "(I)I"⟩ : MethodName)) hown (mvT hZ (hw _ (List.mem_of_getElem? (i := 78) rfl))) (mvT hZ (hw _ (List.mem_of_getElem? (i := 79) rfl))) (notFace_of_selects (args := #[]) (mvT hZ (hw _ (List.mem_of_getElem? (i := 81) rfl)))) (mvT hZ (hw _ (List.mem_of_getElem? (i := 81) rfl))) (mvT hZ (hw _ (List.mem_of_getElem? (i := 80) rfl))) (by decide) (backOf (W := 0) (rm_lowest l Z a0 hw [] A K (4 : Int32) (12 : Int32) (own_two ba bb) (own_two kka kkb) [La, Lb] (q173.2) _ (1 : Int32) h174 n0 (Nat.le_trans (own_PS_gn PC174).1 (Nat.le_of_lt (own_PS_E PC174).lt)) PC174 hq175) hZ (hw _ (List.mem_of_getElem? (i := 82) rfl)) (hw _ (List.mem_of_getElem? (i := 7) rfl)) (by decide) (by decide)) qa176 qc176 (g := (mkF m 213 #[.val (.int ua), .val (.int ub), .val (.int uc), .val (.ref ba), .val (.ref bb), .val (.int us2), .val (.int us3), .val (.int us2), .val (.int mv3), .val (.int unA), .val (.int unB), .val (.int mv14), .val (.ref (A 0)), .val (.int (q133.1)), .val (.int w170), .val (.int w172), .val (.int (q173.1)), .unset, .unset, .unset] [(.int (1 : Int32)), (.ref (A 0))])) rfl (by rw [hml]; rfl) (Steps.refl _) (argsL := [(.int (1 : Int32))]) (rest := []) (lenOf pd_0__I_I rfl) rfl (by show 2 * 0 + _ ≤ _; exact Nat.le_of_eq rfl) (hb hby at_213) (fun _ _ => ⟨rfl, e174, (by decide : 15 + 0 ≤ _), (by decide : 84 + 0 ≤ _)⟩)
          dsimp only [Pt.U, Pt.locs, Pt.cells, Pt.slots] at X176 l176 y176 z176 st176 hQ176
          subst l176 y176 z176
          obtain ⟨rfl, NC176, PC176⟩ := hQ176
          refine own_by (B := T176.setTop (mkF m 216 #[.val (.int ua), .val (.int ub), .val (.int uc), .val (.ref ba), .val (.ref bb), .val (.int us2), .val (.int us3), .val (.int us2), .val (.int mv3), .val (.int unA), .val (.int unB), .val (.int mv14), .val (.ref (A 0)), .val (.int (q133.1)), .val (.int w170), .val (.int w172), .val (.int (q173.1)), .unset, .unset, .unset] [(.int (q175.1))])) (fun _ k => st176.trans k) ?_
          obtain ⟨h176, e176⟩ : ∃ z, T176.heap = z := ⟨_, rfl⟩
          rw [e176] at PC176
          have N176 := Fr.app N174 NC176
          refine own_by (B := T176.setTop (mkF m 218 #[.val (.int ua), .val (.int ub), .val (.int uc), .val (.ref ba), .val (.ref bb), .val (.int us2), .val (.int us3), .val (.int us2), .val (.int mv3), .val (.int unA), .val (.int unB), .val (.int mv14), .val (.ref (A 0)), .val (.int (q133.1)), .val (.int w170), .val (.int w172), .val (.int (q173.1)), .val (.int (q175.1)), .unset, .unset] [])) (fun _ k => XS.istore X176.here hx rfl (hb hby at_216) rfl (l' := #[.val (.int ua), .val (.int ub), .val (.int uc), .val (.ref ba), .val (.ref bb), .val (.int us2), .val (.int us3), .val (.int us2), .val (.int mv3), .val (.int unA), .val (.int unB), .val (.int mv14), .val (.ref (A 0)), .val (.int (q133.1)), .val (.int w170), .val (.int w172), .val (.int (q173.1)), .val (.int (q175.1)), .unset, .unset]) rfl k) ?_
          refine own_by (B := T176.setTop (mkF m 220 #[.val (.int ua), .val (.int ub), .val (.int uc), .val (.ref ba), .val (.ref bb), .val (.int us2), .val (.int us3), .val (.int us2), .val (.int mv3), .val (.int unA), .val (.int unB), .val (.int mv14), .val (.ref (A 0)), .val (.int (q133.1)), .val (.int w170), .val (.int w172), .val (.int (q173.1)), .val (.int (q175.1)), .unset, .unset] [(.ref (A 0))])) (fun _ k => XS.aload X176.here hx rfl (hb hby at_218) rfl rfl  k) ?_
          refine own_by (B := T176.setTop (mkF m 221 #[.val (.int ua), .val (.int ub), .val (.int uc), .val (.ref ba), .val (.ref bb), .val (.int us2), .val (.int us3), .val (.int us2), .val (.int mv3), .val (.int unA), .val (.int unB), .val (.int mv14), .val (.ref (A 0)), .val (.int (q133.1)), .val (.int w170), .val (.int w172), .val (.int (q173.1)), .val (.int (q175.1)), .unset, .unset] [(.int (2 : Int32)), (.ref (A 0))])) (fun _ k => XS.iconst X176.here hx rfl (hb hby at_220) k) ?_
          obtain ⟨q177, hq177, hF⟩ := own_bind hF
          obtain ⟨cq178, kq178, qa178, qb178, qc178⟩ := isOf hZ e176 (own_PS_E PC176)
          obtain ⟨_, _, ⟨T178, L178, k178, n178⟩, -, X178, ⟨Lc178, hQ178, l178, y178, z178⟩, st178⟩ := X176.virtualBack hx (y := (⟨"com/example/document_pattern_rules/documentpatternrules/pattern/Pairing", "lowest", "(I)I"⟩ : MethodName)) (z := (⟨"com/example/document_pattern_rules/documentpatternrules/pattern/Pairing", "lowest", "(I)I"⟩ : MethodName)) hown (mvT hZ (hw _ (List.mem_of_getElem? (i := 78) rfl))) (mvT hZ (hw _ (List.mem_of_getElem? (i := 79) rfl))) (notFace_of_selects (args := #[]) (mvT hZ (hw _ (List.mem_of_getElem? (i := 81) rfl)))) (mvT hZ (hw _ (List.mem_of_getElem? (i := 81) rfl))) (mvT hZ (hw _ (List.mem_of_getElem? (i := 80) rfl))) (by decide) (backOf (W := 0) (rm_lowest l Z a0 hw [] A K (4 : Int32) (12 : Int32) (own_two ba bb) (own_two kka kkb) [La, Lb] (q175.2) _ (2 : Int32) h176 n0 (Nat.le_trans (own_PS_gn PC176).1 (Nat.le_of_lt (own_PS_E PC176).lt)) PC176 hq177) hZ (hw _ (List.mem_of_getElem? (i := 82) rfl)) (hw _ (List.mem_of_getElem? (i := 7) rfl)) (by decide) (by decide)) qa178 qc178 (g := (mkF m 221 #[.val (.int ua), .val (.int ub), .val (.int uc), .val (.ref ba), .val (.ref bb), .val (.int us2), .val (.int us3), .val (.int us2), .val (.int mv3), .val (.int unA), .val (.int unB), .val (.int mv14), .val (.ref (A 0)), .val (.int (q133.1)), .val (.int w170), .val (.int w172), .val (.int (q173.1)), .val (.int (q175.1)), .unset, .unset] [(.int (2 : Int32)), (.ref (A 0))])) rfl (by rw [hml]; rfl) (Steps.refl _) (argsL := [(.int (2 : Int32))]) (rest := []) (lenOf pd_0__I_I rfl) rfl (by show 2 * 0 + _ ≤ _; exact Nat.le_of_eq rfl) (hb hby at_221) (fun _ _ => ⟨rfl, e176, (by decide : 15 + 0 ≤ _), (by decide : 84 + 0 ≤ _)⟩)
          dsimp only [Pt.U, Pt.locs, Pt.cells, Pt.slots] at X178 l178 y178 z178 st178 hQ178
          subst l178 y178 z178
          obtain ⟨rfl, NC178, PC178⟩ := hQ178
          refine own_by (B := T178.setTop (mkF m 224 #[.val (.int ua), .val (.int ub), .val (.int uc), .val (.ref ba), .val (.ref bb), .val (.int us2), .val (.int us3), .val (.int us2), .val (.int mv3), .val (.int unA), .val (.int unB), .val (.int mv14), .val (.ref (A 0)), .val (.int (q133.1)), .val (.int w170), .val (.int w172), .val (.int (q173.1)), .val (.int (q175.1)), .unset, .unset] [(.int (q177.1))])) (fun _ k => st178.trans k) ?_
          obtain ⟨h178, e178⟩ : ∃ z, T178.heap = z := ⟨_, rfl⟩
          rw [e178] at PC178
          have N178 := Fr.app N176 NC178
          refine own_by (B := T178.setTop (mkF m 226 #[.val (.int ua), .val (.int ub), .val (.int uc), .val (.ref ba), .val (.ref bb), .val (.int us2), .val (.int us3), .val (.int us2), .val (.int mv3), .val (.int unA), .val (.int unB), .val (.int mv14), .val (.ref (A 0)), .val (.int (q133.1)), .val (.int w170), .val (.int w172), .val (.int (q173.1)), .val (.int (q175.1)), .val (.int (q177.1)), .unset] [])) (fun _ k => XS.istore X178.here hx rfl (hb hby at_224) rfl (l' := #[.val (.int ua), .val (.int ub), .val (.int uc), .val (.ref ba), .val (.ref bb), .val (.int us2), .val (.int us3), .val (.int us2), .val (.int mv3), .val (.int unA), .val (.int unB), .val (.int mv14), .val (.ref (A 0)), .val (.int (q133.1)), .val (.int w170), .val (.int w172), .val (.int (q173.1)), .val (.int (q175.1)), .val (.int (q177.1)), .unset]) rfl k) ?_
          refine own_by (B := T178.setTop (mkF m 228 #[.val (.int ua), .val (.int ub), .val (.int uc), .val (.ref ba), .val (.ref bb), .val (.int us2), .val (.int us3), .val (.int us2), .val (.int mv3), .val (.int unA), .val (.int unB), .val (.int mv14), .val (.ref (A 0)), .val (.int (q133.1)), .val (.int w170), .val (.int w172), .val (.int (q173.1)), .val (.int (q175.1)), .val (.int (q177.1)), .unset] [(.ref (A 0))])) (fun _ k => XS.aload X178.here hx rfl (hb hby at_226) rfl rfl  k) ?_
          refine own_by (B := T178.setTop (mkF m 229 #[.val (.int ua), .val (.int ub), .val (.int uc), .val (.ref ba), .val (.ref bb), .val (.int us2), .val (.int us3), .val (.int us2), .val (.int mv3), .val (.int unA), .val (.int unB), .val (.int mv14), .val (.ref (A 0)), .val (.int (q133.1)), .val (.int w170), .val (.int w172), .val (.int (q173.1)), .val (.int (q175.1)), .val (.int (q177.1)), .unset] [(.int (3 : Int32)), (.ref (A 0))])) (fun _ k => XS.iconst X178.here hx rfl (hb hby at_228) k) ?_
          obtain ⟨q179, hq179, hF⟩ := own_bind hF
          obtain ⟨cq180, kq180, qa180, qb180, qc180⟩ := isOf hZ e178 (own_PS_E PC178)
          obtain ⟨_, _, ⟨T180, L180, k180, n180⟩, -, X180, ⟨Lc180, hQ180, l180, y180, z180⟩, st180⟩ := X178.virtualBack hx (y := (⟨"com/example/document_pattern_rules/documentpatternrules/pattern/Pairing", "lowest", "(I)I"⟩ : MethodName)) (z := (⟨"com/example/document_pattern_rules/documentpatternrules/pattern/Pairing", "lowest", "(I)I"⟩ : MethodName)) hown (mvT hZ (hw _ (List.mem_of_getElem? (i := 78) rfl))) (mvT hZ (hw _ (List.mem_of_getElem? (i := 79) rfl))) (notFace_of_selects (args := #[]) (mvT hZ (hw _ (List.mem_of_getElem? (i := 81) rfl)))) (mvT hZ (hw _ (List.mem_of_getElem? (i := 81) rfl))) (mvT hZ (hw _ (List.mem_of_getElem? (i := 80) rfl))) (by decide) (backOf (W := 0) (rm_lowest l Z a0 hw [] A K (4 : Int32) (12 : Int32) (own_two ba bb) (own_two kka kkb) [La, Lb] (q177.2) _ (3 : Int32) h178 n0 (Nat.le_trans (own_PS_gn PC178).1 (Nat.le_of_lt (own_PS_E PC178).lt)) PC178 hq179) hZ (hw _ (List.mem_of_getElem? (i := 82) rfl)) (hw _ (List.mem_of_getElem? (i := 7) rfl)) (by decide) (by decide)) qa180 qc180 (g := (mkF m 229 #[.val (.int ua), .val (.int ub), .val (.int uc), .val (.ref ba), .val (.ref bb), .val (.int us2), .val (.int us3), .val (.int us2), .val (.int mv3), .val (.int unA), .val (.int unB), .val (.int mv14), .val (.ref (A 0)), .val (.int (q133.1)), .val (.int w170), .val (.int w172), .val (.int (q173.1)), .val (.int (q175.1)), .val (.int (q177.1)), .unset] [(.int (3 : Int32)), (.ref (A 0))])) rfl (by rw [hml]; rfl) (Steps.refl _) (argsL := [(.int (3 : Int32))]) (rest := []) (lenOf pd_0__I_I rfl) rfl (by show 2 * 0 + _ ≤ _; exact Nat.le_of_eq rfl) (hb hby at_229) (fun _ _ => ⟨rfl, e178, (by decide : 15 + 0 ≤ _), (by decide : 84 + 0 ≤ _)⟩)
          dsimp only [Pt.U, Pt.locs, Pt.cells, Pt.slots] at X180 l180 y180 z180 st180 hQ180
          subst l180 y180 z180
          obtain ⟨rfl, NC180, PC180⟩ := hQ180
          refine own_by (B := T180.setTop (mkF m 232 #[.val (.int ua), .val (.int ub), .val (.int uc), .val (.ref ba), .val (.ref bb), .val (.int us2), .val (.int us3), .val (.int us2), .val (.int mv3), .val (.int unA), .val (.int unB), .val (.int mv14), .val (.ref (A 0)), .val (.int (q133.1)), .val (.int w170), .val (.int w172), .val (.int (q173.1)), .val (.int (q175.1)), .val (.int (q177.1)), .unset] [(.int (q179.1))])) (fun _ k => st180.trans k) ?_
          obtain ⟨h180, e180⟩ : ∃ z, T180.heap = z := ⟨_, rfl⟩
          rw [e180] at PC180
          have N180 := Fr.app N178 NC180
          refine own_by (B := T180.setTop (mkF m 234 #[.val (.int ua), .val (.int ub), .val (.int uc), .val (.ref ba), .val (.ref bb), .val (.int us2), .val (.int us3), .val (.int us2), .val (.int mv3), .val (.int unA), .val (.int unB), .val (.int mv14), .val (.ref (A 0)), .val (.int (q133.1)), .val (.int w170), .val (.int w172), .val (.int (q173.1)), .val (.int (q175.1)), .val (.int (q177.1)), .val (.int (q179.1))] [])) (fun _ k => XS.istore X180.here hx rfl (hb hby at_232) rfl (l' := #[.val (.int ua), .val (.int ub), .val (.int uc), .val (.ref ba), .val (.ref bb), .val (.int us2), .val (.int us3), .val (.int us2), .val (.int mv3), .val (.int unA), .val (.int unB), .val (.int mv14), .val (.ref (A 0)), .val (.int (q133.1)), .val (.int w170), .val (.int w172), .val (.int (q173.1)), .val (.int (q175.1)), .val (.int (q177.1)), .val (.int (q179.1))]) rfl k) ?_
          refine own_by (B := T180.setTop (mkF m 236 #[.val (.int ua), .val (.int ub), .val (.int uc), .val (.ref ba), .val (.ref bb), .val (.int us2), .val (.int us3), .val (.int us2), .val (.int mv3), .val (.int unA), .val (.int unB), .val (.int mv14), .val (.ref (A 0)), .val (.int (q133.1)), .val (.int w170), .val (.int w172), .val (.int (q173.1)), .val (.int (q175.1)), .val (.int (q177.1)), .val (.int (q179.1))] [(.int (q173.1))])) (fun _ k => XS.iload X180.here hx rfl (hb hby at_234) rfl  k) ?_
          refine own_by (B := T180.setTop (mkF m 237 #[.val (.int ua), .val (.int ub), .val (.int uc), .val (.ref ba), .val (.ref bb), .val (.int us2), .val (.int us3), .val (.int us2), .val (.int mv3), .val (.int unA), .val (.int unB), .val (.int mv14), .val (.ref (A 0)), .val (.int (q133.1)), .val (.int w170), .val (.int w172), .val (.int (q173.1)), .val (.int (q175.1)), .val (.int (q177.1)), .val (.int (q179.1))] [(.ref ba), (.int (q173.1))])) (fun _ k => XS.aloadN X180.here hx rfl (hb hby at_236) rfl rfl  k) ?_
          refine own_by (B := T180.setTop (mkF m 238 #[.val (.int ua), .val (.int ub), .val (.int uc), .val (.ref ba), .val (.ref bb), .val (.int us2), .val (.int us3), .val (.int us2), .val (.int mv3), .val (.int unA), .val (.int unB), .val (.int mv14), .val (.ref (A 0)), .val (.int (q133.1)), .val (.int w170), .val (.int w172), .val (.int (q173.1)), .val (.int (q175.1)), .val (.int (q177.1)), .val (.int (q179.1))] [(.int (0 : Int32)), (.ref ba), (.int (q173.1))])) (fun _ k => XS.iconst X180.here hx rfl (hb hby at_237) k) ?_
          obtain ⟨w181, hw181, hF⟩ := own_bind hF
          refine own_by (B := T180.setTop (mkF m 239 #[.val (.int ua), .val (.int ub), .val (.int uc), .val (.ref ba), .val (.ref bb), .val (.int us2), .val (.int us3), .val (.int us2), .val (.int mv3), .val (.int unA), .val (.int unB), .val (.int mv14), .val (.ref (A 0)), .val (.int (q133.1)), .val (.int w170), .val (.int w172), .val (.int (q173.1)), .val (.int (q175.1)), .val (.int (q177.1)), .val (.int (q179.1))] [(.int w181), (.int (q173.1))])) (own_ldI X180 hx hZ e180 ((own_PS_cc PC180) _ _ (rfl : ([La, Lb] : List (List Int32))[0]? = some La)).1 hw181 (g := (mkF m 238 #[.val (.int ua), .val (.int ub), .val (.int uc), .val (.ref ba), .val (.ref bb), .val (.int us2), .val (.int us3), .val (.int us2), .val (.int mv3), .val (.int unA), .val (.int unB), .val (.int mv14), .val (.ref (A 0)), .val (.int (q133.1)), .val (.int w170), .val (.int w172), .val (.int (q173.1)), .val (.int (q175.1)), .val (.int (q177.1)), .val (.int (q179.1))] [(.int (0 : Int32)), (.ref ba), (.int (q173.1))])) rfl rfl (hb hby at_238)) ?_
          by_cases hc182 : (q173.1) = w181
          · rw [if_pos hc182] at hF
            refine own_by (B := T180.setTop (mkF m 242 #[.val (.int ua), .val (.int ub), .val (.int uc), .val (.ref ba), .val (.ref bb), .val (.int us2), .val (.int us3), .val (.int us2), .val (.int mv3), .val (.int unA), .val (.int unB), .val (.int mv14), .val (.ref (A 0)), .val (.int (q133.1)), .val (.int w170), .val (.int w172), .val (.int (q173.1)), .val (.int (q175.1)), .val (.int (q177.1)), .val (.int (q179.1))] [])) (fun _ k => XS.icmpNo X180.here hx rfl (hb hby at_239) rfl (XT.ii_ne_f hc182) k) ?_
            refine own_by (B := T180.setTop (mkF m 244 #[.val (.int ua), .val (.int ub), .val (.int uc), .val (.ref ba), .val (.ref bb), .val (.int us2), .val (.int us3), .val (.int us2), .val (.int mv3), .val (.int unA), .val (.int unB), .val (.int mv14), .val (.ref (A 0)), .val (.int (q133.1)), .val (.int w170), .val (.int w172), .val (.int (q173.1)), .val (.int (q175.1)), .val (.int (q177.1)), .val (.int (q179.1))] [(.int (q175.1))])) (fun _ k => XS.iload X180.here hx rfl (hb hby at_242) rfl  k) ?_
            refine own_by (B := T180.setTop (mkF m 246 #[.val (.int ua), .val (.int ub), .val (.int uc), .val (.ref ba), .val (.ref bb), .val (.int us2), .val (.int us3), .val (.int us2), .val (.int mv3), .val (.int unA), .val (.int unB), .val (.int mv14), .val (.ref (A 0)), .val (.int (q133.1)), .val (.int w170), .val (.int w172), .val (.int (q173.1)), .val (.int (q175.1)), .val (.int (q177.1)), .val (.int (q179.1))] [(.ref bb), (.int (q175.1))])) (fun _ k => XS.aload X180.here hx rfl (hb hby at_244) rfl rfl  k) ?_
            refine own_by (B := T180.setTop (mkF m 247 #[.val (.int ua), .val (.int ub), .val (.int uc), .val (.ref ba), .val (.ref bb), .val (.int us2), .val (.int us3), .val (.int us2), .val (.int mv3), .val (.int unA), .val (.int unB), .val (.int mv14), .val (.ref (A 0)), .val (.int (q133.1)), .val (.int w170), .val (.int w172), .val (.int (q173.1)), .val (.int (q175.1)), .val (.int (q177.1)), .val (.int (q179.1))] [(.int (0 : Int32)), (.ref bb), (.int (q175.1))])) (fun _ k => XS.iconst X180.here hx rfl (hb hby at_246) k) ?_
            obtain ⟨w183, hw183, hF⟩ := own_bind hF
            refine own_by (B := T180.setTop (mkF m 248 #[.val (.int ua), .val (.int ub), .val (.int uc), .val (.ref ba), .val (.ref bb), .val (.int us2), .val (.int us3), .val (.int us2), .val (.int mv3), .val (.int unA), .val (.int unB), .val (.int mv14), .val (.ref (A 0)), .val (.int (q133.1)), .val (.int w170), .val (.int w172), .val (.int (q173.1)), .val (.int (q175.1)), .val (.int (q177.1)), .val (.int (q179.1))] [(.int w183), (.int (q175.1))])) (own_ldI X180 hx hZ e180 ((own_PS_cc PC180) _ _ (rfl : ([La, Lb] : List (List Int32))[1]? = some Lb)).1 hw183 (g := (mkF m 247 #[.val (.int ua), .val (.int ub), .val (.int uc), .val (.ref ba), .val (.ref bb), .val (.int us2), .val (.int us3), .val (.int us2), .val (.int mv3), .val (.int unA), .val (.int unB), .val (.int mv14), .val (.ref (A 0)), .val (.int (q133.1)), .val (.int w170), .val (.int w172), .val (.int (q173.1)), .val (.int (q175.1)), .val (.int (q177.1)), .val (.int (q179.1))] [(.int (0 : Int32)), (.ref bb), (.int (q175.1))])) rfl rfl (hb hby at_247)) ?_
            by_cases hc184 : (q175.1) = w183
            · rw [if_pos hc184] at hF
              refine own_by (B := T180.setTop (mkF m 251 #[.val (.int ua), .val (.int ub), .val (.int uc), .val (.ref ba), .val (.ref bb), .val (.int us2), .val (.int us3), .val (.int us2), .val (.int mv3), .val (.int unA), .val (.int unB), .val (.int mv14), .val (.ref (A 0)), .val (.int (q133.1)), .val (.int w170), .val (.int w172), .val (.int (q173.1)), .val (.int (q175.1)), .val (.int (q177.1)), .val (.int (q179.1))] [])) (fun _ k => XS.icmpNo X180.here hx rfl (hb hby at_248) rfl (XT.ii_ne_f hc184) k) ?_
              refine own_by (B := T180.setTop (mkF m 253 #[.val (.int ua), .val (.int ub), .val (.int uc), .val (.ref ba), .val (.ref bb), .val (.int us2), .val (.int us3), .val (.int us2), .val (.int mv3), .val (.int unA), .val (.int unB), .val (.int mv14), .val (.ref (A 0)), .val (.int (q133.1)), .val (.int w170), .val (.int w172), .val (.int (q173.1)), .val (.int (q175.1)), .val (.int (q177.1)), .val (.int (q179.1))] [(.int (q177.1))])) (fun _ k => XS.iload X180.here hx rfl (hb hby at_251) rfl  k) ?_
              refine own_by (B := T180.setTop (mkF m 255 #[.val (.int ua), .val (.int ub), .val (.int uc), .val (.ref ba), .val (.ref bb), .val (.int us2), .val (.int us3), .val (.int us2), .val (.int mv3), .val (.int unA), .val (.int unB), .val (.int mv14), .val (.ref (A 0)), .val (.int (q133.1)), .val (.int w170), .val (.int w172), .val (.int (q173.1)), .val (.int (q175.1)), .val (.int (q177.1)), .val (.int (q179.1))] [(.int w170), (.int (q177.1))])) (fun _ k => XS.iload X180.here hx rfl (hb hby at_253) rfl  k) ?_
              by_cases hc185 : (q177.1) = w170
              · rw [if_pos hc185] at hF
                refine own_by (B := T180.setTop (mkF m 258 #[.val (.int ua), .val (.int ub), .val (.int uc), .val (.ref ba), .val (.ref bb), .val (.int us2), .val (.int us3), .val (.int us2), .val (.int mv3), .val (.int unA), .val (.int unB), .val (.int mv14), .val (.ref (A 0)), .val (.int (q133.1)), .val (.int w170), .val (.int w172), .val (.int (q173.1)), .val (.int (q175.1)), .val (.int (q177.1)), .val (.int (q179.1))] [])) (fun _ k => XS.icmpNo X180.here hx rfl (hb hby at_255) rfl (XT.ii_ne_f hc185) k) ?_
                refine own_by (B := T180.setTop (mkF m 260 #[.val (.int ua), .val (.int ub), .val (.int uc), .val (.ref ba), .val (.ref bb), .val (.int us2), .val (.int us3), .val (.int us2), .val (.int mv3), .val (.int unA), .val (.int unB), .val (.int mv14), .val (.ref (A 0)), .val (.int (q133.1)), .val (.int w170), .val (.int w172), .val (.int (q173.1)), .val (.int (q175.1)), .val (.int (q177.1)), .val (.int (q179.1))] [(.int (q179.1))])) (fun _ k => XS.iload X180.here hx rfl (hb hby at_258) rfl  k) ?_
                refine own_by (B := T180.setTop (mkF m 262 #[.val (.int ua), .val (.int ub), .val (.int uc), .val (.ref ba), .val (.ref bb), .val (.int us2), .val (.int us3), .val (.int us2), .val (.int mv3), .val (.int unA), .val (.int unB), .val (.int mv14), .val (.ref (A 0)), .val (.int (q133.1)), .val (.int w170), .val (.int w172), .val (.int (q173.1)), .val (.int (q175.1)), .val (.int (q177.1)), .val (.int (q179.1))] [(.int w172), (.int (q179.1))])) (fun _ k => XS.iload X180.here hx rfl (hb hby at_260) rfl  k) ?_
                by_cases hc186 : (q179.1) = w172
                · rw [if_pos hc186] at hF
                  refine own_by (B := T180.setTop (mkF m 265 #[.val (.int ua), .val (.int ub), .val (.int uc), .val (.ref ba), .val (.ref bb), .val (.int us2), .val (.int us3), .val (.int us2), .val (.int mv3), .val (.int unA), .val (.int unB), .val (.int mv14), .val (.ref (A 0)), .val (.int (q133.1)), .val (.int w170), .val (.int w172), .val (.int (q173.1)), .val (.int (q175.1)), .val (.int (q177.1)), .val (.int (q179.1))] [])) (fun _ k => XS.icmpNo X180.here hx rfl (hb hby at_262) rfl (XT.ii_ne_f hc186) k) ?_
                  refine own_by (B := T180.setTop (mkF m 266 #[.val (.int ua), .val (.int ub), .val (.int uc), .val (.ref ba), .val (.ref bb), .val (.int us2), .val (.int us3), .val (.int us2), .val (.int mv3), .val (.int unA), .val (.int unB), .val (.int mv14), .val (.ref (A 0)), .val (.int (q133.1)), .val (.int w170), .val (.int w172), .val (.int (q173.1)), .val (.int (q175.1)), .val (.int (q177.1)), .val (.int (q179.1))] [(.int (1 : Int32))])) (fun _ k => XS.iconst X180.here hx rfl (hb hby at_265) k) ?_
                  refine own_by (B := T180.setTop (mkF m 270 #[.val (.int ua), .val (.int ub), .val (.int uc), .val (.ref ba), .val (.ref bb), .val (.int us2), .val (.int us3), .val (.int us2), .val (.int mv3), .val (.int unA), .val (.int unB), .val (.int mv14), .val (.ref (A 0)), .val (.int (q133.1)), .val (.int w170), .val (.int w172), .val (.int (q173.1)), .val (.int (q175.1)), .val (.int (q177.1)), .val (.int (q179.1))] [(.int (1 : Int32))])) (fun _ k => XS.goto X180.here hx rfl (pc0 := 266) (pc' := 270) rfl (hb hby at_266) (by decide) (by decide) k) ?_
                  exact own_retZ X180 hx hrt hlk rfl (hb hby at_270) (by decide) (by decide) ⟨rfl, N180⟩
                · rw [if_neg hc186] at hF
                  refine own_by (B := T180.setTop (mkF m 269 #[.val (.int ua), .val (.int ub), .val (.int uc), .val (.ref ba), .val (.ref bb), .val (.int us2), .val (.int us3), .val (.int us2), .val (.int mv3), .val (.int unA), .val (.int unB), .val (.int mv14), .val (.ref (A 0)), .val (.int (q133.1)), .val (.int w170), .val (.int w172), .val (.int (q173.1)), .val (.int (q175.1)), .val (.int (q177.1)), .val (.int (q179.1))] [])) (fun _ k => XS.icmpYes X180.here hx rfl (pc0 := 262) (pc' := 269) rfl (hb hby at_262) rfl (XT.ii_ne_t hc186) (by decide) (by decide) k) ?_
                  refine own_by (B := T180.setTop (mkF m 270 #[.val (.int ua), .val (.int ub), .val (.int uc), .val (.ref ba), .val (.ref bb), .val (.int us2), .val (.int us3), .val (.int us2), .val (.int mv3), .val (.int unA), .val (.int unB), .val (.int mv14), .val (.ref (A 0)), .val (.int (q133.1)), .val (.int w170), .val (.int w172), .val (.int (q173.1)), .val (.int (q175.1)), .val (.int (q177.1)), .val (.int (q179.1))] [(.int (0 : Int32))])) (fun _ k => XS.iconst X180.here hx rfl (hb hby at_269) k) ?_
                  exact absurd (Option.some.inj hF) (by decide)
              · rw [if_neg hc185] at hF
                refine own_by (B := T180.setTop (mkF m 269 #[.val (.int ua), .val (.int ub), .val (.int uc), .val (.ref ba), .val (.ref bb), .val (.int us2), .val (.int us3), .val (.int us2), .val (.int mv3), .val (.int unA), .val (.int unB), .val (.int mv14), .val (.ref (A 0)), .val (.int (q133.1)), .val (.int w170), .val (.int w172), .val (.int (q173.1)), .val (.int (q175.1)), .val (.int (q177.1)), .val (.int (q179.1))] [])) (fun _ k => XS.icmpYes X180.here hx rfl (pc0 := 255) (pc' := 269) rfl (hb hby at_255) rfl (XT.ii_ne_t hc185) (by decide) (by decide) k) ?_
                refine own_by (B := T180.setTop (mkF m 270 #[.val (.int ua), .val (.int ub), .val (.int uc), .val (.ref ba), .val (.ref bb), .val (.int us2), .val (.int us3), .val (.int us2), .val (.int mv3), .val (.int unA), .val (.int unB), .val (.int mv14), .val (.ref (A 0)), .val (.int (q133.1)), .val (.int w170), .val (.int w172), .val (.int (q173.1)), .val (.int (q175.1)), .val (.int (q177.1)), .val (.int (q179.1))] [(.int (0 : Int32))])) (fun _ k => XS.iconst X180.here hx rfl (hb hby at_269) k) ?_
                exact absurd (Option.some.inj hF) (by decide)
            · rw [if_neg hc184] at hF
              refine own_by (B := T180.setTop (mkF m 269 #[.val (.int ua), .val (.int ub), .val (.int uc), .val (.ref ba), .val (.ref bb), .val (.int us2), .val (.int us3), .val (.int us2), .val (.int mv3), .val (.int unA), .val (.int unB), .val (.int mv14), .val (.ref (A 0)), .val (.int (q133.1)), .val (.int w170), .val (.int w172), .val (.int (q173.1)), .val (.int (q175.1)), .val (.int (q177.1)), .val (.int (q179.1))] [])) (fun _ k => XS.icmpYes X180.here hx rfl (pc0 := 248) (pc' := 269) rfl (hb hby at_248) rfl (XT.ii_ne_t hc184) (by decide) (by decide) k) ?_
              refine own_by (B := T180.setTop (mkF m 270 #[.val (.int ua), .val (.int ub), .val (.int uc), .val (.ref ba), .val (.ref bb), .val (.int us2), .val (.int us3), .val (.int us2), .val (.int mv3), .val (.int unA), .val (.int unB), .val (.int mv14), .val (.ref (A 0)), .val (.int (q133.1)), .val (.int w170), .val (.int w172), .val (.int (q173.1)), .val (.int (q175.1)), .val (.int (q177.1)), .val (.int (q179.1))] [(.int (0 : Int32))])) (fun _ k => XS.iconst X180.here hx rfl (hb hby at_269) k) ?_
              exact absurd (Option.some.inj hF) (by decide)
          · rw [if_neg hc182] at hF
            refine own_by (B := T180.setTop (mkF m 269 #[.val (.int ua), .val (.int ub), .val (.int uc), .val (.ref ba), .val (.ref bb), .val (.int us2), .val (.int us3), .val (.int us2), .val (.int mv3), .val (.int unA), .val (.int unB), .val (.int mv14), .val (.ref (A 0)), .val (.int (q133.1)), .val (.int w170), .val (.int w172), .val (.int (q173.1)), .val (.int (q175.1)), .val (.int (q177.1)), .val (.int (q179.1))] [])) (fun _ k => XS.icmpYes X180.here hx rfl (pc0 := 239) (pc' := 269) rfl (hb hby at_239) rfl (XT.ii_ne_t hc182) (by decide) (by decide) k) ?_
            refine own_by (B := T180.setTop (mkF m 270 #[.val (.int ua), .val (.int ub), .val (.int uc), .val (.ref ba), .val (.ref bb), .val (.int us2), .val (.int us3), .val (.int us2), .val (.int mv3), .val (.int unA), .val (.int unB), .val (.int mv14), .val (.ref (A 0)), .val (.int (q133.1)), .val (.int w170), .val (.int w172), .val (.int (q173.1)), .val (.int (q175.1)), .val (.int (q177.1)), .val (.int (q179.1))] [(.int (0 : Int32))])) (fun _ k => XS.iconst X180.here hx rfl (hb hby at_269) k) ?_
            exact absurd (Option.some.inj hF) (by decide)
        · rw [if_neg hc171] at hF
          refine own_by (B := T134.setTop (mkF m 193 #[.val (.int ua), .val (.int ub), .val (.int uc), .val (.ref ba), .val (.ref bb), .val (.int us2), .val (.int us3), .val (.int us2), .val (.int mv3), .val (.int unA), .val (.int unB), .val (.int mv14), .val (.ref (A 0)), .val (.int (q133.1)), .val (.int w170), .unset, .unset, .unset, .unset, .unset] [])) (fun _ k => XS.ifYes X134.here hx rfl (pc0 := 181) (pc' := 193) rfl (hb hby at_181) rfl (XT.i0_ne_t hc171) (by decide) (by decide) k) ?_
          refine own_by (B := T134.setTop (mkF m 195 #[.val (.int ua), .val (.int ub), .val (.int uc), .val (.ref ba), .val (.ref bb), .val (.int us2), .val (.int us3), .val (.int us2), .val (.int mv3), .val (.int unA), .val (.int unB), .val (.int mv14), .val (.ref (A 0)), .val (.int (q133.1)), .val (.int w170), .unset, .unset, .unset, .unset, .unset] [(.ref bb)])) (fun _ k => XS.aload X134.here hx rfl (hb hby at_193) rfl rfl  k) ?_
          refine own_by (B := T134.setTop (mkF m 197 #[.val (.int ua), .val (.int ub), .val (.int uc), .val (.ref ba), .val (.ref bb), .val (.int us2), .val (.int us3), .val (.int us2), .val (.int mv3), .val (.int unA), .val (.int unB), .val (.int mv14), .val (.ref (A 0)), .val (.int (q133.1)), .val (.int w170), .unset, .unset, .unset, .unset, .unset] [(.int unB), (.ref bb)])) (fun _ k => XS.iload X134.here hx rfl (hb hby at_195) rfl  k) ?_
          refine own_by (B := T134.setTop (mkF m 198 #[.val (.int ua), .val (.int ub), .val (.int uc), .val (.ref ba), .val (.ref bb), .val (.int us2), .val (.int us3), .val (.int us2), .val (.int mv3), .val (.int unA), .val (.int unB), .val (.int mv14), .val (.ref (A 0)), .val (.int (q133.1)), .val (.int w170), .unset, .unset, .unset, .unset, .unset] [(.int (1 : Int32)), (.int unB), (.ref bb)])) (fun _ k => XS.iconst X134.here hx rfl (hb hby at_197) k) ?_
          refine own_by (B := T134.setTop (mkF m 199 #[.val (.int ua), .val (.int ub), .val (.int uc), .val (.ref ba), .val (.ref bb), .val (.int us2), .val (.int us3), .val (.int us2), .val (.int mv3), .val (.int unA), .val (.int unB), .val (.int mv14), .val (.ref (A 0)), .val (.int (q133.1)), .val (.int w170), .unset, .unset, .unset, .unset, .unset] [(.int (unB - (1 : Int32))), (.ref bb)])) (fun _ k => XS.isub X134.here hx rfl (hb hby at_198) rfl k) ?_
          obtain ⟨w187, hw187, hF⟩ := own_bind hF
          refine own_by (B := T134.setTop (mkF m 200 #[.val (.int ua), .val (.int ub), .val (.int uc), .val (.ref ba), .val (.ref bb), .val (.int us2), .val (.int us3), .val (.int us2), .val (.int mv3), .val (.int unA), .val (.int unB), .val (.int mv14), .val (.ref (A 0)), .val (.int (q133.1)), .val (.int w170), .unset, .unset, .unset, .unset, .unset] [(.int w187)])) (own_ldI X134 hx hZ e134 ((own_PS_cc PC134) _ _ (rfl : ([La, Lb] : List (List Int32))[1]? = some Lb)).1 hw187 (g := (mkF m 199 #[.val (.int ua), .val (.int ub), .val (.int uc), .val (.ref ba), .val (.ref bb), .val (.int us2), .val (.int us3), .val (.int us2), .val (.int mv3), .val (.int unA), .val (.int unB), .val (.int mv14), .val (.ref (A 0)), .val (.int (q133.1)), .val (.int w170), .unset, .unset, .unset, .unset, .unset] [(.int (unB - (1 : Int32))), (.ref bb)])) rfl rfl (hb hby at_199)) ?_
          refine own_by (B := T134.setTop (mkF m 202 #[.val (.int ua), .val (.int ub), .val (.int uc), .val (.ref ba), .val (.ref bb), .val (.int us2), .val (.int us3), .val (.int us2), .val (.int mv3), .val (.int unA), .val (.int unB), .val (.int mv14), .val (.ref (A 0)), .val (.int (q133.1)), .val (.int w170), .val (.int w187), .unset, .unset, .unset, .unset] [])) (fun _ k => XS.istore X134.here hx rfl (hb hby at_200) rfl (l' := #[.val (.int ua), .val (.int ub), .val (.int uc), .val (.ref ba), .val (.ref bb), .val (.int us2), .val (.int us3), .val (.int us2), .val (.int mv3), .val (.int unA), .val (.int unB), .val (.int mv14), .val (.ref (A 0)), .val (.int (q133.1)), .val (.int w170), .val (.int w187), .unset, .unset, .unset, .unset]) rfl k) ?_
          refine own_by (B := T134.setTop (mkF m 204 #[.val (.int ua), .val (.int ub), .val (.int uc), .val (.ref ba), .val (.ref bb), .val (.int us2), .val (.int us3), .val (.int us2), .val (.int mv3), .val (.int unA), .val (.int unB), .val (.int mv14), .val (.ref (A 0)), .val (.int (q133.1)), .val (.int w170), .val (.int w187), .unset, .unset, .unset, .unset] [(.ref (A 0))])) (fun _ k => XS.aload X134.here hx rfl (hb hby at_202) rfl rfl  k) ?_
          refine own_by (B := T134.setTop (mkF m 205 #[.val (.int ua), .val (.int ub), .val (.int uc), .val (.ref ba), .val (.ref bb), .val (.int us2), .val (.int us3), .val (.int us2), .val (.int mv3), .val (.int unA), .val (.int unB), .val (.int mv14), .val (.ref (A 0)), .val (.int (q133.1)), .val (.int w170), .val (.int w187), .unset, .unset, .unset, .unset] [(.int (0 : Int32)), (.ref (A 0))])) (fun _ k => XS.iconst X134.here hx rfl (hb hby at_204) k) ?_
          obtain ⟨q188, hq188, hF⟩ := own_bind hF
          obtain ⟨cq189, kq189, qa189, qb189, qc189⟩ := isOf hZ e134 (own_PS_E PC134)
          obtain ⟨_, _, ⟨T189, L189, k189, n189⟩, -, X189, ⟨Lc189, hQ189, l189, y189, z189⟩, st189⟩ := X134.virtualBack hx (y := (⟨"com/example/document_pattern_rules/documentpatternrules/pattern/Pairing", "lowest", "(I)I"⟩ : MethodName)) (z := (⟨"com/example/document_pattern_rules/documentpatternrules/pattern/Pairing", "lowest", "(I)I"⟩ : MethodName)) hown (mvT hZ (hw _ (List.mem_of_getElem? (i := 78) rfl))) (mvT hZ (hw _ (List.mem_of_getElem? (i := 79) rfl))) (notFace_of_selects (args := #[]) (mvT hZ (hw _ (List.mem_of_getElem? (i := 81) rfl)))) (mvT hZ (hw _ (List.mem_of_getElem? (i := 81) rfl))) (mvT hZ (hw _ (List.mem_of_getElem? (i := 80) rfl))) (by decide) (backOf (W := 0) (rm_lowest l Z a0 hw [] A K (4 : Int32) (12 : Int32) (own_two ba bb) (own_two kka kkb) [La, Lb] (q133.2) _ (0 : Int32) h134 n0 (Nat.le_trans (own_PS_gn PC134).1 (Nat.le_of_lt (own_PS_E PC134).lt)) PC134 hq188) hZ (hw _ (List.mem_of_getElem? (i := 82) rfl)) (hw _ (List.mem_of_getElem? (i := 7) rfl)) (by decide) (by decide)) qa189 qc189 (g := (mkF m 205 #[.val (.int ua), .val (.int ub), .val (.int uc), .val (.ref ba), .val (.ref bb), .val (.int us2), .val (.int us3), .val (.int us2), .val (.int mv3), .val (.int unA), .val (.int unB), .val (.int mv14), .val (.ref (A 0)), .val (.int (q133.1)), .val (.int w170), .val (.int w187), .unset, .unset, .unset, .unset] [(.int (0 : Int32)), (.ref (A 0))])) rfl (by rw [hml]; rfl) (Steps.refl _) (argsL := [(.int (0 : Int32))]) (rest := []) (lenOf pd_0__I_I rfl) rfl (by show 2 * 0 + _ ≤ _; exact Nat.le_of_eq rfl) (hb hby at_205) (fun _ _ => ⟨rfl, e134, (by decide : 15 + 0 ≤ _), (by decide : 84 + 0 ≤ _)⟩)
          dsimp only [Pt.U, Pt.locs, Pt.cells, Pt.slots] at X189 l189 y189 z189 st189 hQ189
          subst l189 y189 z189
          obtain ⟨rfl, NC189, PC189⟩ := hQ189
          refine own_by (B := T189.setTop (mkF m 208 #[.val (.int ua), .val (.int ub), .val (.int uc), .val (.ref ba), .val (.ref bb), .val (.int us2), .val (.int us3), .val (.int us2), .val (.int mv3), .val (.int unA), .val (.int unB), .val (.int mv14), .val (.ref (A 0)), .val (.int (q133.1)), .val (.int w170), .val (.int w187), .unset, .unset, .unset, .unset] [(.int (q188.1))])) (fun _ k => st189.trans k) ?_
          obtain ⟨h189, e189⟩ : ∃ z, T189.heap = z := ⟨_, rfl⟩
          rw [e189] at PC189
          have N189 := Fr.app N134 NC189
          refine own_by (B := T189.setTop (mkF m 210 #[.val (.int ua), .val (.int ub), .val (.int uc), .val (.ref ba), .val (.ref bb), .val (.int us2), .val (.int us3), .val (.int us2), .val (.int mv3), .val (.int unA), .val (.int unB), .val (.int mv14), .val (.ref (A 0)), .val (.int (q133.1)), .val (.int w170), .val (.int w187), .val (.int (q188.1)), .unset, .unset, .unset] [])) (fun _ k => XS.istore X189.here hx rfl (hb hby at_208) rfl (l' := #[.val (.int ua), .val (.int ub), .val (.int uc), .val (.ref ba), .val (.ref bb), .val (.int us2), .val (.int us3), .val (.int us2), .val (.int mv3), .val (.int unA), .val (.int unB), .val (.int mv14), .val (.ref (A 0)), .val (.int (q133.1)), .val (.int w170), .val (.int w187), .val (.int (q188.1)), .unset, .unset, .unset]) rfl k) ?_
          refine own_by (B := T189.setTop (mkF m 212 #[.val (.int ua), .val (.int ub), .val (.int uc), .val (.ref ba), .val (.ref bb), .val (.int us2), .val (.int us3), .val (.int us2), .val (.int mv3), .val (.int unA), .val (.int unB), .val (.int mv14), .val (.ref (A 0)), .val (.int (q133.1)), .val (.int w170), .val (.int w187), .val (.int (q188.1)), .unset, .unset, .unset] [(.ref (A 0))])) (fun _ k => XS.aload X189.here hx rfl (hb hby at_210) rfl rfl  k) ?_
          refine own_by (B := T189.setTop (mkF m 213 #[.val (.int ua), .val (.int ub), .val (.int uc), .val (.ref ba), .val (.ref bb), .val (.int us2), .val (.int us3), .val (.int us2), .val (.int mv3), .val (.int unA), .val (.int unB), .val (.int mv14), .val (.ref (A 0)), .val (.int (q133.1)), .val (.int w170), .val (.int w187), .val (.int (q188.1)), .unset, .unset, .unset] [(.int (1 : Int32)), (.ref (A 0))])) (fun _ k => XS.iconst X189.here hx rfl (hb hby at_212) k) ?_
          obtain ⟨q190, hq190, hF⟩ := own_bind hF
          obtain ⟨cq191, kq191, qa191, qb191, qc191⟩ := isOf hZ e189 (own_PS_E PC189)
          obtain ⟨_, _, ⟨T191, L191, k191, n191⟩, -, X191, ⟨Lc191, hQ191, l191, y191, z191⟩, st191⟩ := X189.virtualBack hx (y := (⟨"com/example/document_pattern_rules/documentpatternrules/pattern/Pairing", "lowest", "(I)I"⟩ : MethodName)) (z := (⟨"com/example/document_pattern_rules/documentpatternrules/pattern/Pairing", "lowest", "(I)I"⟩ : MethodName)) hown (mvT hZ (hw _ (List.mem_of_getElem? (i := 78) rfl))) (mvT hZ (hw _ (List.mem_of_getElem? (i := 79) rfl))) (notFace_of_selects (args := #[]) (mvT hZ (hw _ (List.mem_of_getElem? (i := 81) rfl)))) (mvT hZ (hw _ (List.mem_of_getElem? (i := 81) rfl))) (mvT hZ (hw _ (List.mem_of_getElem? (i := 80) rfl))) (by decide) (backOf (W := 0) (rm_lowest l Z a0 hw [] A K (4 : Int32) (12 : Int32) (own_two ba bb) (own_two kka kkb) [La, Lb] (q188.2) _ (1 : Int32) h189 n0 (Nat.le_trans (own_PS_gn PC189).1 (Nat.le_of_lt (own_PS_E PC189).lt)) PC189 hq190) hZ (hw _ (List.mem_of_getElem? (i := 82) rfl)) (hw _ (List.mem_of_getElem? (i := 7) rfl)) (by decide) (by decide)) qa191 qc191 (g := (mkF m 213 #[.val (.int ua), .val (.int ub), .val (.int uc), .val (.ref ba), .val (.ref bb), .val (.int us2), .val (.int us3), .val (.int us2), .val (.int mv3), .val (.int unA), .val (.int unB), .val (.int mv14), .val (.ref (A 0)), .val (.int (q133.1)), .val (.int w170), .val (.int w187), .val (.int (q188.1)), .unset, .unset, .unset] [(.int (1 : Int32)), (.ref (A 0))])) rfl (by rw [hml]; rfl) (Steps.refl _) (argsL := [(.int (1 : Int32))]) (rest := []) (lenOf pd_0__I_I rfl) rfl (by show 2 * 0 + _ ≤ _; exact Nat.le_of_eq rfl) (hb hby at_213) (fun _ _ => ⟨rfl, e189, (by decide : 15 + 0 ≤ _), (by decide : 84 + 0 ≤ _)⟩)
          dsimp only [Pt.U, Pt.locs, Pt.cells, Pt.slots] at X191 l191 y191 z191 st191 hQ191
          subst l191 y191 z191
          obtain ⟨rfl, NC191, PC191⟩ := hQ191
          refine own_by (B := T191.setTop (mkF m 216 #[.val (.int ua), .val (.int ub), .val (.int uc), .val (.ref ba), .val (.ref bb), .val (.int us2), .val (.int us3), .val (.int us2), .val (.int mv3), .val (.int unA), .val (.int unB), .val (.int mv14), .val (.ref (A 0)), .val (.int (q133.1)), .val (.int w170), .val (.int w187), .val (.int (q188.1)), .unset, .unset, .unset] [(.int (q190.1))])) (fun _ k => st191.trans k) ?_
          obtain ⟨h191, e191⟩ : ∃ z, T191.heap = z := ⟨_, rfl⟩
          rw [e191] at PC191
          have N191 := Fr.app N189 NC191
          refine own_by (B := T191.setTop (mkF m 218 #[.val (.int ua), .val (.int ub), .val (.int uc), .val (.ref ba), .val (.ref bb), .val (.int us2), .val (.int us3), .val (.int us2), .val (.int mv3), .val (.int unA), .val (.int unB), .val (.int mv14), .val (.ref (A 0)), .val (.int (q133.1)), .val (.int w170), .val (.int w187), .val (.int (q188.1)), .val (.int (q190.1)), .unset, .unset] [])) (fun _ k => XS.istore X191.here hx rfl (hb hby at_216) rfl (l' := #[.val (.int ua), .val (.int ub), .val (.int uc), .val (.ref ba), .val (.ref bb), .val (.int us2), .val (.int us3), .val (.int us2), .val (.int mv3), .val (.int unA), .val (.int unB), .val (.int mv14), .val (.ref (A 0)), .val (.int (q133.1)), .val (.int w170), .val (.int w187), .val (.int (q188.1)), .val (.int (q190.1)), .unset, .unset]) rfl k) ?_
          refine own_by (B := T191.setTop (mkF m 220 #[.val (.int ua), .val (.int ub), .val (.int uc), .val (.ref ba), .val (.ref bb), .val (.int us2), .val (.int us3), .val (.int us2), .val (.int mv3), .val (.int unA), .val (.int unB), .val (.int mv14), .val (.ref (A 0)), .val (.int (q133.1)), .val (.int w170), .val (.int w187), .val (.int (q188.1)), .val (.int (q190.1)), .unset, .unset] [(.ref (A 0))])) (fun _ k => XS.aload X191.here hx rfl (hb hby at_218) rfl rfl  k) ?_
          refine own_by (B := T191.setTop (mkF m 221 #[.val (.int ua), .val (.int ub), .val (.int uc), .val (.ref ba), .val (.ref bb), .val (.int us2), .val (.int us3), .val (.int us2), .val (.int mv3), .val (.int unA), .val (.int unB), .val (.int mv14), .val (.ref (A 0)), .val (.int (q133.1)), .val (.int w170), .val (.int w187), .val (.int (q188.1)), .val (.int (q190.1)), .unset, .unset] [(.int (2 : Int32)), (.ref (A 0))])) (fun _ k => XS.iconst X191.here hx rfl (hb hby at_220) k) ?_
          obtain ⟨q192, hq192, hF⟩ := own_bind hF
          obtain ⟨cq193, kq193, qa193, qb193, qc193⟩ := isOf hZ e191 (own_PS_E PC191)
          obtain ⟨_, _, ⟨T193, L193, k193, n193⟩, -, X193, ⟨Lc193, hQ193, l193, y193, z193⟩, st193⟩ := X191.virtualBack hx (y := (⟨"com/example/document_pattern_rules/documentpatternrules/pattern/Pairing", "lowest", "(I)I"⟩ : MethodName)) (z := (⟨"com/example/document_pattern_rules/documentpatternrules/pattern/Pairing", "lowest", "(I)I"⟩ : MethodName)) hown (mvT hZ (hw _ (List.mem_of_getElem? (i := 78) rfl))) (mvT hZ (hw _ (List.mem_of_getElem? (i := 79) rfl))) (notFace_of_selects (args := #[]) (mvT hZ (hw _ (List.mem_of_getElem? (i := 81) rfl)))) (mvT hZ (hw _ (List.mem_of_getElem? (i := 81) rfl))) (mvT hZ (hw _ (List.mem_of_getElem? (i := 80) rfl))) (by decide) (backOf (W := 0) (rm_lowest l Z a0 hw [] A K (4 : Int32) (12 : Int32) (own_two ba bb) (own_two kka kkb) [La, Lb] (q190.2) _ (2 : Int32) h191 n0 (Nat.le_trans (own_PS_gn PC191).1 (Nat.le_of_lt (own_PS_E PC191).lt)) PC191 hq192) hZ (hw _ (List.mem_of_getElem? (i := 82) rfl)) (hw _ (List.mem_of_getElem? (i := 7) rfl)) (by decide) (by decide)) qa193 qc193 (g := (mkF m 221 #[.val (.int ua), .val (.int ub), .val (.int uc), .val (.ref ba), .val (.ref bb), .val (.int us2), .val (.int us3), .val (.int us2), .val (.int mv3), .val (.int unA), .val (.int unB), .val (.int mv14), .val (.ref (A 0)), .val (.int (q133.1)), .val (.int w170), .val (.int w187), .val (.int (q188.1)), .val (.int (q190.1)), .unset, .unset] [(.int (2 : Int32)), (.ref (A 0))])) rfl (by rw [hml]; rfl) (Steps.refl _) (argsL := [(.int (2 : Int32))]) (rest := []) (lenOf pd_0__I_I rfl) rfl (by show 2 * 0 + _ ≤ _; exact Nat.le_of_eq rfl) (hb hby at_221) (fun _ _ => ⟨rfl, e191, (by decide : 15 + 0 ≤ _), (by decide : 84 + 0 ≤ _)⟩)
          dsimp only [Pt.U, Pt.locs, Pt.cells, Pt.slots] at X193 l193 y193 z193 st193 hQ193
          subst l193 y193 z193
          obtain ⟨rfl, NC193, PC193⟩ := hQ193
          refine own_by (B := T193.setTop (mkF m 224 #[.val (.int ua), .val (.int ub), .val (.int uc), .val (.ref ba), .val (.ref bb), .val (.int us2), .val (.int us3), .val (.int us2), .val (.int mv3), .val (.int unA), .val (.int unB), .val (.int mv14), .val (.ref (A 0)), .val (.int (q133.1)), .val (.int w170), .val (.int w187), .val (.int (q188.1)), .val (.int (q190.1)), .unset, .unset] [(.int (q192.1))])) (fun _ k => st193.trans k) ?_
          obtain ⟨h193, e193⟩ : ∃ z, T193.heap = z := ⟨_, rfl⟩
          rw [e193] at PC193
          have N193 := Fr.app N191 NC193
          refine own_by (B := T193.setTop (mkF m 226 #[.val (.int ua), .val (.int ub), .val (.int uc), .val (.ref ba), .val (.ref bb), .val (.int us2), .val (.int us3), .val (.int us2), .val (.int mv3), .val (.int unA), .val (.int unB), .val (.int mv14), .val (.ref (A 0)), .val (.int (q133.1)), .val (.int w170), .val (.int w187), .val (.int (q188.1)), .val (.int (q190.1)), .val (.int (q192.1)), .unset] [])) (fun _ k => XS.istore X193.here hx rfl (hb hby at_224) rfl (l' := #[.val (.int ua), .val (.int ub), .val (.int uc), .val (.ref ba), .val (.ref bb), .val (.int us2), .val (.int us3), .val (.int us2), .val (.int mv3), .val (.int unA), .val (.int unB), .val (.int mv14), .val (.ref (A 0)), .val (.int (q133.1)), .val (.int w170), .val (.int w187), .val (.int (q188.1)), .val (.int (q190.1)), .val (.int (q192.1)), .unset]) rfl k) ?_
          refine own_by (B := T193.setTop (mkF m 228 #[.val (.int ua), .val (.int ub), .val (.int uc), .val (.ref ba), .val (.ref bb), .val (.int us2), .val (.int us3), .val (.int us2), .val (.int mv3), .val (.int unA), .val (.int unB), .val (.int mv14), .val (.ref (A 0)), .val (.int (q133.1)), .val (.int w170), .val (.int w187), .val (.int (q188.1)), .val (.int (q190.1)), .val (.int (q192.1)), .unset] [(.ref (A 0))])) (fun _ k => XS.aload X193.here hx rfl (hb hby at_226) rfl rfl  k) ?_
          refine own_by (B := T193.setTop (mkF m 229 #[.val (.int ua), .val (.int ub), .val (.int uc), .val (.ref ba), .val (.ref bb), .val (.int us2), .val (.int us3), .val (.int us2), .val (.int mv3), .val (.int unA), .val (.int unB), .val (.int mv14), .val (.ref (A 0)), .val (.int (q133.1)), .val (.int w170), .val (.int w187), .val (.int (q188.1)), .val (.int (q190.1)), .val (.int (q192.1)), .unset] [(.int (3 : Int32)), (.ref (A 0))])) (fun _ k => XS.iconst X193.here hx rfl (hb hby at_228) k) ?_
          obtain ⟨q194, hq194, hF⟩ := own_bind hF
          obtain ⟨cq195, kq195, qa195, qb195, qc195⟩ := isOf hZ e193 (own_PS_E PC193)
          obtain ⟨_, _, ⟨T195, L195, k195, n195⟩, -, X195, ⟨Lc195, hQ195, l195, y195, z195⟩, st195⟩ := X193.virtualBack hx (y := (⟨"com/example/document_pattern_rules/documentpatternrules/pattern/Pairing", "lowest", "(I)I"⟩ : MethodName)) (z := (⟨"com/example/document_pattern_rules/documentpatternrules/pattern/Pairing", "lowest", "(I)I"⟩ : MethodName)) hown (mvT hZ (hw _ (List.mem_of_getElem? (i := 78) rfl))) (mvT hZ (hw _ (List.mem_of_getElem? (i := 79) rfl))) (notFace_of_selects (args := #[]) (mvT hZ (hw _ (List.mem_of_getElem? (i := 81) rfl)))) (mvT hZ (hw _ (List.mem_of_getElem? (i := 81) rfl))) (mvT hZ (hw _ (List.mem_of_getElem? (i := 80) rfl))) (by decide) (backOf (W := 0) (rm_lowest l Z a0 hw [] A K (4 : Int32) (12 : Int32) (own_two ba bb) (own_two kka kkb) [La, Lb] (q192.2) _ (3 : Int32) h193 n0 (Nat.le_trans (own_PS_gn PC193).1 (Nat.le_of_lt (own_PS_E PC193).lt)) PC193 hq194) hZ (hw _ (List.mem_of_getElem? (i := 82) rfl)) (hw _ (List.mem_of_getElem? (i := 7) rfl)) (by decide) (by decide)) qa195 qc195 (g := (mkF m 229 #[.val (.int ua), .val (.int ub), .val (.int uc), .val (.ref ba), .val (.ref bb), .val (.int us2), .val (.int us3), .val (.int us2), .val (.int mv3), .val (.int unA), .val (.int unB), .val (.int mv14), .val (.ref (A 0)), .val (.int (q133.1)), .val (.int w170), .val (.int w187), .val (.int (q188.1)), .val (.int (q190.1)), .val (.int (q192.1)), .unset] [(.int (3 : Int32)), (.ref (A 0))])) rfl (by rw [hml]; rfl) (Steps.refl _) (argsL := [(.int (3 : Int32))]) (rest := []) (lenOf pd_0__I_I rfl) rfl (by show 2 * 0 + _ ≤ _; exact Nat.le_of_eq rfl) (hb hby at_229) (fun _ _ => ⟨rfl, e193, (by decide : 15 + 0 ≤ _), (by decide : 84 + 0 ≤ _)⟩)
          dsimp only [Pt.U, Pt.locs, Pt.cells, Pt.slots] at X195 l195 y195 z195 st195 hQ195
          subst l195 y195 z195
          obtain ⟨rfl, NC195, PC195⟩ := hQ195
          refine own_by (B := T195.setTop (mkF m 232 #[.val (.int ua), .val (.int ub), .val (.int uc), .val (.ref ba), .val (.ref bb), .val (.int us2), .val (.int us3), .val (.int us2), .val (.int mv3), .val (.int unA), .val (.int unB), .val (.int mv14), .val (.ref (A 0)), .val (.int (q133.1)), .val (.int w170), .val (.int w187), .val (.int (q188.1)), .val (.int (q190.1)), .val (.int (q192.1)), .unset] [(.int (q194.1))])) (fun _ k => st195.trans k) ?_
          obtain ⟨h195, e195⟩ : ∃ z, T195.heap = z := ⟨_, rfl⟩
          rw [e195] at PC195
          have N195 := Fr.app N193 NC195
          refine own_by (B := T195.setTop (mkF m 234 #[.val (.int ua), .val (.int ub), .val (.int uc), .val (.ref ba), .val (.ref bb), .val (.int us2), .val (.int us3), .val (.int us2), .val (.int mv3), .val (.int unA), .val (.int unB), .val (.int mv14), .val (.ref (A 0)), .val (.int (q133.1)), .val (.int w170), .val (.int w187), .val (.int (q188.1)), .val (.int (q190.1)), .val (.int (q192.1)), .val (.int (q194.1))] [])) (fun _ k => XS.istore X195.here hx rfl (hb hby at_232) rfl (l' := #[.val (.int ua), .val (.int ub), .val (.int uc), .val (.ref ba), .val (.ref bb), .val (.int us2), .val (.int us3), .val (.int us2), .val (.int mv3), .val (.int unA), .val (.int unB), .val (.int mv14), .val (.ref (A 0)), .val (.int (q133.1)), .val (.int w170), .val (.int w187), .val (.int (q188.1)), .val (.int (q190.1)), .val (.int (q192.1)), .val (.int (q194.1))]) rfl k) ?_
          refine own_by (B := T195.setTop (mkF m 236 #[.val (.int ua), .val (.int ub), .val (.int uc), .val (.ref ba), .val (.ref bb), .val (.int us2), .val (.int us3), .val (.int us2), .val (.int mv3), .val (.int unA), .val (.int unB), .val (.int mv14), .val (.ref (A 0)), .val (.int (q133.1)), .val (.int w170), .val (.int w187), .val (.int (q188.1)), .val (.int (q190.1)), .val (.int (q192.1)), .val (.int (q194.1))] [(.int (q188.1))])) (fun _ k => XS.iload X195.here hx rfl (hb hby at_234) rfl  k) ?_
          refine own_by (B := T195.setTop (mkF m 237 #[.val (.int ua), .val (.int ub), .val (.int uc), .val (.ref ba), .val (.ref bb), .val (.int us2), .val (.int us3), .val (.int us2), .val (.int mv3), .val (.int unA), .val (.int unB), .val (.int mv14), .val (.ref (A 0)), .val (.int (q133.1)), .val (.int w170), .val (.int w187), .val (.int (q188.1)), .val (.int (q190.1)), .val (.int (q192.1)), .val (.int (q194.1))] [(.ref ba), (.int (q188.1))])) (fun _ k => XS.aloadN X195.here hx rfl (hb hby at_236) rfl rfl  k) ?_
          refine own_by (B := T195.setTop (mkF m 238 #[.val (.int ua), .val (.int ub), .val (.int uc), .val (.ref ba), .val (.ref bb), .val (.int us2), .val (.int us3), .val (.int us2), .val (.int mv3), .val (.int unA), .val (.int unB), .val (.int mv14), .val (.ref (A 0)), .val (.int (q133.1)), .val (.int w170), .val (.int w187), .val (.int (q188.1)), .val (.int (q190.1)), .val (.int (q192.1)), .val (.int (q194.1))] [(.int (0 : Int32)), (.ref ba), (.int (q188.1))])) (fun _ k => XS.iconst X195.here hx rfl (hb hby at_237) k) ?_
          obtain ⟨w196, hw196, hF⟩ := own_bind hF
          refine own_by (B := T195.setTop (mkF m 239 #[.val (.int ua), .val (.int ub), .val (.int uc), .val (.ref ba), .val (.ref bb), .val (.int us2), .val (.int us3), .val (.int us2), .val (.int mv3), .val (.int unA), .val (.int unB), .val (.int mv14), .val (.ref (A 0)), .val (.int (q133.1)), .val (.int w170), .val (.int w187), .val (.int (q188.1)), .val (.int (q190.1)), .val (.int (q192.1)), .val (.int (q194.1))] [(.int w196), (.int (q188.1))])) (own_ldI X195 hx hZ e195 ((own_PS_cc PC195) _ _ (rfl : ([La, Lb] : List (List Int32))[0]? = some La)).1 hw196 (g := (mkF m 238 #[.val (.int ua), .val (.int ub), .val (.int uc), .val (.ref ba), .val (.ref bb), .val (.int us2), .val (.int us3), .val (.int us2), .val (.int mv3), .val (.int unA), .val (.int unB), .val (.int mv14), .val (.ref (A 0)), .val (.int (q133.1)), .val (.int w170), .val (.int w187), .val (.int (q188.1)), .val (.int (q190.1)), .val (.int (q192.1)), .val (.int (q194.1))] [(.int (0 : Int32)), (.ref ba), (.int (q188.1))])) rfl rfl (hb hby at_238)) ?_
          by_cases hc197 : (q188.1) = w196
          · rw [if_pos hc197] at hF
            refine own_by (B := T195.setTop (mkF m 242 #[.val (.int ua), .val (.int ub), .val (.int uc), .val (.ref ba), .val (.ref bb), .val (.int us2), .val (.int us3), .val (.int us2), .val (.int mv3), .val (.int unA), .val (.int unB), .val (.int mv14), .val (.ref (A 0)), .val (.int (q133.1)), .val (.int w170), .val (.int w187), .val (.int (q188.1)), .val (.int (q190.1)), .val (.int (q192.1)), .val (.int (q194.1))] [])) (fun _ k => XS.icmpNo X195.here hx rfl (hb hby at_239) rfl (XT.ii_ne_f hc197) k) ?_
            refine own_by (B := T195.setTop (mkF m 244 #[.val (.int ua), .val (.int ub), .val (.int uc), .val (.ref ba), .val (.ref bb), .val (.int us2), .val (.int us3), .val (.int us2), .val (.int mv3), .val (.int unA), .val (.int unB), .val (.int mv14), .val (.ref (A 0)), .val (.int (q133.1)), .val (.int w170), .val (.int w187), .val (.int (q188.1)), .val (.int (q190.1)), .val (.int (q192.1)), .val (.int (q194.1))] [(.int (q190.1))])) (fun _ k => XS.iload X195.here hx rfl (hb hby at_242) rfl  k) ?_
            refine own_by (B := T195.setTop (mkF m 246 #[.val (.int ua), .val (.int ub), .val (.int uc), .val (.ref ba), .val (.ref bb), .val (.int us2), .val (.int us3), .val (.int us2), .val (.int mv3), .val (.int unA), .val (.int unB), .val (.int mv14), .val (.ref (A 0)), .val (.int (q133.1)), .val (.int w170), .val (.int w187), .val (.int (q188.1)), .val (.int (q190.1)), .val (.int (q192.1)), .val (.int (q194.1))] [(.ref bb), (.int (q190.1))])) (fun _ k => XS.aload X195.here hx rfl (hb hby at_244) rfl rfl  k) ?_
            refine own_by (B := T195.setTop (mkF m 247 #[.val (.int ua), .val (.int ub), .val (.int uc), .val (.ref ba), .val (.ref bb), .val (.int us2), .val (.int us3), .val (.int us2), .val (.int mv3), .val (.int unA), .val (.int unB), .val (.int mv14), .val (.ref (A 0)), .val (.int (q133.1)), .val (.int w170), .val (.int w187), .val (.int (q188.1)), .val (.int (q190.1)), .val (.int (q192.1)), .val (.int (q194.1))] [(.int (0 : Int32)), (.ref bb), (.int (q190.1))])) (fun _ k => XS.iconst X195.here hx rfl (hb hby at_246) k) ?_
            obtain ⟨w198, hw198, hF⟩ := own_bind hF
            refine own_by (B := T195.setTop (mkF m 248 #[.val (.int ua), .val (.int ub), .val (.int uc), .val (.ref ba), .val (.ref bb), .val (.int us2), .val (.int us3), .val (.int us2), .val (.int mv3), .val (.int unA), .val (.int unB), .val (.int mv14), .val (.ref (A 0)), .val (.int (q133.1)), .val (.int w170), .val (.int w187), .val (.int (q188.1)), .val (.int (q190.1)), .val (.int (q192.1)), .val (.int (q194.1))] [(.int w198), (.int (q190.1))])) (own_ldI X195 hx hZ e195 ((own_PS_cc PC195) _ _ (rfl : ([La, Lb] : List (List Int32))[1]? = some Lb)).1 hw198 (g := (mkF m 247 #[.val (.int ua), .val (.int ub), .val (.int uc), .val (.ref ba), .val (.ref bb), .val (.int us2), .val (.int us3), .val (.int us2), .val (.int mv3), .val (.int unA), .val (.int unB), .val (.int mv14), .val (.ref (A 0)), .val (.int (q133.1)), .val (.int w170), .val (.int w187), .val (.int (q188.1)), .val (.int (q190.1)), .val (.int (q192.1)), .val (.int (q194.1))] [(.int (0 : Int32)), (.ref bb), (.int (q190.1))])) rfl rfl (hb hby at_247)) ?_
            by_cases hc199 : (q190.1) = w198
            · rw [if_pos hc199] at hF
              refine own_by (B := T195.setTop (mkF m 251 #[.val (.int ua), .val (.int ub), .val (.int uc), .val (.ref ba), .val (.ref bb), .val (.int us2), .val (.int us3), .val (.int us2), .val (.int mv3), .val (.int unA), .val (.int unB), .val (.int mv14), .val (.ref (A 0)), .val (.int (q133.1)), .val (.int w170), .val (.int w187), .val (.int (q188.1)), .val (.int (q190.1)), .val (.int (q192.1)), .val (.int (q194.1))] [])) (fun _ k => XS.icmpNo X195.here hx rfl (hb hby at_248) rfl (XT.ii_ne_f hc199) k) ?_
              refine own_by (B := T195.setTop (mkF m 253 #[.val (.int ua), .val (.int ub), .val (.int uc), .val (.ref ba), .val (.ref bb), .val (.int us2), .val (.int us3), .val (.int us2), .val (.int mv3), .val (.int unA), .val (.int unB), .val (.int mv14), .val (.ref (A 0)), .val (.int (q133.1)), .val (.int w170), .val (.int w187), .val (.int (q188.1)), .val (.int (q190.1)), .val (.int (q192.1)), .val (.int (q194.1))] [(.int (q192.1))])) (fun _ k => XS.iload X195.here hx rfl (hb hby at_251) rfl  k) ?_
              refine own_by (B := T195.setTop (mkF m 255 #[.val (.int ua), .val (.int ub), .val (.int uc), .val (.ref ba), .val (.ref bb), .val (.int us2), .val (.int us3), .val (.int us2), .val (.int mv3), .val (.int unA), .val (.int unB), .val (.int mv14), .val (.ref (A 0)), .val (.int (q133.1)), .val (.int w170), .val (.int w187), .val (.int (q188.1)), .val (.int (q190.1)), .val (.int (q192.1)), .val (.int (q194.1))] [(.int w170), (.int (q192.1))])) (fun _ k => XS.iload X195.here hx rfl (hb hby at_253) rfl  k) ?_
              by_cases hc200 : (q192.1) = w170
              · rw [if_pos hc200] at hF
                refine own_by (B := T195.setTop (mkF m 258 #[.val (.int ua), .val (.int ub), .val (.int uc), .val (.ref ba), .val (.ref bb), .val (.int us2), .val (.int us3), .val (.int us2), .val (.int mv3), .val (.int unA), .val (.int unB), .val (.int mv14), .val (.ref (A 0)), .val (.int (q133.1)), .val (.int w170), .val (.int w187), .val (.int (q188.1)), .val (.int (q190.1)), .val (.int (q192.1)), .val (.int (q194.1))] [])) (fun _ k => XS.icmpNo X195.here hx rfl (hb hby at_255) rfl (XT.ii_ne_f hc200) k) ?_
                refine own_by (B := T195.setTop (mkF m 260 #[.val (.int ua), .val (.int ub), .val (.int uc), .val (.ref ba), .val (.ref bb), .val (.int us2), .val (.int us3), .val (.int us2), .val (.int mv3), .val (.int unA), .val (.int unB), .val (.int mv14), .val (.ref (A 0)), .val (.int (q133.1)), .val (.int w170), .val (.int w187), .val (.int (q188.1)), .val (.int (q190.1)), .val (.int (q192.1)), .val (.int (q194.1))] [(.int (q194.1))])) (fun _ k => XS.iload X195.here hx rfl (hb hby at_258) rfl  k) ?_
                refine own_by (B := T195.setTop (mkF m 262 #[.val (.int ua), .val (.int ub), .val (.int uc), .val (.ref ba), .val (.ref bb), .val (.int us2), .val (.int us3), .val (.int us2), .val (.int mv3), .val (.int unA), .val (.int unB), .val (.int mv14), .val (.ref (A 0)), .val (.int (q133.1)), .val (.int w170), .val (.int w187), .val (.int (q188.1)), .val (.int (q190.1)), .val (.int (q192.1)), .val (.int (q194.1))] [(.int w187), (.int (q194.1))])) (fun _ k => XS.iload X195.here hx rfl (hb hby at_260) rfl  k) ?_
                by_cases hc201 : (q194.1) = w187
                · rw [if_pos hc201] at hF
                  refine own_by (B := T195.setTop (mkF m 265 #[.val (.int ua), .val (.int ub), .val (.int uc), .val (.ref ba), .val (.ref bb), .val (.int us2), .val (.int us3), .val (.int us2), .val (.int mv3), .val (.int unA), .val (.int unB), .val (.int mv14), .val (.ref (A 0)), .val (.int (q133.1)), .val (.int w170), .val (.int w187), .val (.int (q188.1)), .val (.int (q190.1)), .val (.int (q192.1)), .val (.int (q194.1))] [])) (fun _ k => XS.icmpNo X195.here hx rfl (hb hby at_262) rfl (XT.ii_ne_f hc201) k) ?_
                  refine own_by (B := T195.setTop (mkF m 266 #[.val (.int ua), .val (.int ub), .val (.int uc), .val (.ref ba), .val (.ref bb), .val (.int us2), .val (.int us3), .val (.int us2), .val (.int mv3), .val (.int unA), .val (.int unB), .val (.int mv14), .val (.ref (A 0)), .val (.int (q133.1)), .val (.int w170), .val (.int w187), .val (.int (q188.1)), .val (.int (q190.1)), .val (.int (q192.1)), .val (.int (q194.1))] [(.int (1 : Int32))])) (fun _ k => XS.iconst X195.here hx rfl (hb hby at_265) k) ?_
                  refine own_by (B := T195.setTop (mkF m 270 #[.val (.int ua), .val (.int ub), .val (.int uc), .val (.ref ba), .val (.ref bb), .val (.int us2), .val (.int us3), .val (.int us2), .val (.int mv3), .val (.int unA), .val (.int unB), .val (.int mv14), .val (.ref (A 0)), .val (.int (q133.1)), .val (.int w170), .val (.int w187), .val (.int (q188.1)), .val (.int (q190.1)), .val (.int (q192.1)), .val (.int (q194.1))] [(.int (1 : Int32))])) (fun _ k => XS.goto X195.here hx rfl (pc0 := 266) (pc' := 270) rfl (hb hby at_266) (by decide) (by decide) k) ?_
                  exact own_retZ X195 hx hrt hlk rfl (hb hby at_270) (by decide) (by decide) ⟨rfl, N195⟩
                · rw [if_neg hc201] at hF
                  refine own_by (B := T195.setTop (mkF m 269 #[.val (.int ua), .val (.int ub), .val (.int uc), .val (.ref ba), .val (.ref bb), .val (.int us2), .val (.int us3), .val (.int us2), .val (.int mv3), .val (.int unA), .val (.int unB), .val (.int mv14), .val (.ref (A 0)), .val (.int (q133.1)), .val (.int w170), .val (.int w187), .val (.int (q188.1)), .val (.int (q190.1)), .val (.int (q192.1)), .val (.int (q194.1))] [])) (fun _ k => XS.icmpYes X195.here hx rfl (pc0 := 262) (pc' := 269) rfl (hb hby at_262) rfl (XT.ii_ne_t hc201) (by decide) (by decide) k) ?_
                  refine own_by (B := T195.setTop (mkF m 270 #[.val (.int ua), .val (.int ub), .val (.int uc), .val (.ref ba), .val (.ref bb), .val (.int us2), .val (.int us3), .val (.int us2), .val (.int mv3), .val (.int unA), .val (.int unB), .val (.int mv14), .val (.ref (A 0)), .val (.int (q133.1)), .val (.int w170), .val (.int w187), .val (.int (q188.1)), .val (.int (q190.1)), .val (.int (q192.1)), .val (.int (q194.1))] [(.int (0 : Int32))])) (fun _ k => XS.iconst X195.here hx rfl (hb hby at_269) k) ?_
                  exact absurd (Option.some.inj hF) (by decide)
              · rw [if_neg hc200] at hF
                refine own_by (B := T195.setTop (mkF m 269 #[.val (.int ua), .val (.int ub), .val (.int uc), .val (.ref ba), .val (.ref bb), .val (.int us2), .val (.int us3), .val (.int us2), .val (.int mv3), .val (.int unA), .val (.int unB), .val (.int mv14), .val (.ref (A 0)), .val (.int (q133.1)), .val (.int w170), .val (.int w187), .val (.int (q188.1)), .val (.int (q190.1)), .val (.int (q192.1)), .val (.int (q194.1))] [])) (fun _ k => XS.icmpYes X195.here hx rfl (pc0 := 255) (pc' := 269) rfl (hb hby at_255) rfl (XT.ii_ne_t hc200) (by decide) (by decide) k) ?_
                refine own_by (B := T195.setTop (mkF m 270 #[.val (.int ua), .val (.int ub), .val (.int uc), .val (.ref ba), .val (.ref bb), .val (.int us2), .val (.int us3), .val (.int us2), .val (.int mv3), .val (.int unA), .val (.int unB), .val (.int mv14), .val (.ref (A 0)), .val (.int (q133.1)), .val (.int w170), .val (.int w187), .val (.int (q188.1)), .val (.int (q190.1)), .val (.int (q192.1)), .val (.int (q194.1))] [(.int (0 : Int32))])) (fun _ k => XS.iconst X195.here hx rfl (hb hby at_269) k) ?_
                exact absurd (Option.some.inj hF) (by decide)
            · rw [if_neg hc199] at hF
              refine own_by (B := T195.setTop (mkF m 269 #[.val (.int ua), .val (.int ub), .val (.int uc), .val (.ref ba), .val (.ref bb), .val (.int us2), .val (.int us3), .val (.int us2), .val (.int mv3), .val (.int unA), .val (.int unB), .val (.int mv14), .val (.ref (A 0)), .val (.int (q133.1)), .val (.int w170), .val (.int w187), .val (.int (q188.1)), .val (.int (q190.1)), .val (.int (q192.1)), .val (.int (q194.1))] [])) (fun _ k => XS.icmpYes X195.here hx rfl (pc0 := 248) (pc' := 269) rfl (hb hby at_248) rfl (XT.ii_ne_t hc199) (by decide) (by decide) k) ?_
              refine own_by (B := T195.setTop (mkF m 270 #[.val (.int ua), .val (.int ub), .val (.int uc), .val (.ref ba), .val (.ref bb), .val (.int us2), .val (.int us3), .val (.int us2), .val (.int mv3), .val (.int unA), .val (.int unB), .val (.int mv14), .val (.ref (A 0)), .val (.int (q133.1)), .val (.int w170), .val (.int w187), .val (.int (q188.1)), .val (.int (q190.1)), .val (.int (q192.1)), .val (.int (q194.1))] [(.int (0 : Int32))])) (fun _ k => XS.iconst X195.here hx rfl (hb hby at_269) k) ?_
              exact absurd (Option.some.inj hF) (by decide)
          · rw [if_neg hc197] at hF
            refine own_by (B := T195.setTop (mkF m 269 #[.val (.int ua), .val (.int ub), .val (.int uc), .val (.ref ba), .val (.ref bb), .val (.int us2), .val (.int us3), .val (.int us2), .val (.int mv3), .val (.int unA), .val (.int unB), .val (.int mv14), .val (.ref (A 0)), .val (.int (q133.1)), .val (.int w170), .val (.int w187), .val (.int (q188.1)), .val (.int (q190.1)), .val (.int (q192.1)), .val (.int (q194.1))] [])) (fun _ k => XS.icmpYes X195.here hx rfl (pc0 := 239) (pc' := 269) rfl (hb hby at_239) rfl (XT.ii_ne_t hc197) (by decide) (by decide) k) ?_
            refine own_by (B := T195.setTop (mkF m 270 #[.val (.int ua), .val (.int ub), .val (.int uc), .val (.ref ba), .val (.ref bb), .val (.int us2), .val (.int us3), .val (.int us2), .val (.int mv3), .val (.int unA), .val (.int unB), .val (.int mv14), .val (.ref (A 0)), .val (.int (q133.1)), .val (.int w170), .val (.int w187), .val (.int (q188.1)), .val (.int (q190.1)), .val (.int (q192.1)), .val (.int (q194.1))] [(.int (0 : Int32))])) (fun _ k => XS.iconst X195.here hx rfl (hb hby at_269) k) ?_
            exact absurd (Option.some.inj hF) (by decide)
  · rw [if_neg hc135] at hF
    refine own_by (B := T134.setTop (mkF m 153 #[.val (.int ua), .val (.int ub), .val (.int uc), .val (.ref ba), .val (.ref bb), .val (.int us2), .val (.int us3), .val (.int us2), .val (.int mv3), .val (.int unA), .val (.int unB), .val (.int mv14), .val (.ref (A 0)), .val (.int (q133.1)), .unset, .unset, .unset, .unset, .unset, .unset] [])) (fun _ k => XS.icmpNo X134.here hx rfl (hb hby at_150) rfl (XT.ii_eq_f hc135) k) ?_
    refine own_by (B := T134.setTop (mkF m 154 #[.val (.int ua), .val (.int ub), .val (.int uc), .val (.ref ba), .val (.ref bb), .val (.int us2), .val (.int us3), .val (.int us2), .val (.int mv3), .val (.int unA), .val (.int unB), .val (.int mv14), .val (.ref (A 0)), .val (.int (q133.1)), .unset, .unset, .unset, .unset, .unset, .unset] [(.int (0 : Int32))])) (fun _ k => XS.iconst X134.here hx rfl (hb hby at_153) k) ?_
    exact absurd (Option.some.inj hF) (by decide)

set_option maxRecDepth 65536 in
set_option maxHeartbeats 40000000 in
theorem comes_1 {Post : Tables → Env → Array Value → State → Outcome → State → Prop} (hpost : ∀ tb e args s v u, (limb_1_1.after args s (.returned v) u = true ∧ limb_1_2.after args s (.returned v) u = true ∧ True) → FrameEnd s (.returned v) u (Jvm.fieldLocs frame_1_writes args s ++ Jvm.arrayLocs frame_1_arrays args s ++ Jvm.staticLocs frame_1_statics s) 40 256 → Post tb e args s (.returned v) u) :
    ArmFor flags0 classFile x code maxLocals ret World_1 tables_1 room_1 Calls_1 rest_1 Pre_1 Post := by
  intro l hfl _ _ p e ha hc hk s m args below hf hA hF happ hP
  obtain ⟨hcalls, hrest, hpre⟩ := hP
  obtain ⟨-, -, -, hnamed, -, -, -, hat⟩ := (Spec.applies_iff hf).mp happ
  obtain ⟨hg, hn⟩ := and_e (Cond.before_iff.mp (show (Jvm.Cond.and given_1 narrow_1).before args s = true from hpre))
  obtain ⟨hg1a, hg1b⟩ := and_e hg
  obtain ⟨hg2a, hg2b⟩ := and_e hg1b
  obtain ⟨hg3a, hg3b⟩ := and_e hg2b
  obtain ⟨w0, w1, w2, rfl⟩ : ∃ w0 w1 w2 : Value, args = #[w0, w1, w2] := by
    have hs : args.size = 3 := by simpa [Cond.value, given_1] using hg1a
    obtain ⟨L⟩ := args
    match L, hs with
    | [w0, w1, w2], _ => exact ⟨w0, w1, w2, rfl⟩
  have hw := fun d (hd : d ∈ tables_1) => atoms_spec (ws := Jvm.Cond.code x code maxLocals ret :: tables_1) hat d (List.mem_cons_of_mem _ hd)
  have hfit : Fit s := fun {y c} hc i hi => by
    obtain ⟨ha, rfl⟩ := Array.getElem?_eq_some_iff.mp hc
    have q := List.all_eq_true.mp ((Array.all_eq_true_iff_forall_mem.mp hF) _ (Array.getElem_mem ha)) i (List.mem_range.mpr hi)
    simpa [Array.getElem?_eq_getElem hi] using q
  obtain ⟨i0, ei0⟩ := is_v hg2a
  obtain rfl : w0 = (.int i0) := Option.some.inj ei0
  obtain ⟨i1, ei1⟩ := is_v hg3a
  obtain rfl : w1 = (.int i1) := Option.some.inj ei1
  obtain ⟨i2, ei2⟩ := is_v hg3b
  obtain rfl : w2 = (.int i2) := Option.some.inj ei2
  obtain ⟨n, o, h1, h2, h3, _, L, rfl, ⟨rfl, N⟩, hq⟩ := rm0 l s _ hw tables_1 i0 i1 i2 s.heap s.heap.size (Nat.le_refl _) (Old.start s) p e ha hc hk s m _ below hf ((Spec.applies_iff_loose hf).mp happ).1 ⟨rfl, State.Warmed39.refl s, rfl⟩ trivial
  refine ⟨n, _, h1, h2, h3, hpost _ _ _ _ _ _ ⟨Cond.after_iff.mpr rfl, Cond.after_iff.mpr (eq_i res_at (Term.int_eval (1)) rfl), trivial⟩ ⟨hq.1, hq.2.1, (hq.2.2.sift fun y hy => Or.inr (N y hy)).mono (by decide) (by decide)⟩⟩
theorem main_1_1 : Claimed_1_1 := comes_1 fun _ _ _ _ _ _ h hF => ⟨h.1, hF⟩
theorem main_1_2 : Claimed_1_2 := comes_1 fun _ _ _ _ _ _ h hF => ⟨h.2.1, hF⟩
end Jvm.Pilot.@@N@@
namespace Jvm.Pilot.@@N@@
open Jvm Jvm.ClassFile Sem Op Lib Jvm.Free Jvm.Stand Jvm.Pilot.@@N@@.Jvm.D
/-! MADE BY PROGRAM (witnessworld.py) out of the Statement's table words and the real class files: 14 classes; the members and pool entries that the words name. The judged class is class 1, her method 1. -/
namespace start1
open Jvm.ClassFile
def u (s : String) : CpInfo := .utf8 (stringToUtf16 s)
/-- a pool by its gaps: so many unusable entries, then the entry; so many at the end -/
def gap : Nat → List CpInfo → List CpInfo
  | 0, r => r
  | n + 1, r => .unusable :: gap n r
def poolList (es : List (Nat × CpInfo)) (last : Nat) : List CpInfo := es.foldr (fun e r => gap e.1 (e.2 :: r)) (gap last [])
def pool (es : List (Nat × CpInfo)) (last : Nat) : Array CpInfo := ⟨poolList es last⟩
def fileOf (pool : Array CpInfo) (this : Nat) (attrs : Array Attribute := #[]) (ms : Array MethodInfo := #[]) (fl : Nat := 33) (sup : Nat := 0) (ifs : Array Nat := #[]) (fds : Array FieldInfo := #[]) : ClassFile where
  minorVersion := 0
  majorVersion := 65
  constantPool := pool
  accessFlags := fl
  thisClass := this
  superClass := sup
  interfaces := ifs
  fields := fds
  methods := ms
  attributes := attrs
def plain (name : String) (sup : Option ClassId) : Class where
  name := name
  kind := .ordinary
  loader := none
  accessFlags := 33
  super := sup
  interfaces := #[]
  cf := none
  fields := #[]
  methods := #[]
  instanceTypes := #[]
  staticTypes := #[]
  resolved := #[]
  callSites := []
  init := .initialized
  statics := none
  mirror := none

def pool0 : Array CpInfo := pool [(5, u "<init>"), (0, u "()V"), (1, .class_ 10), (1, u "java/lang/Object")] 113

def k0c0 : Code := { maxStack := 0, maxLocals := 1, code := object_method_1_code, exceptionTable := #[], attributes := #[] }
def k0m0 : Method := { name := "<init>", desc := "()V", sig := { parameters := [], returnType := none }, accessFlags := 1, code := some k0c0 }
/-- java/lang/Object -/
def k0 : Class := { plain "java/lang/Object" none with
  accessFlags := 33
  interfaces := #[]
  cf := some (fileOf pool0 8 #[] #[{ accessFlags := 1, nameIndex := 5, descriptorIndex := 6, attributes := #[] }] 33 0 #[] #[])
  fields := #[]
  methods := #[k0m0]
  instanceTypes := #[]
  staticTypes := #[]
  resolved := Array.replicate 124 none
  statics := none }

def pool1 : Array CpInfo := pool [(2, .class_ 4), (1, u "java/lang/Object"), (0, u "<init>"), (0, u "()V"), (0, .methodref 8 9), (0, .class_ 10), (0, .nameAndType 11 12), (0, u "com/example/document_pattern_rules/documentpatternrules/pattern/PairingAddAlikePinLaw"), (0, u "list"), (0, u "(II)[I"), (0, .class_ 14), (0, u "com/example/document_pattern_rules/documentpatternrules/pattern/Pairing"), (0, .methodref 13 16), (0, .nameAndType 5 17), (0, u "(II)V"), (0, .methodref 13 19), (0, .nameAndType 20 21), (0, u "add"), (0, u "([I)V"), (0, .methodref 13 23), (0, .nameAndType 24 25), (0, u "addAlike"), (0, u "(I)V"), (0, .methodref 13 27), (0, .nameAndType 28 29), (0, u "complete"), (0, u "()Z"), (0, .methodref 13 31), (0, .nameAndType 32 33), (0, u "lowest"), (0, u "(I)I"), (2, u "law"), (0, u "(III)Z")] 5

def k1m0 : Method := { name := "<init>", desc := "()V", sig := { parameters := [], returnType := none }, accessFlags := 1, code := none }
def k1c1 : Code := { maxStack := 4, maxLocals := 20, code := code, exceptionTable := #[], attributes := #[] }
def k1m1 : Method := { name := "law", desc := "(III)Z", sig := { parameters := [.int, .int, .int], returnType := some .boolean }, accessFlags := 9, code := some k1c1 }
def k1c2 : Code := { maxStack := 4, maxLocals := 6, code := method_3_code, exceptionTable := #[], attributes := #[] }
def k1m2 : Method := { name := "list", desc := "(II)[I", sig := { parameters := [.int, .int], returnType := some (.array .int) }, accessFlags := 10, code := some k1c2 }
/-- com/example/document_pattern_rules/documentpatternrules/pattern/PairingAddAlikePinLaw -/
def k1 : Class := { plain "com/example/document_pattern_rules/documentpatternrules/pattern/PairingAddAlikePinLaw" (some 0) with
  accessFlags := 49
  interfaces := #[]
  cf := some (fileOf pool1 8 #[] #[{ accessFlags := 1, nameIndex := 5, descriptorIndex := 6, attributes := #[] }, { accessFlags := 9, nameIndex := 36, descriptorIndex := 37, attributes := #[] }, { accessFlags := 10, nameIndex := 11, descriptorIndex := 12, attributes := #[] }] 49 2 #[] #[])
  fields := #[]
  methods := #[k1m0, k1m1, k1m2]
  instanceTypes := #[]
  staticTypes := #[]
  resolved := Array.replicate 43 none
  statics := none }

def pool2 : Array CpInfo := pool [(1, .methodref 2 3), (0, .class_ 4), (0, .nameAndType 5 6), (0, u "java/lang/Object"), (0, u "<init>"), (0, u "()V"), (0, .class_ 8), (0, u "[I"), (0, .fieldref 10 11), (0, .class_ 12), (0, .nameAndType 13 14), (0, u "com/example/document_pattern_rules/documentpatternrules/pattern/Pairing"), (0, u "fits"), (0, u "[[I"), (0, .fieldref 10 16), (0, .nameAndType 17 8), (0, u "kind"), (0, .fieldref 10 19), (0, .nameAndType 20 8), (0, u "partner"), (0, .fieldref 10 22), (0, .nameAndType 23 8), (0, u "holder"), (0, .fieldref 10 25), (0, .nameAndType 26 27), (0, u "fixed"), (0, u "[Z"), (0, .fieldref 10 29), (0, .nameAndType 30 31), (0, u "visited"), (0, u "[J"), (0, .fieldref 10 33), (0, .nameAndType 34 8), (0, u "path"), (0, .fieldref 10 36), (0, .nameAndType 37 8), (0, u "via"), (0, .fieldref 10 39), (0, .nameAndType 40 8), (0, u "ownFrom"), (0, .fieldref 10 42), (0, .nameAndType 43 31), (0, u "scanned"), (0, .fieldref 10 45), (0, .nameAndType 46 8), (0, u "next"), (0, .fieldref 10 48), (0, .nameAndType 49 8), (0, u "fixedFrom"), (0, .methodref 51 52), (0, .class_ 53), (0, .nameAndType 54 55), (0, u "java/util/Arrays"), (0, u "fill"), (0, u "([II)V"), (0, .fieldref 10 57), (0, .nameAndType 58 59), (0, u "rows"), (0, u "I"), (3, u "(II)V"), (0, .fieldref 10 65), (0, .nameAndType 66 67), (0, u "searches"), (0, u "J"), (0, .methodref 10 69), (0, .nameAndType 70 71), (0, u "augment"), (0, u "(I)Z"), (10, .methodref 10 83), (0, .nameAndType 84 63), (0, u "hold"), (4, .methodref 10 90), (0, .nameAndType 91 92), (0, u "nextColumn"), (0, u "(I)I"), (3, u "NONE"), (4, u "add"), (0, u "([I)V"), (0, u "addAlike"), (0, u "(I)V"), (2, u "complete"), (0, u "()Z"), (0, u "lowest")] 3

def k2c0 : Code := { maxStack := 2, maxLocals := 3, code := prog_77_method_1_code, exceptionTable := #[], attributes := #[] }
def k2m0 : Method := { name := "<init>", desc := "(II)V", sig := { parameters := [.int, .int], returnType := none }, accessFlags := 0, code := some k2c0 }
def k2c1 : Code := { maxStack := 3, maxLocals := 2, code := prog_77_method_2_code, exceptionTable := #[], attributes := #[] }
def k2m1 : Method := { name := "add", desc := "([I)V", sig := { parameters := [(.array .int)], returnType := none }, accessFlags := 0, code := some k2c1 }
def k2c2 : Code := { maxStack := 4, maxLocals := 2, code := prog_77_method_3_code, exceptionTable := #[], attributes := #[] }
def k2m2 : Method := { name := "addAlike", desc := "(I)V", sig := { parameters := [.int], returnType := none }, accessFlags := 0, code := some k2c2 }
def k2c3 : Code := { maxStack := 5, maxLocals := 3, code := prog_77_method_5_code, exceptionTable := #[], attributes := #[] }
def k2m3 : Method := { name := "complete", desc := "()Z", sig := { parameters := [], returnType := some .boolean }, accessFlags := 0, code := some k2c3 }
def k2c4 : Code := { maxStack := 4, maxLocals := 7, code := prog_77_method_6_code, exceptionTable := #[], attributes := #[] }
def k2m4 : Method := { name := "lowest", desc := "(I)I", sig := { parameters := [.int], returnType := some .int }, accessFlags := 0, code := some k2c4 }
def k2c5 : Code := { maxStack := 4, maxLocals := 10, code := prog_77_method_9_code, exceptionTable := #[], attributes := #[] }
def k2m5 : Method := { name := "augment", desc := "(I)Z", sig := { parameters := [.int], returnType := some .boolean }, accessFlags := 2, code := some k2c5 }
def k2c6 : Code := { maxStack := 4, maxLocals := 4, code := prog_77_method_10_code, exceptionTable := #[], attributes := #[] }
def k2m6 : Method := { name := "nextColumn", desc := "(I)I", sig := { parameters := [.int], returnType := some .int }, accessFlags := 2, code := some k2c6 }
def k2c7 : Code := { maxStack := 3, maxLocals := 3, code := prog_77_method_11_code, exceptionTable := #[], attributes := #[] }
def k2m7 : Method := { name := "hold", desc := "(II)V", sig := { parameters := [.int, .int], returnType := none }, accessFlags := 2, code := some k2c7 }
/-- com/example/document_pattern_rules/documentpatternrules/pattern/Pairing -/
def k2 : Class := { plain "com/example/document_pattern_rules/documentpatternrules/pattern/Pairing" (some 0) with
  accessFlags := 48
  interfaces := #[]
  cf := some (fileOf pool2 10 #[] #[{ accessFlags := 0, nameIndex := 5, descriptorIndex := 63, attributes := #[] }, { accessFlags := 0, nameIndex := 101, descriptorIndex := 102, attributes := #[] }, { accessFlags := 0, nameIndex := 103, descriptorIndex := 104, attributes := #[] }, { accessFlags := 0, nameIndex := 107, descriptorIndex := 108, attributes := #[] }, { accessFlags := 0, nameIndex := 109, descriptorIndex := 92, attributes := #[] }, { accessFlags := 2, nameIndex := 70, descriptorIndex := 71, attributes := #[] }, { accessFlags := 2, nameIndex := 91, descriptorIndex := 92, attributes := #[] }, { accessFlags := 2, nameIndex := 84, descriptorIndex := 63, attributes := #[] }] 48 2 #[] #[{ accessFlags := 26, nameIndex := 96, descriptorIndex := 59, attributes := #[] }, { accessFlags := 18, nameIndex := 13, descriptorIndex := 14, attributes := #[] }, { accessFlags := 18, nameIndex := 17, descriptorIndex := 8, attributes := #[] }, { accessFlags := 18, nameIndex := 20, descriptorIndex := 8, attributes := #[] }, { accessFlags := 18, nameIndex := 23, descriptorIndex := 8, attributes := #[] }, { accessFlags := 18, nameIndex := 26, descriptorIndex := 27, attributes := #[] }, { accessFlags := 18, nameIndex := 30, descriptorIndex := 31, attributes := #[] }, { accessFlags := 18, nameIndex := 34, descriptorIndex := 8, attributes := #[] }, { accessFlags := 18, nameIndex := 37, descriptorIndex := 8, attributes := #[] }, { accessFlags := 18, nameIndex := 40, descriptorIndex := 8, attributes := #[] }, { accessFlags := 18, nameIndex := 43, descriptorIndex := 31, attributes := #[] }, { accessFlags := 18, nameIndex := 46, descriptorIndex := 8, attributes := #[] }, { accessFlags := 18, nameIndex := 49, descriptorIndex := 8, attributes := #[] }, { accessFlags := 2, nameIndex := 66, descriptorIndex := 67, attributes := #[] }, { accessFlags := 2, nameIndex := 58, descriptorIndex := 59, attributes := #[] }])
  fields := #[{ name := "NONE", type := .int, accessFlags := 26, slot := 0, constantValue := 0 }, { name := "fits", type := (.array (.array .int)), accessFlags := 18, slot := 0, constantValue := 0 }, { name := "kind", type := (.array .int), accessFlags := 18, slot := 1, constantValue := 0 }, { name := "partner", type := (.array .int), accessFlags := 18, slot := 2, constantValue := 0 }, { name := "holder", type := (.array .int), accessFlags := 18, slot := 3, constantValue := 0 }, { name := "fixed", type := (.array .boolean), accessFlags := 18, slot := 4, constantValue := 0 }, { name := "visited", type := (.array .long), accessFlags := 18, slot := 5, constantValue := 0 }, { name := "path", type := (.array .int), accessFlags := 18, slot := 6, constantValue := 0 }, { name := "via", type := (.array .int), accessFlags := 18, slot := 7, constantValue := 0 }, { name := "ownFrom", type := (.array .int), accessFlags := 18, slot := 8, constantValue := 0 }, { name := "scanned", type := (.array .long), accessFlags := 18, slot := 9, constantValue := 0 }, { name := "next", type := (.array .int), accessFlags := 18, slot := 10, constantValue := 0 }, { name := "fixedFrom", type := (.array .int), accessFlags := 18, slot := 11, constantValue := 0 }, { name := "searches", type := .long, accessFlags := 2, slot := 12, constantValue := 0 }, { name := "rows", type := .int, accessFlags := 2, slot := 13, constantValue := 0 }]
  methods := #[k2m0, k2m1, k2m2, k2m3, k2m4, k2m5, k2m6, k2m7]
  instanceTypes := #[(.array (.array .int)), (.array .int), (.array .int), (.array .int), (.array .boolean), (.array .long), (.array .int), (.array .int), (.array .int), (.array .long), (.array .int), (.array .int), .long, .int]
  staticTypes := #[.int]
  resolved := Array.replicate 113 none
  statics := none }

def pool3 : Array CpInfo := pool [(2, .class_ 4), (1, u "java/lang/Object"), (0, u "<init>"), (0, u "()V"), (7, .class_ 16), (1, u "java/util/Arrays"), (57, .class_ 76), (1, u "java/util/Arrays$NaturalOrder"), (36, .class_ 115), (1, u "java/util/Arrays$LegacyMergeSort"), (1, u "Z"), (257, .class_ 376), (0, u "java/util/Arrays$ArrayList"), (68, u "$assertionsDisabled"), (269, u "MIN_ARRAY_SORT_GRAN"), (0, u "I"), (2, u "INSERTIONSORT_THRESHOLD"), (120, u "fill"), (4, u "([II)V"), (129, .class_ 976), (0, u "java/util/Arrays$ArrayItr")] 52

def k3m0 : Method := { name := "<init>", desc := "()V", sig := { parameters := [], returnType := none }, accessFlags := 2, code := none }
def k3c1 : Code := { maxStack := 3, maxLocals := 4, code := jdk_65_method_103_code, exceptionTable := #[], attributes := #[] }
def k3m1 : Method := { name := "fill", desc := "([II)V", sig := { parameters := [(.array .int), .int], returnType := none }, accessFlags := 9, code := some k3c1 }
/-- java/util/Arrays -/
def k3 : Class := { plain "java/util/Arrays" (some 0) with
  accessFlags := 49
  interfaces := #[]
  cf := some (fileOf pool3 14 #[.nestMembers #[975, 375, 113, 74]] #[{ accessFlags := 2, nameIndex := 5, descriptorIndex := 6, attributes := #[] }, { accessFlags := 9, nameIndex := 840, descriptorIndex := 845, attributes := #[] }] 49 2 #[] #[{ accessFlags := 26, nameIndex := 715, descriptorIndex := 716, attributes := #[] }, { accessFlags := 26, nameIndex := 719, descriptorIndex := 716, attributes := #[] }, { accessFlags := 4120, nameIndex := 445, descriptorIndex := 117, attributes := #[] }])
  fields := #[{ name := "MIN_ARRAY_SORT_GRAN", type := .int, accessFlags := 26, slot := 0, constantValue := 0 }, { name := "INSERTIONSORT_THRESHOLD", type := .int, accessFlags := 26, slot := 1, constantValue := 0 }, { name := "$assertionsDisabled", type := .boolean, accessFlags := 4120, slot := 2, constantValue := 0 }]
  methods := #[k3m0, k3m1]
  instanceTypes := #[]
  staticTypes := #[.int, .int, .boolean]
  resolved := Array.replicate 1029 none
  statics := none }

def pool4 : Array CpInfo := pool [(1, u "java/lang/Cloneable"), (0, .class_ 1), (0, u "java/lang/Object"), (0, .class_ 3)] 3

/-- java/lang/Cloneable -/
def k4 : Class := { plain "java/lang/Cloneable" (some 0) with
  accessFlags := 1537
  interfaces := #[]
  cf := some (fileOf pool4 2 #[] #[] 1537 4 #[] #[])
  fields := #[]
  methods := #[]
  instanceTypes := #[]
  staticTypes := #[]
  resolved := Array.replicate 8 none
  statics := none }

def pool5 : Array CpInfo := pool [(1, u "java/io/Serializable"), (0, .class_ 1), (0, u "java/lang/Object"), (0, .class_ 3)] 3

/-- java/io/Serializable -/
def k5 : Class := { plain "java/io/Serializable" (some 0) with
  accessFlags := 1537
  interfaces := #[]
  cf := some (fileOf pool5 2 #[] #[] 1537 4 #[] #[])
  fields := #[]
  methods := #[]
  instanceTypes := #[]
  staticTypes := #[]
  resolved := Array.replicate 8 none
  statics := none }

/-- the primitive boolean -/
def k6 : Class := { plain "boolean" none with kind := .primitive 'Z', accessFlags := 0x411 }
/-- [Z -/
def k7 : Class := { plain "[Z" (some 0) with kind := .array 6 .boolean, interfaces := #[4, 5], accessFlags := 1041 }

/-- the primitive byte -/
def k8 : Class := { plain "byte" none with kind := .primitive 'B', accessFlags := 0x411 }
/-- [B -/
def k9 : Class := { plain "[B" (some 0) with kind := .array 8 .byte, interfaces := #[4, 5], accessFlags := 1041 }

/-- the primitive int -/
def k10 : Class := { plain "int" none with kind := .primitive 'I', accessFlags := 0x411 }
/-- [I -/
def k11 : Class := { plain "[I" (some 0) with kind := .array 10 .int, interfaces := #[4, 5], accessFlags := 1041 }

/-- the primitive long -/
def k12 : Class := { plain "long" none with kind := .primitive 'J', accessFlags := 0x411 }
/-- [J -/
def k13 : Class := { plain "[J" (some 0) with kind := .array 12 .long, interfaces := #[4, 5], accessFlags := 1041 }

def heap : Heap := #[]
/-- [[I -/
def k14 : Class := { plain "[[I" (some 0) with kind := .array 11 (.array .int), interfaces := #[4, 5], accessFlags := 1041 }
def classes : Array Class := #[k0, k1, k2, k3, k4, k5, k6, k7, k8, k9, k10, k11, k12, k13, k14]
def interned : List (Array UInt16 × Addr) := []
def slotsUsed : Nat := 0
def theMethod : MethodId := ⟨1, 1⟩
def args0 : Array Value := #[.int 5, .int 3, .int 7]
def aboutOver (below : List Frame) : State where
  vm := { classes := classes, interned := interned.toArray }
  heap := heap
  slotsUsed := slotsUsed
  threads := #[{ frames := .invoking theMethod args0 :: below }]
def below0 : List Frame := [.native { method := ⟨0, 0⟩, args := #[] }]
def about1 : State := aboutOver below0
def p0 : Program := .bare "" "" ""
def e0 : Env := launch0.env 0 0 0
theorem w_frames : about1.frames = Frame.invoking theMethod args0 :: below0 := rfl
set_option maxRecDepth 65536 in
theorem w_args : argsFit about1.vm theMethod args0 = true := by decide +kernel
set_option maxRecDepth 65536 in
theorem w_heap : heapFits about1 = true := by decide +kernel
set_option maxRecDepth 65536 in
theorem w_runnable : about1.curStatus? = some .runnable := by decide +kernel
set_option maxRecDepth 65536 in
theorem w_alone : about1.alone = true := by decide +kernel
set_option maxRecDepth 65536 in
theorem w_named : about1.methodNamed? x = some theMethod := by decide +kernel
set_option maxRecDepth 65536 in
theorem w_hears : about1.hears theMethod below0 = true := by decide +kernel
set_option maxRecDepth 65536 in
theorem w_ripe : about1.ripe theMethod args0 below0 = true := by decide +kernel
theorem w_running : about1.status = .running := rfl
set_option maxRecDepth 65536 in
theorem w_room : about1.hasRoom e0.platform room_1 = true :=
  launch0.hasRoom_least _ room_1 (by decide +kernel) (by decide +kernel) (by decide +kernel) (by decide +kernel) (by decide +kernel) (by decide +kernel)
theorem allAtoms_all (ts : List Jvm.Cond) (a : Array Jvm.Value) (st : Jvm.State) : (allAtoms ts).before a st = ts.all (fun c => c.before a st) := by
  induction ts with
  | nil => rfl
  | cons c t ih =>
    show (Jvm.Cond.and c (allAtoms t)).before a st = _
    rw [Jvm.Cond.before_and, ih, List.all_cons]
def words1 : List Jvm.Cond := Jvm.Cond.code x code maxLocals ret :: tables_1
/-- a 'code' word, met by the world's own term for the bytes: nothing is compared byte by byte -/
theorem code_word {y : MethodName} {bytes : ByteArray} {mx : Nat} {rt : Option FieldType} {a : Array Value} {s : State} {m : MethodId} {meth : Method} {c : Code} (h1 : s.methodNamed? y = some m) (h2 : s.vm.method? m = some meth) (h3 : meth.code = some c) (h4 : c.code = bytes)
    (h5 : (c.maxLocals == mx && c.exceptionTable.isEmpty && decide (c.maxStack ≤ mostOperands) && decide (meth.sig.returnType = rt) && !meth.locks && decide (parseMethodDescriptor y.desc = some meth.sig)) = true) : (Jvm.Cond.code y bytes mx rt).before a s = true := by
  simp only [Bool.and_eq_true, beq_iff_eq, Bool.not_eq_true', decide_eq_true_eq] at h5
  obtain ⟨⟨⟨⟨⟨g1, g2⟩, g3⟩, g4⟩, g5⟩, g6⟩ := h5
  simp [Cond.before, Cond.holds, Cond.value, h1, h2, h3, h4, g1, g2, g3, g4, g5, g6]
def isCode : Jvm.Cond → Bool
  | .code _ _ _ _ => true
  | _ => false
theorem all_split {L : List Jvm.Cond} {P : Jvm.Cond → Bool} (h1 : L.all (fun c => isCode c || P c) = true) (h2 : ∀ c ∈ L.filter isCode, P c = true) : L.all P = true := by
  refine List.all_eq_true.mpr fun c hc => ?_
  have h := List.all_eq_true.mp h1 c hc
  rcases Bool.eq_false_or_eq_true (isCode c) with hi | hi
  · exact h2 c (List.mem_filter.mpr ⟨hc, hi⟩)
  · simpa [hi] using h
set_option maxRecDepth 65536 in
theorem w_c0 : (Jvm.Cond.code x code maxLocals ret).before args0 about1 = true := code_word (m := ⟨1, 1⟩) (meth := k1m1) (c := k1c1) (by decide +kernel) rfl rfl rfl (by decide +kernel)
set_option maxRecDepth 65536 in
theorem w_c1 : (Jvm.Cond.code ({ cls := "com/example/document_pattern_rules/documentpatternrules/pattern/PairingAddAlikePinLaw", name := "list", desc := "(II)[I" } : Jvm.MethodName) method_3_code (6 : Nat) (Option.some (Jvm.ClassFile.FieldType.array Jvm.ClassFile.FieldType.int))).before args0 about1 = true := code_word (m := ⟨1, 2⟩) (meth := k1m2) (c := k1c2) (by decide +kernel) rfl rfl rfl (by decide +kernel)
set_option maxRecDepth 65536 in
theorem w_c2 : (Jvm.Cond.code ({ cls := "com/example/document_pattern_rules/documentpatternrules/pattern/Pairing", name := "<init>", desc := "(II)V" } : Jvm.MethodName) prog_77_method_1_code (3 : Nat) (Option.none : Option Jvm.ClassFile.FieldType)).before args0 about1 = true := code_word (m := ⟨2, 0⟩) (meth := k2m0) (c := k2c0) (by decide +kernel) rfl rfl rfl (by decide +kernel)
set_option maxRecDepth 65536 in
theorem w_c3 : (Jvm.Cond.code ({ cls := "java/lang/Object", name := "<init>", desc := "()V" } : Jvm.MethodName) object_method_1_code (1 : Nat) (Option.none : Option Jvm.ClassFile.FieldType)).before args0 about1 = true := code_word (m := ⟨0, 0⟩) (meth := k0m0) (c := k0c0) (by decide +kernel) rfl rfl rfl (by decide +kernel)
set_option maxRecDepth 65536 in
theorem w_c4 : (Jvm.Cond.code ({ cls := "java/util/Arrays", name := "fill", desc := "([II)V" } : Jvm.MethodName) jdk_65_method_103_code (4 : Nat) (Option.none : Option Jvm.ClassFile.FieldType)).before args0 about1 = true := code_word (m := ⟨3, 1⟩) (meth := k3m1) (c := k3c1) (by decide +kernel) rfl rfl rfl (by decide +kernel)
set_option maxRecDepth 65536 in
theorem w_c5 : (Jvm.Cond.code ({ cls := "com/example/document_pattern_rules/documentpatternrules/pattern/Pairing", name := "add", desc := "([I)V" } : Jvm.MethodName) prog_77_method_2_code (2 : Nat) (Option.none : Option Jvm.ClassFile.FieldType)).before args0 about1 = true := code_word (m := ⟨2, 1⟩) (meth := k2m1) (c := k2c1) (by decide +kernel) rfl rfl rfl (by decide +kernel)
set_option maxRecDepth 65536 in
theorem w_c6 : (Jvm.Cond.code ({ cls := "com/example/document_pattern_rules/documentpatternrules/pattern/Pairing", name := "addAlike", desc := "(I)V" } : Jvm.MethodName) prog_77_method_3_code (2 : Nat) (Option.none : Option Jvm.ClassFile.FieldType)).before args0 about1 = true := code_word (m := ⟨2, 2⟩) (meth := k2m2) (c := k2c2) (by decide +kernel) rfl rfl rfl (by decide +kernel)
set_option maxRecDepth 65536 in
theorem w_c7 : (Jvm.Cond.code ({ cls := "com/example/document_pattern_rules/documentpatternrules/pattern/Pairing", name := "complete", desc := "()Z" } : Jvm.MethodName) prog_77_method_5_code (3 : Nat) (Option.some Jvm.ClassFile.FieldType.boolean)).before args0 about1 = true := code_word (m := ⟨2, 3⟩) (meth := k2m3) (c := k2c3) (by decide +kernel) rfl rfl rfl (by decide +kernel)
set_option maxRecDepth 65536 in
theorem w_c8 : (Jvm.Cond.code ({ cls := "com/example/document_pattern_rules/documentpatternrules/pattern/Pairing", name := "augment", desc := "(I)Z" } : Jvm.MethodName) prog_77_method_9_code (10 : Nat) (Option.some Jvm.ClassFile.FieldType.boolean)).before args0 about1 = true := code_word (m := ⟨2, 5⟩) (meth := k2m5) (c := k2c5) (by decide +kernel) rfl rfl rfl (by decide +kernel)
set_option maxRecDepth 65536 in
theorem w_c9 : (Jvm.Cond.code ({ cls := "com/example/document_pattern_rules/documentpatternrules/pattern/Pairing", name := "nextColumn", desc := "(I)I" } : Jvm.MethodName) prog_77_method_10_code (4 : Nat) (Option.some Jvm.ClassFile.FieldType.int)).before args0 about1 = true := code_word (m := ⟨2, 6⟩) (meth := k2m6) (c := k2c6) (by decide +kernel) rfl rfl rfl (by decide +kernel)
set_option maxRecDepth 65536 in
theorem w_c10 : (Jvm.Cond.code ({ cls := "com/example/document_pattern_rules/documentpatternrules/pattern/Pairing", name := "hold", desc := "(II)V" } : Jvm.MethodName) prog_77_method_11_code (3 : Nat) (Option.none : Option Jvm.ClassFile.FieldType)).before args0 about1 = true := code_word (m := ⟨2, 7⟩) (meth := k2m7) (c := k2c7) (by decide +kernel) rfl rfl rfl (by decide +kernel)
set_option maxRecDepth 65536 in
theorem w_c11 : (Jvm.Cond.code ({ cls := "com/example/document_pattern_rules/documentpatternrules/pattern/Pairing", name := "lowest", desc := "(I)I" } : Jvm.MethodName) prog_77_method_6_code (7 : Nat) (Option.some Jvm.ClassFile.FieldType.int)).before args0 about1 = true := code_word (m := ⟨2, 4⟩) (meth := k2m4) (c := k2c4) (by decide +kernel) rfl rfl rfl (by decide +kernel)
def codes1 : List Jvm.Cond := [Jvm.Cond.code x code maxLocals ret, Jvm.Cond.code ({ cls := "com/example/document_pattern_rules/documentpatternrules/pattern/PairingAddAlikePinLaw", name := "list", desc := "(II)[I" } : Jvm.MethodName) method_3_code (6 : Nat) (Option.some (Jvm.ClassFile.FieldType.array Jvm.ClassFile.FieldType.int)), Jvm.Cond.code ({ cls := "com/example/document_pattern_rules/documentpatternrules/pattern/Pairing", name := "<init>", desc := "(II)V" } : Jvm.MethodName) prog_77_method_1_code (3 : Nat) (Option.none : Option Jvm.ClassFile.FieldType), Jvm.Cond.code ({ cls := "java/lang/Object", name := "<init>", desc := "()V" } : Jvm.MethodName) object_method_1_code (1 : Nat) (Option.none : Option Jvm.ClassFile.FieldType), Jvm.Cond.code ({ cls := "java/util/Arrays", name := "fill", desc := "([II)V" } : Jvm.MethodName) jdk_65_method_103_code (4 : Nat) (Option.none : Option Jvm.ClassFile.FieldType), Jvm.Cond.code ({ cls := "com/example/document_pattern_rules/documentpatternrules/pattern/Pairing", name := "add", desc := "([I)V" } : Jvm.MethodName) prog_77_method_2_code (2 : Nat) (Option.none : Option Jvm.ClassFile.FieldType), Jvm.Cond.code ({ cls := "com/example/document_pattern_rules/documentpatternrules/pattern/Pairing", name := "addAlike", desc := "(I)V" } : Jvm.MethodName) prog_77_method_3_code (2 : Nat) (Option.none : Option Jvm.ClassFile.FieldType), Jvm.Cond.code ({ cls := "com/example/document_pattern_rules/documentpatternrules/pattern/Pairing", name := "complete", desc := "()Z" } : Jvm.MethodName) prog_77_method_5_code (3 : Nat) (Option.some Jvm.ClassFile.FieldType.boolean), Jvm.Cond.code ({ cls := "com/example/document_pattern_rules/documentpatternrules/pattern/Pairing", name := "augment", desc := "(I)Z" } : Jvm.MethodName) prog_77_method_9_code (10 : Nat) (Option.some Jvm.ClassFile.FieldType.boolean), Jvm.Cond.code ({ cls := "com/example/document_pattern_rules/documentpatternrules/pattern/Pairing", name := "nextColumn", desc := "(I)I" } : Jvm.MethodName) prog_77_method_10_code (4 : Nat) (Option.some Jvm.ClassFile.FieldType.int), Jvm.Cond.code ({ cls := "com/example/document_pattern_rules/documentpatternrules/pattern/Pairing", name := "hold", desc := "(II)V" } : Jvm.MethodName) prog_77_method_11_code (3 : Nat) (Option.none : Option Jvm.ClassFile.FieldType), Jvm.Cond.code ({ cls := "com/example/document_pattern_rules/documentpatternrules/pattern/Pairing", name := "lowest", desc := "(I)I" } : Jvm.MethodName) prog_77_method_6_code (7 : Nat) (Option.some Jvm.ClassFile.FieldType.int)]
set_option maxRecDepth 65536 in
theorem codes_eq : words1.filter isCode = codes1 := rfl
theorem w_codes : ∀ c ∈ words1.filter isCode, c.before args0 about1 = true := by
  rw [codes_eq]
  intro c hc
  simp only [codes1, List.mem_cons, List.not_mem_nil, or_false] at hc
  rcases hc with rfl | rfl | rfl | rfl | rfl | rfl | rfl | rfl | rfl | rfl | rfl | rfl
  · exact w_c0
  · exact w_c1
  · exact w_c2
  · exact w_c3
  · exact w_c4
  · exact w_c5
  · exact w_c6
  · exact w_c7
  · exact w_c8
  · exact w_c9
  · exact w_c10
  · exact w_c11
set_option maxRecDepth 65536 in
theorem w_t1 : (words1.take 24).all (fun c => isCode c || c.before args0 about1) = true := by decide +kernel
set_option maxRecDepth 65536 in
theorem w_t2 : ((words1.drop 24).take 24).all (fun c => isCode c || c.before args0 about1) = true := by decide +kernel
set_option maxRecDepth 65536 in
theorem w_t3 : (((words1.drop 24).drop 24).take 24).all (fun c => isCode c || c.before args0 about1) = true := by decide +kernel
set_option maxRecDepth 65536 in
theorem w_t4 : (((words1.drop 24).drop 24).drop 24).all (fun c => isCode c || c.before args0 about1) = true := by decide +kernel
theorem w_tables : (allAtoms (Jvm.Cond.code x code maxLocals ret :: tables_1)).before args0 about1 = true := by
  rw [allAtoms_all]
  show words1.all (fun c => c.before args0 about1) = true
  refine all_split ?_ w_codes
  rw [← List.take_append_drop 24 words1, List.all_append, w_t1, ← List.take_append_drop 24 (words1.drop 24), List.all_append, w_t2, ← List.take_append_drop 24 ((words1.drop 24).drop 24), List.all_append, w_t3, w_t4]
  rfl
set_option maxRecDepth 65536 in
theorem w_case : (Jvm.Cond.and given_1 narrow_1).before args0 about1 = true := by decide +kernel
theorem w_applies : (headSpec (Jvm.Cond.code x code maxLocals ret :: tables_1) room_1).applies x e0.platform about1 = true :=
  (Spec.applies_iff w_frames).mpr ⟨w_running, w_runnable, w_alone, w_named, w_hears, w_ripe, w_room, w_tables⟩
theorem atStart : AtStart classFile x code maxLocals ret World_1 tables_1 room_1 Calls_1 rest_1 Pre_1 launch0 p0 e0 about1 theMethod args0 below0 :=
  ⟨lists_1, trivial, launch0.admits_env _ _ _, launch0.least_env, fairChoices_fair.cas, fairChoices_fair.clock, w_frames, w_args, w_heap, w_applies, trivial, trivial, w_case⟩
end start1
theorem witness_1 : WitnessClaimed_1 := ⟨start1.p0, start1.e0, start1.about1, start1.theMethod, start1.args0, start1.below0, start1.atStart⟩
end Jvm.Pilot.@@N@@
