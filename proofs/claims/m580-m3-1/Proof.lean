import JvmDerived
import JvmDerived.Pilot.@@N@@Statement
import JvmDerived.Pilot.@@N@@Code
set_option linter.unusedVariables false
set_option linter.unusedSimpArgs false

namespace Jvm.Pilot.@@N@@
open Jvm Jvm.ClassFile Sem Op Lib Jvm.Free Jvm.Stand Jvm.LawKit Jvm.RoadKit Bundle Jvm.Pilot.@@N@@.Jvm.D
/-! continuation style: from A the run comes to a state of which K holds -/
def own_Go (tb : Tables) (e : Env) (below : List Frame) (K : State → Prop) (A : State) : Prop := ∃ U, Steps tb e below A U ∧ K U
theorem own_by {tb : Tables} {e : Env} {below : List Frame} {K : State → Prop} {A B : State} (h : ∀ t, Steps tb e below B t → Steps tb e below A t) (k : own_Go tb e below K B) : own_Go tb e below K A := by
  obtain ⟨U, s, q⟩ := k; exact ⟨U, h U s, q⟩
def own_K (s : State) (below : List Frame) (Q : Option Value → Heap → List Loc → Prop) (kc ks : Nat) (U : State) : Prop :=
  ∃ v L, U.status = .running ∧ Ended U below (.returned v) ∧ Q v U.heap L ∧ FrameEnd s (.returned v) U L kc ks
theorem own_done {tb : Tables} {e : Env} {below : List Frame} {s A B : State} {Q : Option Value → Heap → List Loc → Prop} {kc ks : Nat} (h : ∀ t, Steps tb e below B t → Steps tb e below A t) (k : own_Go tb e below (own_K s below Q kc ks) B) :
    ∃ s₂ o, Steps tb e below A s₂ ∧ s₂.status = .running ∧ Ended s₂ below o ∧ ∃ v L, o = .returned v ∧ Q v s₂.heap L ∧ FrameEnd s o s₂ L kc ks := by
  obtain ⟨U, st, v, L, h1, h2, h3, h4⟩ := k
  exact ⟨U, _, h U st, h1, h2, v, L, rfl, h3, h4⟩
theorem own_ne {a b : Nat} (h : a < b ∨ b < a) : a ≠ b := by omega
theorem own_lt {a b : Nat} (h : a < b) : a < b := h
theorem own_hw {Ls : List Jvm.Cond} {a0 : Array Value} {Z : State} (i : Nat) {d : Jvm.Cond} (hw : ∀ d ∈ Ls, d.before a0 Z = true) (h : Ls[i]? = some d) : d.before a0 Z = true := hw _ (List.mem_of_getElem? h)
abbrev VI (x : Int32) : Slot := .val (.int x)
abbrev VR (x : Addr) : Slot := .val (.ref x)
abbrev UU : Slot := .unset
theorem own_cat1 (x : Int32) : Value.category (.int x) = 1 := rfl
theorem own_cat2 (x : Nat) : Value.category (.ref x) = 1 := rfl
theorem own_cat3 : Value.category .null = 1 := rfl
theorem own_cat4 (x : Int64) : Value.category (.long x) = 2 := rfl
section OwnRet
variable {p : Program} {l : Launch} {e : Env} {R : Room} {s : State} {m : MethodId} {args : Array Value} {below : List Frame} {meth : Method} {c : Code} {T : State} {locs : List Loc} {cells slots : Nat} {Q : Option Value → Heap → List Loc → Prop} {kc ks : Nat}
theorem own_retW (X : Stand p l e R s m args below meth c T locs cells slots) (hx : p.tables.exec = Jvm.exec) {pc : Nat} {Ls : Array Slot} {w : Value} {t : FieldType} {i : Instr} {rest : List Value} (hrt : meth.sig.returnType = some t) (hlk : meth.locks = false) (hn : narrow t w = w)
    (hi : (i = .ireturn ∧ (t = .int ∨ t = .boolean ∨ t = .byte ∨ t = .char ∨ t = .short) ∧ ∃ z, w = .int z) ∨ (i = .lreturn ∧ t = .long ∧ ∃ z, w = .long z) ∨ (i = .dreturn ∧ t = .double ∧ ∃ z, w = .double z) ∨ (i = .freturn ∧ t = .float ∧ ∃ z, w = .float z) ∨ (i = .areturn ∧ t.isReference = true ∧ w.isRef = true))
    (hd : decode c.code pc = .ok (i, 1)) (hc : cells ≤ kc) (hs : slots ≤ ks) (hq : Q (some w) T.heap locs) :
    own_Go p.tables e below (own_K s below Q kc ks) (T.setTop (mkF m pc Ls (w :: rest))) := by
  obtain ⟨fs, hr, hrun, hended, hW, hsame⟩ := X.leave (v := some w) (fun h => by rw [hrt] at h; cases h) hlk
  exact ⟨_, retOut X hx hrt hn hi hd hr, some w, locs, hrun, hended, hq, ⟨_, rfl⟩, hW, hsame.mono hc hs⟩
theorem own_retI (X : Stand p l e R s m args below meth c T locs cells slots) (hx : p.tables.exec = Jvm.exec) {pc : Nat} {Ls : Array Slot} {z : Int32} {rest : List Value} (hrt : meth.sig.returnType = some .int) (hlk : meth.locks = false)
    (hd : decode c.code pc = .ok (.ireturn, 1)) (hc : cells ≤ kc) (hs : slots ≤ ks) (hq : Q (some (.int z)) T.heap locs) :
    own_Go p.tables e below (own_K s below Q kc ks) (T.setTop (mkF m pc Ls (.int z :: rest))) :=
  own_retW X hx hrt hlk rfl (Or.inl ⟨rfl, Or.inl rfl, _, rfl⟩) hd hc hs hq
theorem own_retZ (X : Stand p l e R s m args below meth c T locs cells slots) (hx : p.tables.exec = Jvm.exec) {pc : Nat} {Ls : Array Slot} {z : Int32} {rest : List Value} (hrt : meth.sig.returnType = some .boolean) (hlk : meth.locks = false) (hn : narrow .boolean (.int z) = .int z)
    (hd : decode c.code pc = .ok (.ireturn, 1)) (hc : cells ≤ kc) (hs : slots ≤ ks) (hq : Q (some (.int z)) T.heap locs) :
    own_Go p.tables e below (own_K s below Q kc ks) (T.setTop (mkF m pc Ls (.int z :: rest))) :=
  own_retW X hx hrt hlk hn (Or.inl ⟨rfl, Or.inr (Or.inl rfl), _, rfl⟩) hd hc hs hq
theorem own_retJ (X : Stand p l e R s m args below meth c T locs cells slots) (hx : p.tables.exec = Jvm.exec) {pc : Nat} {Ls : Array Slot} {z : Int64} {rest : List Value} (hrt : meth.sig.returnType = some .long) (hlk : meth.locks = false)
    (hd : decode c.code pc = .ok (.lreturn, 1)) (hc : cells ≤ kc) (hs : slots ≤ ks) (hq : Q (some (.long z)) T.heap locs) :
    own_Go p.tables e below (own_K s below Q kc ks) (T.setTop (mkF m pc Ls (.long z :: rest))) :=
  own_retW X hx hrt hlk rfl (Or.inr (Or.inl ⟨rfl, rfl, _, rfl⟩)) hd hc hs hq
theorem own_retA (X : Stand p l e R s m args below meth c T locs cells slots) (hx : p.tables.exec = Jvm.exec) {pc : Nat} {Ls : Array Slot} {w : Value} {t : FieldType} {rest : List Value} (hrt : meth.sig.returnType = some t) (ht : t.isReference = true) (hw : w.isRef = true) (hlk : meth.locks = false)
    (hd : decode c.code pc = .ok (.areturn, 1)) (hc : cells ≤ kc) (hs : slots ≤ ks) (hq : Q (some w) T.heap locs) :
    own_Go p.tables e below (own_K s below Q kc ks) (T.setTop (mkF m pc Ls (w :: rest))) :=
  own_retW X hx hrt hlk (by rcases ref_cases hw with rfl | ⟨a, rfl⟩ <;> cases t <;> first | rfl | (cases ht)) (Or.inr (Or.inr (Or.inr (Or.inr ⟨rfl, ht, hw⟩)))) hd hc hs hq
theorem own_retV (X : Stand p l e R s m args below meth c T locs cells slots) (hx : p.tables.exec = Jvm.exec) {pc : Nat} {Ls : Array Slot} (hrt : meth.sig.returnType = none) (hlk : meth.locks = false)
    (hd : decode c.code pc = .ok (.return_, 1)) (hc : cells ≤ kc) (hs : slots ≤ ks) (hq : Q none T.heap locs) :
    own_Go p.tables e below (own_K s below Q kc ks) (T.setTop (mkF m pc Ls [])) := by
  obtain ⟨fs, hr, hrun, hended, hW, hsame⟩ := X.leave (v := none) (fun _ => rfl) hlk
  exact ⟨_, X.returnOut hx hrt hd hr, none, locs, hrun, hended, hq, ⟨_, rfl⟩, hW, hsame.mono hc hs⟩
theorem own_retB (X : Stand p l e R s m args below meth c T locs cells slots) (hx : p.tables.exec = Jvm.exec) {pc : Nat} {Ls : Array Slot} {z : Int32} {rest : List Value} (hrt : meth.sig.returnType = some .boolean) (hlk : meth.locks = false)
    (hd : decode c.code pc = .ok (.ireturn, 1)) (hc : cells ≤ kc) (hs : slots ≤ ks) (hq : Q (some (.int (z &&& (1 : Int32)))) T.heap locs) :
    own_Go p.tables e below (own_K s below Q kc ks) (T.setTop (mkF m pc Ls (.int z :: rest))) := by
  obtain ⟨fs, hr, hrun, hended, hW, hsame⟩ := X.leave (v := some (.int (nar .boolean z))) (fun h => by rw [hrt] at h; cases h) hlk
  exact ⟨_, retN X hx (t := .boolean) hrt (Or.inl rfl) hd hr, some (.int (nar .boolean z)), locs, hrun, hended, hq, ⟨_, rfl⟩, hW, hsame.mono hc hs⟩
end OwnRet
def own_P (r : Value) (h0 : Heap) (n0 : Nat) (v : Option Value) (h : Heap) (L : List Loc) : Prop := v = some r ∧ Fr n0 L ∧ h = h0
theorem own_selpriv {Z : State} {a0 : Array Value} {y : MethodName} {n : Nat} (wi : (Cond.instantiable y.cls n).before a0 Z = true) (wp : (Cond.privateMethod y).before a0 Z = true) (wm : (Cond.instanceMethod y).before a0 Z = true) (hy : y.cls ≠ "java/lang/invoke/MethodHandle" ∧ y.cls ≠ "java/lang/invoke/VarHandle") : (Cond.selects y.cls y y).before a0 Z = true := by
  obtain ⟨c, k, h1, h2, h3, h4, -⟩ := Cond.instantiable_spec wi
  exact selects_self_of_private h1 h2 (Bool.or_eq_false_iff.mp h4).1 (Cond.privateMethod_at wp) wm hy
theorem own_old_le {Z : State} {n0 : Nat} {h : Heap} (O : Old Z n0 h) : n0 ≤ h.size := by rw [← O.1]; exact O.2.1

def own_PV (h0 : Heap) (n0 : Nat) (v : Option Value) (h : Heap) (L : List Loc) : Prop := v = none ∧ Fr n0 L ∧ h = h0

abbrev own_S := (List (Option Nat)) × (List Int32) × (List Int32) × (List Int32) × (List Int32) × (List Int64) × (List Int32) × (List Int32) × (List Int32) × (List Int64) × (List Int32) × (List Int32) × Int64 × Int32
def own_F (u : own_S) : List (Option Nat) := u.1
def own_ki (u : own_S) : List Int32 := u.2.1
def own_pa (u : own_S) : List Int32 := u.2.2.1
def own_ho (u : own_S) : List Int32 := u.2.2.2.1
def own_fi (u : own_S) : List Int32 := u.2.2.2.2.1
def own_vi (u : own_S) : List Int64 := u.2.2.2.2.2.1
def own_pt (u : own_S) : List Int32 := u.2.2.2.2.2.2.1
def own_va (u : own_S) : List Int32 := u.2.2.2.2.2.2.2.1
def own_ow (u : own_S) : List Int32 := u.2.2.2.2.2.2.2.2.1
def own_sc (u : own_S) : List Int64 := u.2.2.2.2.2.2.2.2.2.1
def own_nx (u : own_S) : List Int32 := u.2.2.2.2.2.2.2.2.2.2.1
def own_ff (u : own_S) : List Int32 := u.2.2.2.2.2.2.2.2.2.2.2.1
def own_se (u : own_S) : Int64 := u.2.2.2.2.2.2.2.2.2.2.2.2.1
def own_ro (u : own_S) : Int32 := u.2.2.2.2.2.2.2.2.2.2.2.2.2
def own_F_set (u : own_S) (z : List (Option Nat)) : own_S := (z, own_ki u, own_pa u, own_ho u, own_fi u, own_vi u, own_pt u, own_va u, own_ow u, own_sc u, own_nx u, own_ff u, own_se u, own_ro u)
def own_ki_set (u : own_S) (z : List Int32) : own_S := (own_F u, z, own_pa u, own_ho u, own_fi u, own_vi u, own_pt u, own_va u, own_ow u, own_sc u, own_nx u, own_ff u, own_se u, own_ro u)
def own_pa_set (u : own_S) (z : List Int32) : own_S := (own_F u, own_ki u, z, own_ho u, own_fi u, own_vi u, own_pt u, own_va u, own_ow u, own_sc u, own_nx u, own_ff u, own_se u, own_ro u)
def own_ho_set (u : own_S) (z : List Int32) : own_S := (own_F u, own_ki u, own_pa u, z, own_fi u, own_vi u, own_pt u, own_va u, own_ow u, own_sc u, own_nx u, own_ff u, own_se u, own_ro u)
def own_fi_set (u : own_S) (z : List Int32) : own_S := (own_F u, own_ki u, own_pa u, own_ho u, z, own_vi u, own_pt u, own_va u, own_ow u, own_sc u, own_nx u, own_ff u, own_se u, own_ro u)
def own_vi_set (u : own_S) (z : List Int64) : own_S := (own_F u, own_ki u, own_pa u, own_ho u, own_fi u, z, own_pt u, own_va u, own_ow u, own_sc u, own_nx u, own_ff u, own_se u, own_ro u)
def own_pt_set (u : own_S) (z : List Int32) : own_S := (own_F u, own_ki u, own_pa u, own_ho u, own_fi u, own_vi u, z, own_va u, own_ow u, own_sc u, own_nx u, own_ff u, own_se u, own_ro u)
def own_va_set (u : own_S) (z : List Int32) : own_S := (own_F u, own_ki u, own_pa u, own_ho u, own_fi u, own_vi u, own_pt u, z, own_ow u, own_sc u, own_nx u, own_ff u, own_se u, own_ro u)
def own_ow_set (u : own_S) (z : List Int32) : own_S := (own_F u, own_ki u, own_pa u, own_ho u, own_fi u, own_vi u, own_pt u, own_va u, z, own_sc u, own_nx u, own_ff u, own_se u, own_ro u)
def own_sc_set (u : own_S) (z : List Int64) : own_S := (own_F u, own_ki u, own_pa u, own_ho u, own_fi u, own_vi u, own_pt u, own_va u, own_ow u, z, own_nx u, own_ff u, own_se u, own_ro u)
def own_nx_set (u : own_S) (z : List Int32) : own_S := (own_F u, own_ki u, own_pa u, own_ho u, own_fi u, own_vi u, own_pt u, own_va u, own_ow u, own_sc u, z, own_ff u, own_se u, own_ro u)
def own_ff_set (u : own_S) (z : List Int32) : own_S := (own_F u, own_ki u, own_pa u, own_ho u, own_fi u, own_vi u, own_pt u, own_va u, own_ow u, own_sc u, own_nx u, z, own_se u, own_ro u)
def own_se_set (u : own_S) (z : Int64) : own_S := (own_F u, own_ki u, own_pa u, own_ho u, own_fi u, own_vi u, own_pt u, own_va u, own_ow u, own_sc u, own_nx u, own_ff u, z, own_ro u)
def own_ro_set (u : own_S) (z : Int32) : own_S := (own_F u, own_ki u, own_pa u, own_ho u, own_fi u, own_vi u, own_pt u, own_va u, own_ow u, own_sc u, own_nx u, own_ff u, own_se u, z)
def own_geti (L : List Int32) (j : Int32) : Option Int32 := if j < 0 then none else L[j.toNatClampNeg]?
def own_seti (L : List Int32) (j w : Int32) : Option (List Int32) := if j < 0 then none else if j.toNatClampNeg < L.length then some (L.set j.toNatClampNeg w) else none
def own_getj (L : List Int64) (j : Int32) : Option Int64 := if j < 0 then none else L[j.toNatClampNeg]?
def own_setj (L : List Int64) (j : Int32) (w : Int64) : Option (List Int64) := if j < 0 then none else if j.toNatClampNeg < L.length then some (L.set j.toNatClampNeg w) else none
def own_getF (L : List (Option Nat)) (j : Int32) : Option Nat := if j < 0 then none else (L[j.toNatClampNeg]?).bind id
def own_setF (L : List (Option Nat)) (j : Int32) (w : Nat) : Option (List (Option Nat)) := if j < 0 then none else if j.toNatClampNeg < L.length then some (L.set j.toNatClampNeg (some w)) else none
def own_rv (CA : Nat → Nat) : Option Nat → Value
  | none => .null
  | some i => .ref (CA i)
def own_IA (Z : State) (h : Heap) (a : Nat) (k : ClassId) (ty : FieldType) (z : Int32) (L : List Int32) : Prop := Arv Z h a k ty z (L.map Value.int) (.int 0) ∧ L.length = z.toNatClampNeg
def own_JA (Z : State) (h : Heap) (a : Nat) (k : ClassId) (z : Int32) (L : List Int64) : Prop := Arv Z h a k .long z (L.map Value.long) (.long 0) ∧ L.length = z.toNatClampNeg
def own_FA (Z : State) (h : Heap) (a : Nat) (k : ClassId) (z : Int32) (CA : Nat → Nat) (L : List (Option Nat)) : Prop := Arv Z h a k (.array .int) z (L.map (own_rv CA)) .null ∧ L.length = z.toNatClampNeg ∧ OvrA Z k .int "[I"
theorem own_bind {α β : Type} {x : Option α} {f : α → Option β} {b : β} (h : x.bind f = some b) : ∃ a, x = some a ∧ f a = some b := Option.bind_eq_some_iff.mp h
theorem own_inb {L : Nat} {z j : Int32} {c : Cell} (S : c.slots.size = z.toNatClampNeg) (hl : L = z.toNatClampNeg) (hj : ¬ j < 0) (hlt : j.toNatClampNeg < L) : ¬ (j < 0 ∨ c.slots.size ≤ j.toNatClampNeg) := by
  rintro (q | q)
  · exact hj q
  · omega
theorem own_getDm {α : Type} (f : α → Value) (d : Value) (L : List α) (i : Nat) (w : α) (h : L[i]? = some w) : (L.map f).getD i d = f w := by
  rw [List.getD_eq_getElem?_getD, List.getElem?_map, h]; rfl
section OwnSteps
variable {p : Program} {l : Launch} {e : Env} {R : Room} {s : State} {m : MethodId} {args : Array Value} {below : List Frame} {meth : Method} {c : Code} {T : State} {locs : List Loc} {cells slots : Nat} {Z : State} {h : Heap} {a : Nat} {k : ClassId} {z j : Int32} {g : JFrame} {rest : List Value}
theorem own_lenI (X : Stand p l e R s m args below meth c T locs cells slots) (hx : p.tables.exec = Jvm.exec) (hZ : Z.Warmed39 s.vm) (eT : T.heap = h) {ty : FieldType} {L : List Int32} (V : own_IA Z h a k ty z L) (hg : g.method = m) (hs : g.stack = .ref a :: rest) (hd : decode c.code g.pc = .ok (.arraylength, 1)) (t : State)
    (q : Steps p.tables e below (T.setTop { g with pc := g.pc + 1, stack := .int z :: rest }) t) : Steps p.tables e below (T.setTop g) t := by
  obtain ⟨⟨cl, Ar, q1, S, Nn, H, G⟩, hl⟩ := V
  exact X.arraylength hx (by rw [eT]; exact Ar.1) (State.isArrayOf_alike hZ.alike Ar.2.1) hg hs hd t (by rw [len_of S Nn]; exact q)
theorem own_ldI (X : Stand p l e R s m args below meth c T locs cells slots) (hx : p.tables.exec = Jvm.exec) (hZ : Z.Warmed39 s.vm) (eT : T.heap = h) {L : List Int32} {w : Int32} (V : own_IA Z h a k .int z L) (hw : own_geti L j = some w) (hg : g.method = m) (hs : g.stack = .int j :: .ref a :: rest) (hd : decode c.code g.pc = .ok (.iaload, 1)) (t : State)
    (q : Steps p.tables e below (T.setTop { g with pc := g.pc + 1, stack := .int w :: rest }) t) : Steps p.tables e below (T.setTop g) t := by
  unfold own_geti at hw
  obtain ⟨⟨cl, Ar, q1, S, Nn, H, G⟩, hl⟩ := V
  by_cases hj : j < 0
  · rw [if_pos hj] at hw; cases hw
  · rw [if_neg hj] at hw
    have hin := own_inb S hl hj (List.getElem?_eq_some_iff.mp hw).1
    exact X.iaload hx (j := j) (v := .int w) (by rw [eT]; exact Ar.1) (State.isArrayOf_alike hZ.alike Ar.2.1) Ar.2.2 hin (H.at hin (own_getDm _ _ _ _ _ hw)) hg hs hd t q
theorem own_ldZ (X : Stand p l e R s m args below meth c T locs cells slots) (hx : p.tables.exec = Jvm.exec) (hZ : Z.Warmed39 s.vm) (eT : T.heap = h) {L : List Int32} {w : Int32} (V : own_IA Z h a k .boolean z L) (hw : own_geti L j = some w) (hg : g.method = m) (hs : g.stack = .int j :: .ref a :: rest) (hd : decode c.code g.pc = .ok (.baload, 1)) (t : State)
    (q : Steps p.tables e below (T.setTop { g with pc := g.pc + 1, stack := .int w :: rest }) t) : Steps p.tables e below (T.setTop g) t := by
  unfold own_geti at hw
  obtain ⟨⟨cl, Ar, q1, S, Nn, H, G⟩, hl⟩ := V
  by_cases hj : j < 0
  · rw [if_pos hj] at hw; cases hw
  · rw [if_neg hj] at hw
    have hin := own_inb S hl hj (List.getElem?_eq_some_iff.mp hw).1
    exact X.baloadBooleans hx (j := j) (v := .int w) (by rw [eT]; exact Ar.1) (State.isArrayOf_alike hZ.alike Ar.2.1) Ar.2.2 hin (H.at hin (own_getDm _ _ _ _ _ hw)) hg hs hd t q
theorem own_ldJ (X : Stand p l e R s m args below meth c T locs cells slots) (hx : p.tables.exec = Jvm.exec) (hZ : Z.Warmed39 s.vm) (eT : T.heap = h) {L : List Int64} {w : Int64} (V : own_JA Z h a k z L) (hw : own_getj L j = some w) (hg : g.method = m) (hs : g.stack = .int j :: .ref a :: rest) (hd : decode c.code g.pc = .ok (.laload, 1)) (t : State)
    (q : Steps p.tables e below (T.setTop { g with pc := g.pc + 1, stack := .long w :: rest }) t) : Steps p.tables e below (T.setTop g) t := by
  unfold own_getj at hw
  obtain ⟨⟨cl, Ar, q1, S, Nn, H, G⟩, hl⟩ := V
  by_cases hj : j < 0
  · rw [if_pos hj] at hw; cases hw
  · rw [if_neg hj] at hw
    have hin := own_inb S hl hj (List.getElem?_eq_some_iff.mp hw).1
    exact X.laload hx (j := j) (v := .long w) (by rw [eT]; exact Ar.1) (State.isArrayOf_alike hZ.alike Ar.2.1) Ar.2.2 hin (H.at hin (own_getDm _ _ _ _ _ hw)) hg hs hd t q
theorem own_ldF (X : Stand p l e R s m args below meth c T locs cells slots) (hx : p.tables.exec = Jvm.exec) (hZ : Z.Warmed39 s.vm) (eT : T.heap = h) {CA : Nat → Nat} {L : List (Option Nat)} {w : Nat} (V : own_FA Z h a k z CA L) (hw : own_getF L j = some w) (hg : g.method = m) (hs : g.stack = .int j :: .ref a :: rest) (hd : decode c.code g.pc = .ok (.aaload, 1)) (t : State)
    (q : Steps p.tables e below (T.setTop { g with pc := g.pc + 1, stack := .ref (CA w) :: rest }) t) : Steps p.tables e below (T.setTop g) t := by
  unfold own_getF at hw
  obtain ⟨⟨cl, Ar, q1, S, Nn, H, G⟩, hl, -⟩ := V
  by_cases hj : j < 0
  · rw [if_pos hj] at hw; cases hw
  · rw [if_neg hj] at hw
    obtain ⟨x, hx1, hx2⟩ := own_bind hw
    have hx3 : x = some w := hx2
    subst hx3
    have hin := own_inb S hl hj (List.getElem?_eq_some_iff.mp hx1).1
    exact X.aaload hx (j := j) (v := .ref (CA w)) (by rw [eT]; exact Ar.1) (State.isArrayOf_alike hZ.alike Ar.2.1) rfl Ar.2.2 hin (H.at hin (own_getDm (own_rv CA) _ _ _ _ hx1)) hg hs hd t q
theorem own_setm {α : Type} (f : α → Value) (L : List α) (i : Nat) (w : α) : (L.map f).set i (f w) = (L.set i w).map f := List.map_set.symm
theorem own_stI (X : Stand p l e R s m args below meth c T locs cells slots) (hx : p.tables.exec = Jvm.exec) (hZ : Z.Warmed39 s.vm) (eT : T.heap = h) {L L' : List Int32} {w : Int32} (V : own_IA Z h a k .int z L) (hw : own_seti L j w = some L') (hg : g.method = m) (hs : g.stack = .int w :: .int j :: .ref a :: rest) (hd : decode c.code g.pc = .ok (.iastore, 1)) :
    ∃ T' h', Stand p l e R s m args below meth c T' (locs ++ [⟨a, j.toNatClampNeg⟩]) cells slots ∧ T'.heap = h' ∧ Wr h h' a j.toNatClampNeg (.int w) ∧ own_IA Z h' a k .int z L' ∧ ∀ target, Steps p.tables e below (T'.setTop { g with pc := g.pc + 1, stack := rest }) target → Steps p.tables e below (T.setTop g) target := by
  unfold own_seti at hw
  obtain ⟨⟨cl, Ar, q1, S, Nn, H, G⟩, hl⟩ := V
  by_cases hj : j < 0
  · rw [if_pos hj] at hw; cases hw
  · rw [if_neg hj] at hw
    by_cases hlt : j.toNatClampNeg < L.length
    · rw [if_pos hlt] at hw
      obtain rfl := Option.some.inj hw
      have hin := own_inb S hl hj hlt
      obtain ⟨T', h', X', e', W, st⟩ := stI X hx hZ eT Ar (j := j) hin hg hs hd
      have V' := Arv.set Ar q1 S Nn H G (v := .int w) rfl W j.toNatClampNeg rfl (by rw [List.length_map]; exact hlt)
      exact ⟨T', h', X', e', W, ⟨by rw [← own_setm]; exact V', by rw [List.length_set]; exact hl⟩, st⟩
    · rw [if_neg hlt] at hw; cases hw
theorem own_stZ (X : Stand p l e R s m args below meth c T locs cells slots) (hx : p.tables.exec = Jvm.exec) (hZ : Z.Warmed39 s.vm) (eT : T.heap = h) {L L' : List Int32} (V : own_IA Z h a k .boolean z L) (hw : own_seti L j 1 = some L') (hg : g.method = m) (hs : g.stack = .int 1 :: .int j :: .ref a :: rest) (hd : decode c.code g.pc = .ok (.bastore, 1)) :
    ∃ T' h', Stand p l e R s m args below meth c T' (locs ++ [⟨a, j.toNatClampNeg⟩]) cells slots ∧ T'.heap = h' ∧ Wr h h' a j.toNatClampNeg (.int 1) ∧ own_IA Z h' a k .boolean z L' ∧ ∀ target, Steps p.tables e below (T'.setTop { g with pc := g.pc + 1, stack := rest }) target → Steps p.tables e below (T.setTop g) target := by
  unfold own_seti at hw
  obtain ⟨⟨cl, Ar, q1, S, Nn, H, G⟩, hl⟩ := V
  by_cases hj : j < 0
  · rw [if_pos hj] at hw; cases hw
  · rw [if_neg hj] at hw
    by_cases hlt : j.toNatClampNeg < L.length
    · rw [if_pos hlt] at hw
      obtain rfl := Option.some.inj hw
      have hin := own_inb S hl hj hlt
      obtain ⟨T', h', X', e', W, st⟩ := stZ X hx hZ eT Ar (j := j) hin hg hs hd
      have V' := Arv.set Ar q1 S Nn H G (v := .int 1) rfl W j.toNatClampNeg rfl (by rw [List.length_map]; exact hlt)
      exact ⟨T', h', X', e', W, ⟨by rw [← own_setm]; exact V', by rw [List.length_set]; exact hl⟩, st⟩
    · rw [if_neg hlt] at hw; cases hw
theorem own_stJ (X : Stand p l e R s m args below meth c T locs cells slots) (hx : p.tables.exec = Jvm.exec) (hZ : Z.Warmed39 s.vm) (eT : T.heap = h) {L L' : List Int64} {w : Int64} (V : own_JA Z h a k z L) (hw : own_setj L j w = some L') (hg : g.method = m) (hs : g.stack = .long w :: .int j :: .ref a :: rest) (hd : decode c.code g.pc = .ok (.lastore, 1)) :
    ∃ T' h', Stand p l e R s m args below meth c T' (locs ++ [⟨a, j.toNatClampNeg⟩]) cells slots ∧ T'.heap = h' ∧ Wr h h' a j.toNatClampNeg (.long w) ∧ own_JA Z h' a k z L' ∧ ∀ target, Steps p.tables e below (T'.setTop { g with pc := g.pc + 1, stack := rest }) target → Steps p.tables e below (T.setTop g) target := by
  unfold own_setj at hw
  obtain ⟨⟨cl, Ar, q1, S, Nn, H, G⟩, hl⟩ := V
  by_cases hj : j < 0
  · rw [if_pos hj] at hw; cases hw
  · rw [if_neg hj] at hw
    by_cases hlt : j.toNatClampNeg < L.length
    · rw [if_pos hlt] at hw
      obtain rfl := Option.some.inj hw
      have hin := own_inb S hl hj hlt
      obtain ⟨T', h', X', e', W, st⟩ := stJ X hx hZ eT Ar (j := j) hin hg hs hd
      have V' := Arv.set Ar q1 S Nn H G (v := .long w) rfl W j.toNatClampNeg rfl (by rw [List.length_map]; exact hlt)
      exact ⟨T', h', X', e', W, ⟨by rw [← own_setm]; exact V', by rw [List.length_set]; exact hl⟩, st⟩
    · rw [if_neg hlt] at hw; cases hw
theorem own_stF (X : Stand p l e R s m args below meth c T locs cells slots) (hx : p.tables.exec = Jvm.exec) (hZ : Z.Warmed39 s.vm) (eT : T.heap = h) {CA : Nat → Nat} {L L' : List (Option Nat)} {w : Nat} (V : own_FA Z h a k z CA L) (E : Exa Z h (CA w) "[I") (hw : own_setF L j w = some L') (hg : g.method = m) (hs : g.stack = .ref (CA w) :: .int j :: .ref a :: rest) (hd : decode c.code g.pc = .ok (.aastore, 1)) :
    ∃ T' h', Stand p l e R s m args below meth c T' (locs ++ [⟨a, j.toNatClampNeg⟩]) cells slots ∧ T'.heap = h' ∧ Wr h h' a j.toNatClampNeg (.ref (CA w)) ∧ own_FA Z h' a k z CA L' ∧ ∀ target, Steps p.tables e below (T'.setTop { g with pc := g.pc + 1, stack := rest }) target → Steps p.tables e below (T.setTop g) target := by
  unfold own_setF at hw
  obtain ⟨⟨cl, Ar, q1, S, Nn, H, G⟩, hl, ov⟩ := V
  by_cases hj : j < 0
  · rw [if_pos hj] at hw; cases hw
  · rw [if_neg hj] at hw
    by_cases hlt : j.toNatClampNeg < L.length
    · rw [if_pos hlt] at hw
      obtain rfl := Option.some.inj hw
      have hin := own_inb S hl hj hlt
      obtain ⟨T', h', X', e', W, st⟩ := stR X hx hZ eT Ar (j := j) (v := .ref (CA w)) hin rfl (Sto.ofVA Ar q1 ov (Ins.self E)) hg hs hd
      have V' := Arv.set Ar q1 S Nn H G (v := .ref (CA w)) rfl W j.toNatClampNeg rfl (by rw [List.length_map]; exact hlt)
      exact ⟨T', h', X', e', W, ⟨by rw [← own_setm (own_rv CA) L _ (some w)]; exact V', by rw [List.length_set]; exact hl, ov⟩, st⟩
    · rw [if_neg hlt] at hw; cases hw
end OwnSteps
theorem own_IA.keep {Z : State} {h h' : Heap} {a : Nat} {k : ClassId} {ty : FieldType} {z : Int32} {L : List Int32} {ws : List Addr} (F : own_IA Z h a k ty z L) (K : Keep h h' ws) (q : a ∉ ws) : own_IA Z h' a k ty z L := ⟨F.1.keep K q, F.2⟩
theorem own_IA.ext {Z : State} {h h' : Heap} {a : Nat} {k : ClassId} {ty : FieldType} {z : Int32} {L : List Int32} (F : own_IA Z h a k ty z L) (E : Ext h h') : own_IA Z h' a k ty z L := ⟨F.1.ext E, F.2⟩
theorem own_IA.other {Z : State} {h h' : Heap} {a b : Nat} {k : ClassId} {ty : FieldType} {z : Int32} {L : List Int32} {sl : Nat} {v : Value} (F : own_IA Z h b k ty z L) (W : Wr h h' a sl v) (q : b ≠ a) : own_IA Z h' b k ty z L := ⟨F.1.other W q, F.2⟩
theorem own_JA.other {Z : State} {h h' : Heap} {a b : Nat} {k : ClassId} {z : Int32} {L : List Int64} {sl : Nat} {v : Value} (F : own_JA Z h b k z L) (W : Wr h h' a sl v) (q : b ≠ a) : own_JA Z h' b k z L := ⟨F.1.other W q, F.2⟩
theorem own_FA.other {Z : State} {h h' : Heap} {a b : Nat} {k : ClassId} {z : Int32} {CA : Nat → Nat} {L : List (Option Nat)} {sl : Nat} {v : Value} (F : own_FA Z h b k z CA L) (W : Wr h h' a sl v) (q : b ≠ a) : own_FA Z h' b k z CA L := ⟨F.1.other W q, F.2⟩
def own_ld_F (u : own_S) (j : Int32) : Option Nat := own_getF (own_F u) j
def own_st_F (u : own_S) (j : Int32) (w : Nat) : Option own_S := (own_setF (own_F u) j w).map (own_F_set u)
def own_ld_ki (u : own_S) (j : Int32) : Option Int32 := own_geti (own_ki u) j
def own_st_ki (u : own_S) (j : Int32) (w : Int32) : Option own_S := (own_seti (own_ki u) j w).map (own_ki_set u)
def own_ld_pa (u : own_S) (j : Int32) : Option Int32 := own_geti (own_pa u) j
def own_st_pa (u : own_S) (j : Int32) (w : Int32) : Option own_S := (own_seti (own_pa u) j w).map (own_pa_set u)
def own_ld_ho (u : own_S) (j : Int32) : Option Int32 := own_geti (own_ho u) j
def own_st_ho (u : own_S) (j : Int32) (w : Int32) : Option own_S := (own_seti (own_ho u) j w).map (own_ho_set u)
def own_ld_fi (u : own_S) (j : Int32) : Option Int32 := own_geti (own_fi u) j
def own_st_fi (u : own_S) (j : Int32) (w : Int32) : Option own_S := (own_seti (own_fi u) j w).map (own_fi_set u)
def own_ld_vi (u : own_S) (j : Int32) : Option Int64 := own_getj (own_vi u) j
def own_st_vi (u : own_S) (j : Int32) (w : Int64) : Option own_S := (own_setj (own_vi u) j w).map (own_vi_set u)
def own_ld_pt (u : own_S) (j : Int32) : Option Int32 := own_geti (own_pt u) j
def own_st_pt (u : own_S) (j : Int32) (w : Int32) : Option own_S := (own_seti (own_pt u) j w).map (own_pt_set u)
def own_ld_va (u : own_S) (j : Int32) : Option Int32 := own_geti (own_va u) j
def own_st_va (u : own_S) (j : Int32) (w : Int32) : Option own_S := (own_seti (own_va u) j w).map (own_va_set u)
def own_ld_ow (u : own_S) (j : Int32) : Option Int32 := own_geti (own_ow u) j
def own_st_ow (u : own_S) (j : Int32) (w : Int32) : Option own_S := (own_seti (own_ow u) j w).map (own_ow_set u)
def own_ld_sc (u : own_S) (j : Int32) : Option Int64 := own_getj (own_sc u) j
def own_st_sc (u : own_S) (j : Int32) (w : Int64) : Option own_S := (own_setj (own_sc u) j w).map (own_sc_set u)
def own_ld_nx (u : own_S) (j : Int32) : Option Int32 := own_geti (own_nx u) j
def own_st_nx (u : own_S) (j : Int32) (w : Int32) : Option own_S := (own_seti (own_nx u) j w).map (own_nx_set u)
def own_ld_ff (u : own_S) (j : Int32) : Option Int32 := own_geti (own_ff u) j
def own_st_ff (u : own_S) (j : Int32) (w : Int32) : Option own_S := (own_seti (own_ff u) j w).map (own_ff_set u)
def own_PS (Z : State) (h : Heap) (n0 : Nat) (A : Nat → Nat) (K : Nat → ClassId) (zr zc : Int32) (CA : Nat → Nat) (CK : Nat → ClassId) (CL : List (List Int32)) (u : own_S) : Prop := (n0 ≤ A 0) ∧ (A 0 < A 1) ∧ (A 1 < A 2) ∧ (A 2 < A 3) ∧ (A 3 < A 4) ∧ (A 4 < A 5) ∧ (A 5 < A 6) ∧ (A 6 < A 7) ∧ (A 7 < A 8) ∧ (A 8 < A 9) ∧ (A 9 < A 10) ∧ (A 10 < A 11) ∧ (A 11 < A 12) ∧ (Exa Z h (A 0) "com/example/document_pattern_rules/documentpatternrules/pattern/Pairing") ∧ (Fld Z h (A 0) "com/example/document_pattern_rules/documentpatternrules/pattern/Pairing" "fits" "[[I" (.ref (A 1))) ∧ (Fld Z h (A 0) "com/example/document_pattern_rules/documentpatternrules/pattern/Pairing" "kind" "[I" (.ref (A 2))) ∧ (Fld Z h (A 0) "com/example/document_pattern_rules/documentpatternrules/pattern/Pairing" "partner" "[I" (.ref (A 3))) ∧ (Fld Z h (A 0) "com/example/document_pattern_rules/documentpatternrules/pattern/Pairing" "holder" "[I" (.ref (A 4))) ∧ (Fld Z h (A 0) "com/example/document_pattern_rules/documentpatternrules/pattern/Pairing" "fixed" "[Z" (.ref (A 5))) ∧ (Fld Z h (A 0) "com/example/document_pattern_rules/documentpatternrules/pattern/Pairing" "visited" "[J" (.ref (A 6))) ∧ (Fld Z h (A 0) "com/example/document_pattern_rules/documentpatternrules/pattern/Pairing" "path" "[I" (.ref (A 7))) ∧ (Fld Z h (A 0) "com/example/document_pattern_rules/documentpatternrules/pattern/Pairing" "via" "[I" (.ref (A 8))) ∧ (Fld Z h (A 0) "com/example/document_pattern_rules/documentpatternrules/pattern/Pairing" "ownFrom" "[I" (.ref (A 9))) ∧ (Fld Z h (A 0) "com/example/document_pattern_rules/documentpatternrules/pattern/Pairing" "scanned" "[J" (.ref (A 10))) ∧ (Fld Z h (A 0) "com/example/document_pattern_rules/documentpatternrules/pattern/Pairing" "next" "[I" (.ref (A 11))) ∧ (Fld Z h (A 0) "com/example/document_pattern_rules/documentpatternrules/pattern/Pairing" "fixedFrom" "[I" (.ref (A 12))) ∧ (Fld Z h (A 0) "com/example/document_pattern_rules/documentpatternrules/pattern/Pairing" "searches" "J" (.long (own_se u))) ∧ (Fld Z h (A 0) "com/example/document_pattern_rules/documentpatternrules/pattern/Pairing" "rows" "I" (.int (own_ro u))) ∧ (own_FA Z h (A 1) (K 1) zr CA (own_F u)) ∧ (own_IA Z h (A 2) (K 2) .int zr (own_ki u)) ∧ (own_IA Z h (A 3) (K 3) .int zr (own_pa u)) ∧ (own_IA Z h (A 4) (K 4) .int zc (own_ho u)) ∧ (own_IA Z h (A 5) (K 5) .boolean zr (own_fi u)) ∧ (own_JA Z h (A 6) (K 6) zc (own_vi u)) ∧ (own_IA Z h (A 7) (K 7) .int zr (own_pt u)) ∧ (own_IA Z h (A 8) (K 8) .int zr (own_va u)) ∧ (own_IA Z h (A 9) (K 9) .int zr (own_ow u)) ∧ (own_JA Z h (A 10) (K 10) zr (own_sc u)) ∧ (own_IA Z h (A 11) (K 11) .int zr (own_nx u)) ∧ (own_IA Z h (A 12) (K 12) .int zr (own_ff u)) ∧ (∀ i L, CL[i]? = some L → own_IA Z h (CA i) (CK i) .int (Int32.ofNat L.length) L ∧ Exa Z h (CA i) "[I" ∧ CA i < A 0)
theorem own_PS_g0 {Z : State} {h : Heap} {n0 : Nat} {A : Nat → Nat} {K : Nat → ClassId} {zr zc : Int32} {CA : Nat → Nat} {CK : Nat → ClassId} {CL : List (List Int32)} {u : own_S} (P : own_PS Z h n0 A K zr zc CA CK CL u) : n0 ≤ A 0 := by obtain ⟨g0, o0, o1, o2, o3, o4, o5, o6, o7, o8, o9, o10, o11, E, f1, f2, f3, f4, f5, f6, f7, f8, f9, f10, f11, f12, fse, fro, v1, v2, v3, v4, v5, v6, v7, v8, v9, v10, v11, v12, cc⟩ := P; exact g0
theorem own_PS_o0 {Z : State} {h : Heap} {n0 : Nat} {A : Nat → Nat} {K : Nat → ClassId} {zr zc : Int32} {CA : Nat → Nat} {CK : Nat → ClassId} {CL : List (List Int32)} {u : own_S} (P : own_PS Z h n0 A K zr zc CA CK CL u) : A 0 < A 1 := by obtain ⟨g0, o0, o1, o2, o3, o4, o5, o6, o7, o8, o9, o10, o11, E, f1, f2, f3, f4, f5, f6, f7, f8, f9, f10, f11, f12, fse, fro, v1, v2, v3, v4, v5, v6, v7, v8, v9, v10, v11, v12, cc⟩ := P; exact o0
theorem own_PS_o1 {Z : State} {h : Heap} {n0 : Nat} {A : Nat → Nat} {K : Nat → ClassId} {zr zc : Int32} {CA : Nat → Nat} {CK : Nat → ClassId} {CL : List (List Int32)} {u : own_S} (P : own_PS Z h n0 A K zr zc CA CK CL u) : A 1 < A 2 := by obtain ⟨g0, o0, o1, o2, o3, o4, o5, o6, o7, o8, o9, o10, o11, E, f1, f2, f3, f4, f5, f6, f7, f8, f9, f10, f11, f12, fse, fro, v1, v2, v3, v4, v5, v6, v7, v8, v9, v10, v11, v12, cc⟩ := P; exact o1
theorem own_PS_o2 {Z : State} {h : Heap} {n0 : Nat} {A : Nat → Nat} {K : Nat → ClassId} {zr zc : Int32} {CA : Nat → Nat} {CK : Nat → ClassId} {CL : List (List Int32)} {u : own_S} (P : own_PS Z h n0 A K zr zc CA CK CL u) : A 2 < A 3 := by obtain ⟨g0, o0, o1, o2, o3, o4, o5, o6, o7, o8, o9, o10, o11, E, f1, f2, f3, f4, f5, f6, f7, f8, f9, f10, f11, f12, fse, fro, v1, v2, v3, v4, v5, v6, v7, v8, v9, v10, v11, v12, cc⟩ := P; exact o2
theorem own_PS_o3 {Z : State} {h : Heap} {n0 : Nat} {A : Nat → Nat} {K : Nat → ClassId} {zr zc : Int32} {CA : Nat → Nat} {CK : Nat → ClassId} {CL : List (List Int32)} {u : own_S} (P : own_PS Z h n0 A K zr zc CA CK CL u) : A 3 < A 4 := by obtain ⟨g0, o0, o1, o2, o3, o4, o5, o6, o7, o8, o9, o10, o11, E, f1, f2, f3, f4, f5, f6, f7, f8, f9, f10, f11, f12, fse, fro, v1, v2, v3, v4, v5, v6, v7, v8, v9, v10, v11, v12, cc⟩ := P; exact o3
theorem own_PS_o4 {Z : State} {h : Heap} {n0 : Nat} {A : Nat → Nat} {K : Nat → ClassId} {zr zc : Int32} {CA : Nat → Nat} {CK : Nat → ClassId} {CL : List (List Int32)} {u : own_S} (P : own_PS Z h n0 A K zr zc CA CK CL u) : A 4 < A 5 := by obtain ⟨g0, o0, o1, o2, o3, o4, o5, o6, o7, o8, o9, o10, o11, E, f1, f2, f3, f4, f5, f6, f7, f8, f9, f10, f11, f12, fse, fro, v1, v2, v3, v4, v5, v6, v7, v8, v9, v10, v11, v12, cc⟩ := P; exact o4
theorem own_PS_o5 {Z : State} {h : Heap} {n0 : Nat} {A : Nat → Nat} {K : Nat → ClassId} {zr zc : Int32} {CA : Nat → Nat} {CK : Nat → ClassId} {CL : List (List Int32)} {u : own_S} (P : own_PS Z h n0 A K zr zc CA CK CL u) : A 5 < A 6 := by obtain ⟨g0, o0, o1, o2, o3, o4, o5, o6, o7, o8, o9, o10, o11, E, f1, f2, f3, f4, f5, f6, f7, f8, f9, f10, f11, f12, fse, fro, v1, v2, v3, v4, v5, v6, v7, v8, v9, v10, v11, v12, cc⟩ := P; exact o5
theorem own_PS_o6 {Z : State} {h : Heap} {n0 : Nat} {A : Nat → Nat} {K : Nat → ClassId} {zr zc : Int32} {CA : Nat → Nat} {CK : Nat → ClassId} {CL : List (List Int32)} {u : own_S} (P : own_PS Z h n0 A K zr zc CA CK CL u) : A 6 < A 7 := by obtain ⟨g0, o0, o1, o2, o3, o4, o5, o6, o7, o8, o9, o10, o11, E, f1, f2, f3, f4, f5, f6, f7, f8, f9, f10, f11, f12, fse, fro, v1, v2, v3, v4, v5, v6, v7, v8, v9, v10, v11, v12, cc⟩ := P; exact o6
theorem own_PS_o7 {Z : State} {h : Heap} {n0 : Nat} {A : Nat → Nat} {K : Nat → ClassId} {zr zc : Int32} {CA : Nat → Nat} {CK : Nat → ClassId} {CL : List (List Int32)} {u : own_S} (P : own_PS Z h n0 A K zr zc CA CK CL u) : A 7 < A 8 := by obtain ⟨g0, o0, o1, o2, o3, o4, o5, o6, o7, o8, o9, o10, o11, E, f1, f2, f3, f4, f5, f6, f7, f8, f9, f10, f11, f12, fse, fro, v1, v2, v3, v4, v5, v6, v7, v8, v9, v10, v11, v12, cc⟩ := P; exact o7
theorem own_PS_o8 {Z : State} {h : Heap} {n0 : Nat} {A : Nat → Nat} {K : Nat → ClassId} {zr zc : Int32} {CA : Nat → Nat} {CK : Nat → ClassId} {CL : List (List Int32)} {u : own_S} (P : own_PS Z h n0 A K zr zc CA CK CL u) : A 8 < A 9 := by obtain ⟨g0, o0, o1, o2, o3, o4, o5, o6, o7, o8, o9, o10, o11, E, f1, f2, f3, f4, f5, f6, f7, f8, f9, f10, f11, f12, fse, fro, v1, v2, v3, v4, v5, v6, v7, v8, v9, v10, v11, v12, cc⟩ := P; exact o8
theorem own_PS_o9 {Z : State} {h : Heap} {n0 : Nat} {A : Nat → Nat} {K : Nat → ClassId} {zr zc : Int32} {CA : Nat → Nat} {CK : Nat → ClassId} {CL : List (List Int32)} {u : own_S} (P : own_PS Z h n0 A K zr zc CA CK CL u) : A 9 < A 10 := by obtain ⟨g0, o0, o1, o2, o3, o4, o5, o6, o7, o8, o9, o10, o11, E, f1, f2, f3, f4, f5, f6, f7, f8, f9, f10, f11, f12, fse, fro, v1, v2, v3, v4, v5, v6, v7, v8, v9, v10, v11, v12, cc⟩ := P; exact o9
theorem own_PS_o10 {Z : State} {h : Heap} {n0 : Nat} {A : Nat → Nat} {K : Nat → ClassId} {zr zc : Int32} {CA : Nat → Nat} {CK : Nat → ClassId} {CL : List (List Int32)} {u : own_S} (P : own_PS Z h n0 A K zr zc CA CK CL u) : A 10 < A 11 := by obtain ⟨g0, o0, o1, o2, o3, o4, o5, o6, o7, o8, o9, o10, o11, E, f1, f2, f3, f4, f5, f6, f7, f8, f9, f10, f11, f12, fse, fro, v1, v2, v3, v4, v5, v6, v7, v8, v9, v10, v11, v12, cc⟩ := P; exact o10
theorem own_PS_o11 {Z : State} {h : Heap} {n0 : Nat} {A : Nat → Nat} {K : Nat → ClassId} {zr zc : Int32} {CA : Nat → Nat} {CK : Nat → ClassId} {CL : List (List Int32)} {u : own_S} (P : own_PS Z h n0 A K zr zc CA CK CL u) : A 11 < A 12 := by obtain ⟨g0, o0, o1, o2, o3, o4, o5, o6, o7, o8, o9, o10, o11, E, f1, f2, f3, f4, f5, f6, f7, f8, f9, f10, f11, f12, fse, fro, v1, v2, v3, v4, v5, v6, v7, v8, v9, v10, v11, v12, cc⟩ := P; exact o11
theorem own_PS_E {Z : State} {h : Heap} {n0 : Nat} {A : Nat → Nat} {K : Nat → ClassId} {zr zc : Int32} {CA : Nat → Nat} {CK : Nat → ClassId} {CL : List (List Int32)} {u : own_S} (P : own_PS Z h n0 A K zr zc CA CK CL u) : Exa Z h (A 0) "com/example/document_pattern_rules/documentpatternrules/pattern/Pairing" := by obtain ⟨g0, o0, o1, o2, o3, o4, o5, o6, o7, o8, o9, o10, o11, E, f1, f2, f3, f4, f5, f6, f7, f8, f9, f10, f11, f12, fse, fro, v1, v2, v3, v4, v5, v6, v7, v8, v9, v10, v11, v12, cc⟩ := P; exact E
theorem own_PS_f1 {Z : State} {h : Heap} {n0 : Nat} {A : Nat → Nat} {K : Nat → ClassId} {zr zc : Int32} {CA : Nat → Nat} {CK : Nat → ClassId} {CL : List (List Int32)} {u : own_S} (P : own_PS Z h n0 A K zr zc CA CK CL u) : Fld Z h (A 0) "com/example/document_pattern_rules/documentpatternrules/pattern/Pairing" "fits" "[[I" (.ref (A 1)) := by obtain ⟨g0, o0, o1, o2, o3, o4, o5, o6, o7, o8, o9, o10, o11, E, f1, f2, f3, f4, f5, f6, f7, f8, f9, f10, f11, f12, fse, fro, v1, v2, v3, v4, v5, v6, v7, v8, v9, v10, v11, v12, cc⟩ := P; exact f1
theorem own_PS_f2 {Z : State} {h : Heap} {n0 : Nat} {A : Nat → Nat} {K : Nat → ClassId} {zr zc : Int32} {CA : Nat → Nat} {CK : Nat → ClassId} {CL : List (List Int32)} {u : own_S} (P : own_PS Z h n0 A K zr zc CA CK CL u) : Fld Z h (A 0) "com/example/document_pattern_rules/documentpatternrules/pattern/Pairing" "kind" "[I" (.ref (A 2)) := by obtain ⟨g0, o0, o1, o2, o3, o4, o5, o6, o7, o8, o9, o10, o11, E, f1, f2, f3, f4, f5, f6, f7, f8, f9, f10, f11, f12, fse, fro, v1, v2, v3, v4, v5, v6, v7, v8, v9, v10, v11, v12, cc⟩ := P; exact f2
theorem own_PS_f3 {Z : State} {h : Heap} {n0 : Nat} {A : Nat → Nat} {K : Nat → ClassId} {zr zc : Int32} {CA : Nat → Nat} {CK : Nat → ClassId} {CL : List (List Int32)} {u : own_S} (P : own_PS Z h n0 A K zr zc CA CK CL u) : Fld Z h (A 0) "com/example/document_pattern_rules/documentpatternrules/pattern/Pairing" "partner" "[I" (.ref (A 3)) := by obtain ⟨g0, o0, o1, o2, o3, o4, o5, o6, o7, o8, o9, o10, o11, E, f1, f2, f3, f4, f5, f6, f7, f8, f9, f10, f11, f12, fse, fro, v1, v2, v3, v4, v5, v6, v7, v8, v9, v10, v11, v12, cc⟩ := P; exact f3
theorem own_PS_f4 {Z : State} {h : Heap} {n0 : Nat} {A : Nat → Nat} {K : Nat → ClassId} {zr zc : Int32} {CA : Nat → Nat} {CK : Nat → ClassId} {CL : List (List Int32)} {u : own_S} (P : own_PS Z h n0 A K zr zc CA CK CL u) : Fld Z h (A 0) "com/example/document_pattern_rules/documentpatternrules/pattern/Pairing" "holder" "[I" (.ref (A 4)) := by obtain ⟨g0, o0, o1, o2, o3, o4, o5, o6, o7, o8, o9, o10, o11, E, f1, f2, f3, f4, f5, f6, f7, f8, f9, f10, f11, f12, fse, fro, v1, v2, v3, v4, v5, v6, v7, v8, v9, v10, v11, v12, cc⟩ := P; exact f4
theorem own_PS_f5 {Z : State} {h : Heap} {n0 : Nat} {A : Nat → Nat} {K : Nat → ClassId} {zr zc : Int32} {CA : Nat → Nat} {CK : Nat → ClassId} {CL : List (List Int32)} {u : own_S} (P : own_PS Z h n0 A K zr zc CA CK CL u) : Fld Z h (A 0) "com/example/document_pattern_rules/documentpatternrules/pattern/Pairing" "fixed" "[Z" (.ref (A 5)) := by obtain ⟨g0, o0, o1, o2, o3, o4, o5, o6, o7, o8, o9, o10, o11, E, f1, f2, f3, f4, f5, f6, f7, f8, f9, f10, f11, f12, fse, fro, v1, v2, v3, v4, v5, v6, v7, v8, v9, v10, v11, v12, cc⟩ := P; exact f5
theorem own_PS_f6 {Z : State} {h : Heap} {n0 : Nat} {A : Nat → Nat} {K : Nat → ClassId} {zr zc : Int32} {CA : Nat → Nat} {CK : Nat → ClassId} {CL : List (List Int32)} {u : own_S} (P : own_PS Z h n0 A K zr zc CA CK CL u) : Fld Z h (A 0) "com/example/document_pattern_rules/documentpatternrules/pattern/Pairing" "visited" "[J" (.ref (A 6)) := by obtain ⟨g0, o0, o1, o2, o3, o4, o5, o6, o7, o8, o9, o10, o11, E, f1, f2, f3, f4, f5, f6, f7, f8, f9, f10, f11, f12, fse, fro, v1, v2, v3, v4, v5, v6, v7, v8, v9, v10, v11, v12, cc⟩ := P; exact f6
theorem own_PS_f7 {Z : State} {h : Heap} {n0 : Nat} {A : Nat → Nat} {K : Nat → ClassId} {zr zc : Int32} {CA : Nat → Nat} {CK : Nat → ClassId} {CL : List (List Int32)} {u : own_S} (P : own_PS Z h n0 A K zr zc CA CK CL u) : Fld Z h (A 0) "com/example/document_pattern_rules/documentpatternrules/pattern/Pairing" "path" "[I" (.ref (A 7)) := by obtain ⟨g0, o0, o1, o2, o3, o4, o5, o6, o7, o8, o9, o10, o11, E, f1, f2, f3, f4, f5, f6, f7, f8, f9, f10, f11, f12, fse, fro, v1, v2, v3, v4, v5, v6, v7, v8, v9, v10, v11, v12, cc⟩ := P; exact f7
theorem own_PS_f8 {Z : State} {h : Heap} {n0 : Nat} {A : Nat → Nat} {K : Nat → ClassId} {zr zc : Int32} {CA : Nat → Nat} {CK : Nat → ClassId} {CL : List (List Int32)} {u : own_S} (P : own_PS Z h n0 A K zr zc CA CK CL u) : Fld Z h (A 0) "com/example/document_pattern_rules/documentpatternrules/pattern/Pairing" "via" "[I" (.ref (A 8)) := by obtain ⟨g0, o0, o1, o2, o3, o4, o5, o6, o7, o8, o9, o10, o11, E, f1, f2, f3, f4, f5, f6, f7, f8, f9, f10, f11, f12, fse, fro, v1, v2, v3, v4, v5, v6, v7, v8, v9, v10, v11, v12, cc⟩ := P; exact f8
theorem own_PS_f9 {Z : State} {h : Heap} {n0 : Nat} {A : Nat → Nat} {K : Nat → ClassId} {zr zc : Int32} {CA : Nat → Nat} {CK : Nat → ClassId} {CL : List (List Int32)} {u : own_S} (P : own_PS Z h n0 A K zr zc CA CK CL u) : Fld Z h (A 0) "com/example/document_pattern_rules/documentpatternrules/pattern/Pairing" "ownFrom" "[I" (.ref (A 9)) := by obtain ⟨g0, o0, o1, o2, o3, o4, o5, o6, o7, o8, o9, o10, o11, E, f1, f2, f3, f4, f5, f6, f7, f8, f9, f10, f11, f12, fse, fro, v1, v2, v3, v4, v5, v6, v7, v8, v9, v10, v11, v12, cc⟩ := P; exact f9
theorem own_PS_f10 {Z : State} {h : Heap} {n0 : Nat} {A : Nat → Nat} {K : Nat → ClassId} {zr zc : Int32} {CA : Nat → Nat} {CK : Nat → ClassId} {CL : List (List Int32)} {u : own_S} (P : own_PS Z h n0 A K zr zc CA CK CL u) : Fld Z h (A 0) "com/example/document_pattern_rules/documentpatternrules/pattern/Pairing" "scanned" "[J" (.ref (A 10)) := by obtain ⟨g0, o0, o1, o2, o3, o4, o5, o6, o7, o8, o9, o10, o11, E, f1, f2, f3, f4, f5, f6, f7, f8, f9, f10, f11, f12, fse, fro, v1, v2, v3, v4, v5, v6, v7, v8, v9, v10, v11, v12, cc⟩ := P; exact f10
theorem own_PS_f11 {Z : State} {h : Heap} {n0 : Nat} {A : Nat → Nat} {K : Nat → ClassId} {zr zc : Int32} {CA : Nat → Nat} {CK : Nat → ClassId} {CL : List (List Int32)} {u : own_S} (P : own_PS Z h n0 A K zr zc CA CK CL u) : Fld Z h (A 0) "com/example/document_pattern_rules/documentpatternrules/pattern/Pairing" "next" "[I" (.ref (A 11)) := by obtain ⟨g0, o0, o1, o2, o3, o4, o5, o6, o7, o8, o9, o10, o11, E, f1, f2, f3, f4, f5, f6, f7, f8, f9, f10, f11, f12, fse, fro, v1, v2, v3, v4, v5, v6, v7, v8, v9, v10, v11, v12, cc⟩ := P; exact f11
theorem own_PS_f12 {Z : State} {h : Heap} {n0 : Nat} {A : Nat → Nat} {K : Nat → ClassId} {zr zc : Int32} {CA : Nat → Nat} {CK : Nat → ClassId} {CL : List (List Int32)} {u : own_S} (P : own_PS Z h n0 A K zr zc CA CK CL u) : Fld Z h (A 0) "com/example/document_pattern_rules/documentpatternrules/pattern/Pairing" "fixedFrom" "[I" (.ref (A 12)) := by obtain ⟨g0, o0, o1, o2, o3, o4, o5, o6, o7, o8, o9, o10, o11, E, f1, f2, f3, f4, f5, f6, f7, f8, f9, f10, f11, f12, fse, fro, v1, v2, v3, v4, v5, v6, v7, v8, v9, v10, v11, v12, cc⟩ := P; exact f12
theorem own_PS_fse {Z : State} {h : Heap} {n0 : Nat} {A : Nat → Nat} {K : Nat → ClassId} {zr zc : Int32} {CA : Nat → Nat} {CK : Nat → ClassId} {CL : List (List Int32)} {u : own_S} (P : own_PS Z h n0 A K zr zc CA CK CL u) : Fld Z h (A 0) "com/example/document_pattern_rules/documentpatternrules/pattern/Pairing" "searches" "J" (.long (own_se u)) := by obtain ⟨g0, o0, o1, o2, o3, o4, o5, o6, o7, o8, o9, o10, o11, E, f1, f2, f3, f4, f5, f6, f7, f8, f9, f10, f11, f12, fse, fro, v1, v2, v3, v4, v5, v6, v7, v8, v9, v10, v11, v12, cc⟩ := P; exact fse
theorem own_PS_fro {Z : State} {h : Heap} {n0 : Nat} {A : Nat → Nat} {K : Nat → ClassId} {zr zc : Int32} {CA : Nat → Nat} {CK : Nat → ClassId} {CL : List (List Int32)} {u : own_S} (P : own_PS Z h n0 A K zr zc CA CK CL u) : Fld Z h (A 0) "com/example/document_pattern_rules/documentpatternrules/pattern/Pairing" "rows" "I" (.int (own_ro u)) := by obtain ⟨g0, o0, o1, o2, o3, o4, o5, o6, o7, o8, o9, o10, o11, E, f1, f2, f3, f4, f5, f6, f7, f8, f9, f10, f11, f12, fse, fro, v1, v2, v3, v4, v5, v6, v7, v8, v9, v10, v11, v12, cc⟩ := P; exact fro
theorem own_PS_v1 {Z : State} {h : Heap} {n0 : Nat} {A : Nat → Nat} {K : Nat → ClassId} {zr zc : Int32} {CA : Nat → Nat} {CK : Nat → ClassId} {CL : List (List Int32)} {u : own_S} (P : own_PS Z h n0 A K zr zc CA CK CL u) : own_FA Z h (A 1) (K 1) zr CA (own_F u) := by obtain ⟨g0, o0, o1, o2, o3, o4, o5, o6, o7, o8, o9, o10, o11, E, f1, f2, f3, f4, f5, f6, f7, f8, f9, f10, f11, f12, fse, fro, v1, v2, v3, v4, v5, v6, v7, v8, v9, v10, v11, v12, cc⟩ := P; exact v1
theorem own_PS_v2 {Z : State} {h : Heap} {n0 : Nat} {A : Nat → Nat} {K : Nat → ClassId} {zr zc : Int32} {CA : Nat → Nat} {CK : Nat → ClassId} {CL : List (List Int32)} {u : own_S} (P : own_PS Z h n0 A K zr zc CA CK CL u) : own_IA Z h (A 2) (K 2) .int zr (own_ki u) := by obtain ⟨g0, o0, o1, o2, o3, o4, o5, o6, o7, o8, o9, o10, o11, E, f1, f2, f3, f4, f5, f6, f7, f8, f9, f10, f11, f12, fse, fro, v1, v2, v3, v4, v5, v6, v7, v8, v9, v10, v11, v12, cc⟩ := P; exact v2
theorem own_PS_v3 {Z : State} {h : Heap} {n0 : Nat} {A : Nat → Nat} {K : Nat → ClassId} {zr zc : Int32} {CA : Nat → Nat} {CK : Nat → ClassId} {CL : List (List Int32)} {u : own_S} (P : own_PS Z h n0 A K zr zc CA CK CL u) : own_IA Z h (A 3) (K 3) .int zr (own_pa u) := by obtain ⟨g0, o0, o1, o2, o3, o4, o5, o6, o7, o8, o9, o10, o11, E, f1, f2, f3, f4, f5, f6, f7, f8, f9, f10, f11, f12, fse, fro, v1, v2, v3, v4, v5, v6, v7, v8, v9, v10, v11, v12, cc⟩ := P; exact v3
theorem own_PS_v4 {Z : State} {h : Heap} {n0 : Nat} {A : Nat → Nat} {K : Nat → ClassId} {zr zc : Int32} {CA : Nat → Nat} {CK : Nat → ClassId} {CL : List (List Int32)} {u : own_S} (P : own_PS Z h n0 A K zr zc CA CK CL u) : own_IA Z h (A 4) (K 4) .int zc (own_ho u) := by obtain ⟨g0, o0, o1, o2, o3, o4, o5, o6, o7, o8, o9, o10, o11, E, f1, f2, f3, f4, f5, f6, f7, f8, f9, f10, f11, f12, fse, fro, v1, v2, v3, v4, v5, v6, v7, v8, v9, v10, v11, v12, cc⟩ := P; exact v4
theorem own_PS_v5 {Z : State} {h : Heap} {n0 : Nat} {A : Nat → Nat} {K : Nat → ClassId} {zr zc : Int32} {CA : Nat → Nat} {CK : Nat → ClassId} {CL : List (List Int32)} {u : own_S} (P : own_PS Z h n0 A K zr zc CA CK CL u) : own_IA Z h (A 5) (K 5) .boolean zr (own_fi u) := by obtain ⟨g0, o0, o1, o2, o3, o4, o5, o6, o7, o8, o9, o10, o11, E, f1, f2, f3, f4, f5, f6, f7, f8, f9, f10, f11, f12, fse, fro, v1, v2, v3, v4, v5, v6, v7, v8, v9, v10, v11, v12, cc⟩ := P; exact v5
theorem own_PS_v6 {Z : State} {h : Heap} {n0 : Nat} {A : Nat → Nat} {K : Nat → ClassId} {zr zc : Int32} {CA : Nat → Nat} {CK : Nat → ClassId} {CL : List (List Int32)} {u : own_S} (P : own_PS Z h n0 A K zr zc CA CK CL u) : own_JA Z h (A 6) (K 6) zc (own_vi u) := by obtain ⟨g0, o0, o1, o2, o3, o4, o5, o6, o7, o8, o9, o10, o11, E, f1, f2, f3, f4, f5, f6, f7, f8, f9, f10, f11, f12, fse, fro, v1, v2, v3, v4, v5, v6, v7, v8, v9, v10, v11, v12, cc⟩ := P; exact v6
theorem own_PS_v7 {Z : State} {h : Heap} {n0 : Nat} {A : Nat → Nat} {K : Nat → ClassId} {zr zc : Int32} {CA : Nat → Nat} {CK : Nat → ClassId} {CL : List (List Int32)} {u : own_S} (P : own_PS Z h n0 A K zr zc CA CK CL u) : own_IA Z h (A 7) (K 7) .int zr (own_pt u) := by obtain ⟨g0, o0, o1, o2, o3, o4, o5, o6, o7, o8, o9, o10, o11, E, f1, f2, f3, f4, f5, f6, f7, f8, f9, f10, f11, f12, fse, fro, v1, v2, v3, v4, v5, v6, v7, v8, v9, v10, v11, v12, cc⟩ := P; exact v7
theorem own_PS_v8 {Z : State} {h : Heap} {n0 : Nat} {A : Nat → Nat} {K : Nat → ClassId} {zr zc : Int32} {CA : Nat → Nat} {CK : Nat → ClassId} {CL : List (List Int32)} {u : own_S} (P : own_PS Z h n0 A K zr zc CA CK CL u) : own_IA Z h (A 8) (K 8) .int zr (own_va u) := by obtain ⟨g0, o0, o1, o2, o3, o4, o5, o6, o7, o8, o9, o10, o11, E, f1, f2, f3, f4, f5, f6, f7, f8, f9, f10, f11, f12, fse, fro, v1, v2, v3, v4, v5, v6, v7, v8, v9, v10, v11, v12, cc⟩ := P; exact v8
theorem own_PS_v9 {Z : State} {h : Heap} {n0 : Nat} {A : Nat → Nat} {K : Nat → ClassId} {zr zc : Int32} {CA : Nat → Nat} {CK : Nat → ClassId} {CL : List (List Int32)} {u : own_S} (P : own_PS Z h n0 A K zr zc CA CK CL u) : own_IA Z h (A 9) (K 9) .int zr (own_ow u) := by obtain ⟨g0, o0, o1, o2, o3, o4, o5, o6, o7, o8, o9, o10, o11, E, f1, f2, f3, f4, f5, f6, f7, f8, f9, f10, f11, f12, fse, fro, v1, v2, v3, v4, v5, v6, v7, v8, v9, v10, v11, v12, cc⟩ := P; exact v9
theorem own_PS_v10 {Z : State} {h : Heap} {n0 : Nat} {A : Nat → Nat} {K : Nat → ClassId} {zr zc : Int32} {CA : Nat → Nat} {CK : Nat → ClassId} {CL : List (List Int32)} {u : own_S} (P : own_PS Z h n0 A K zr zc CA CK CL u) : own_JA Z h (A 10) (K 10) zr (own_sc u) := by obtain ⟨g0, o0, o1, o2, o3, o4, o5, o6, o7, o8, o9, o10, o11, E, f1, f2, f3, f4, f5, f6, f7, f8, f9, f10, f11, f12, fse, fro, v1, v2, v3, v4, v5, v6, v7, v8, v9, v10, v11, v12, cc⟩ := P; exact v10
theorem own_PS_v11 {Z : State} {h : Heap} {n0 : Nat} {A : Nat → Nat} {K : Nat → ClassId} {zr zc : Int32} {CA : Nat → Nat} {CK : Nat → ClassId} {CL : List (List Int32)} {u : own_S} (P : own_PS Z h n0 A K zr zc CA CK CL u) : own_IA Z h (A 11) (K 11) .int zr (own_nx u) := by obtain ⟨g0, o0, o1, o2, o3, o4, o5, o6, o7, o8, o9, o10, o11, E, f1, f2, f3, f4, f5, f6, f7, f8, f9, f10, f11, f12, fse, fro, v1, v2, v3, v4, v5, v6, v7, v8, v9, v10, v11, v12, cc⟩ := P; exact v11
theorem own_PS_v12 {Z : State} {h : Heap} {n0 : Nat} {A : Nat → Nat} {K : Nat → ClassId} {zr zc : Int32} {CA : Nat → Nat} {CK : Nat → ClassId} {CL : List (List Int32)} {u : own_S} (P : own_PS Z h n0 A K zr zc CA CK CL u) : own_IA Z h (A 12) (K 12) .int zr (own_ff u) := by obtain ⟨g0, o0, o1, o2, o3, o4, o5, o6, o7, o8, o9, o10, o11, E, f1, f2, f3, f4, f5, f6, f7, f8, f9, f10, f11, f12, fse, fro, v1, v2, v3, v4, v5, v6, v7, v8, v9, v10, v11, v12, cc⟩ := P; exact v12
theorem own_PS_cc {Z : State} {h : Heap} {n0 : Nat} {A : Nat → Nat} {K : Nat → ClassId} {zr zc : Int32} {CA : Nat → Nat} {CK : Nat → ClassId} {CL : List (List Int32)} {u : own_S} (P : own_PS Z h n0 A K zr zc CA CK CL u) : ∀ i L, CL[i]? = some L → own_IA Z h (CA i) (CK i) .int (Int32.ofNat L.length) L ∧ Exa Z h (CA i) "[I" ∧ CA i < A 0 := by obtain ⟨g0, o0, o1, o2, o3, o4, o5, o6, o7, o8, o9, o10, o11, E, f1, f2, f3, f4, f5, f6, f7, f8, f9, f10, f11, f12, fse, fro, v1, v2, v3, v4, v5, v6, v7, v8, v9, v10, v11, v12, cc⟩ := P; exact cc
theorem own_PS_gn {Z : State} {h : Heap} {n0 : Nat} {A : Nat → Nat} {K : Nat → ClassId} {zr zc : Int32} {CA : Nat → Nat} {CK : Nat → ClassId} {CL : List (List Int32)} {u : own_S} (P : own_PS Z h n0 A K zr zc CA CK CL u) : n0 ≤ A 0 ∧ n0 ≤ A 1 ∧ n0 ≤ A 2 ∧ n0 ≤ A 3 ∧ n0 ≤ A 4 ∧ n0 ≤ A 5 ∧ n0 ≤ A 6 ∧ n0 ≤ A 7 ∧ n0 ≤ A 8 ∧ n0 ≤ A 9 ∧ n0 ≤ A 10 ∧ n0 ≤ A 11 ∧ n0 ≤ A 12 := by obtain ⟨g0, o0, o1, o2, o3, o4, o5, o6, o7, o8, o9, o10, o11, E, f1, f2, f3, f4, f5, f6, f7, f8, f9, f10, f11, f12, fse, fro, v1, v2, v3, v4, v5, v6, v7, v8, v9, v10, v11, v12, cc⟩ := P; omega
theorem own_w_F {Z : State} {h : Heap} {n0 : Nat} {A : Nat → Nat} {K : Nat → ClassId} {zr zc : Int32} {CA : Nat → Nat} {CK : Nat → ClassId} {CL : List (List Int32)} {u : own_S} (P : own_PS Z h n0 A K zr zc CA CK CL u) {h' : Heap} {sl : Nat} {v : Value} {z : List (Option Nat)} (W : Wr h h' (A 1) sl v) (V : own_FA Z h' (A 1) (K 1) zr CA z) : own_PS Z h' n0 A K zr zc CA CK CL (own_F_set u z) := by
  obtain ⟨g0, o0, o1, o2, o3, o4, o5, o6, o7, o8, o9, o10, o11, E, f1, f2, f3, f4, f5, f6, f7, f8, f9, f10, f11, f12, fse, fro, v1, v2, v3, v4, v5, v6, v7, v8, v9, v10, v11, v12, cc⟩ := P
  exact ⟨g0, o0, o1, o2, o3, o4, o5, o6, o7, o8, o9, o10, o11, E.wr W, f1.other W (Or.inl (Nat.ne_of_lt (by omega))), f2.other W (Or.inl (Nat.ne_of_lt (by omega))), f3.other W (Or.inl (Nat.ne_of_lt (by omega))), f4.other W (Or.inl (Nat.ne_of_lt (by omega))), f5.other W (Or.inl (Nat.ne_of_lt (by omega))), f6.other W (Or.inl (Nat.ne_of_lt (by omega))), f7.other W (Or.inl (Nat.ne_of_lt (by omega))), f8.other W (Or.inl (Nat.ne_of_lt (by omega))), f9.other W (Or.inl (Nat.ne_of_lt (by omega))), f10.other W (Or.inl (Nat.ne_of_lt (by omega))), f11.other W (Or.inl (Nat.ne_of_lt (by omega))), f12.other W (Or.inl (Nat.ne_of_lt (by omega))), fse.other W (Or.inl (Nat.ne_of_lt (by omega))), fro.other W (Or.inl (Nat.ne_of_lt (by omega))), V, v2.other W (Nat.ne_of_gt (by omega)), v3.other W (Nat.ne_of_gt (by omega)), v4.other W (Nat.ne_of_gt (by omega)), v5.other W (Nat.ne_of_gt (by omega)), v6.other W (Nat.ne_of_gt (by omega)), v7.other W (Nat.ne_of_gt (by omega)), v8.other W (Nat.ne_of_gt (by omega)), v9.other W (Nat.ne_of_gt (by omega)), v10.other W (Nat.ne_of_gt (by omega)), v11.other W (Nat.ne_of_gt (by omega)), v12.other W (Nat.ne_of_gt (by omega)), fun i L hi => by obtain ⟨x1, x2, x3⟩ := cc i L hi; exact ⟨x1.other W (Nat.ne_of_lt (by omega)), x2.wr W, x3⟩⟩
theorem own_w_ki {Z : State} {h : Heap} {n0 : Nat} {A : Nat → Nat} {K : Nat → ClassId} {zr zc : Int32} {CA : Nat → Nat} {CK : Nat → ClassId} {CL : List (List Int32)} {u : own_S} (P : own_PS Z h n0 A K zr zc CA CK CL u) {h' : Heap} {sl : Nat} {v : Value} {z : List Int32} (W : Wr h h' (A 2) sl v) (V : own_IA Z h' (A 2) (K 2) .int zr z) : own_PS Z h' n0 A K zr zc CA CK CL (own_ki_set u z) := by
  obtain ⟨g0, o0, o1, o2, o3, o4, o5, o6, o7, o8, o9, o10, o11, E, f1, f2, f3, f4, f5, f6, f7, f8, f9, f10, f11, f12, fse, fro, v1, v2, v3, v4, v5, v6, v7, v8, v9, v10, v11, v12, cc⟩ := P
  exact ⟨g0, o0, o1, o2, o3, o4, o5, o6, o7, o8, o9, o10, o11, E.wr W, f1.other W (Or.inl (Nat.ne_of_lt (by omega))), f2.other W (Or.inl (Nat.ne_of_lt (by omega))), f3.other W (Or.inl (Nat.ne_of_lt (by omega))), f4.other W (Or.inl (Nat.ne_of_lt (by omega))), f5.other W (Or.inl (Nat.ne_of_lt (by omega))), f6.other W (Or.inl (Nat.ne_of_lt (by omega))), f7.other W (Or.inl (Nat.ne_of_lt (by omega))), f8.other W (Or.inl (Nat.ne_of_lt (by omega))), f9.other W (Or.inl (Nat.ne_of_lt (by omega))), f10.other W (Or.inl (Nat.ne_of_lt (by omega))), f11.other W (Or.inl (Nat.ne_of_lt (by omega))), f12.other W (Or.inl (Nat.ne_of_lt (by omega))), fse.other W (Or.inl (Nat.ne_of_lt (by omega))), fro.other W (Or.inl (Nat.ne_of_lt (by omega))), v1.other W (Nat.ne_of_lt (by omega)), V, v3.other W (Nat.ne_of_gt (by omega)), v4.other W (Nat.ne_of_gt (by omega)), v5.other W (Nat.ne_of_gt (by omega)), v6.other W (Nat.ne_of_gt (by omega)), v7.other W (Nat.ne_of_gt (by omega)), v8.other W (Nat.ne_of_gt (by omega)), v9.other W (Nat.ne_of_gt (by omega)), v10.other W (Nat.ne_of_gt (by omega)), v11.other W (Nat.ne_of_gt (by omega)), v12.other W (Nat.ne_of_gt (by omega)), fun i L hi => by obtain ⟨x1, x2, x3⟩ := cc i L hi; exact ⟨x1.other W (Nat.ne_of_lt (by omega)), x2.wr W, x3⟩⟩
theorem own_w_pa {Z : State} {h : Heap} {n0 : Nat} {A : Nat → Nat} {K : Nat → ClassId} {zr zc : Int32} {CA : Nat → Nat} {CK : Nat → ClassId} {CL : List (List Int32)} {u : own_S} (P : own_PS Z h n0 A K zr zc CA CK CL u) {h' : Heap} {sl : Nat} {v : Value} {z : List Int32} (W : Wr h h' (A 3) sl v) (V : own_IA Z h' (A 3) (K 3) .int zr z) : own_PS Z h' n0 A K zr zc CA CK CL (own_pa_set u z) := by
  obtain ⟨g0, o0, o1, o2, o3, o4, o5, o6, o7, o8, o9, o10, o11, E, f1, f2, f3, f4, f5, f6, f7, f8, f9, f10, f11, f12, fse, fro, v1, v2, v3, v4, v5, v6, v7, v8, v9, v10, v11, v12, cc⟩ := P
  exact ⟨g0, o0, o1, o2, o3, o4, o5, o6, o7, o8, o9, o10, o11, E.wr W, f1.other W (Or.inl (Nat.ne_of_lt (by omega))), f2.other W (Or.inl (Nat.ne_of_lt (by omega))), f3.other W (Or.inl (Nat.ne_of_lt (by omega))), f4.other W (Or.inl (Nat.ne_of_lt (by omega))), f5.other W (Or.inl (Nat.ne_of_lt (by omega))), f6.other W (Or.inl (Nat.ne_of_lt (by omega))), f7.other W (Or.inl (Nat.ne_of_lt (by omega))), f8.other W (Or.inl (Nat.ne_of_lt (by omega))), f9.other W (Or.inl (Nat.ne_of_lt (by omega))), f10.other W (Or.inl (Nat.ne_of_lt (by omega))), f11.other W (Or.inl (Nat.ne_of_lt (by omega))), f12.other W (Or.inl (Nat.ne_of_lt (by omega))), fse.other W (Or.inl (Nat.ne_of_lt (by omega))), fro.other W (Or.inl (Nat.ne_of_lt (by omega))), v1.other W (Nat.ne_of_lt (by omega)), v2.other W (Nat.ne_of_lt (by omega)), V, v4.other W (Nat.ne_of_gt (by omega)), v5.other W (Nat.ne_of_gt (by omega)), v6.other W (Nat.ne_of_gt (by omega)), v7.other W (Nat.ne_of_gt (by omega)), v8.other W (Nat.ne_of_gt (by omega)), v9.other W (Nat.ne_of_gt (by omega)), v10.other W (Nat.ne_of_gt (by omega)), v11.other W (Nat.ne_of_gt (by omega)), v12.other W (Nat.ne_of_gt (by omega)), fun i L hi => by obtain ⟨x1, x2, x3⟩ := cc i L hi; exact ⟨x1.other W (Nat.ne_of_lt (by omega)), x2.wr W, x3⟩⟩
theorem own_w_ho {Z : State} {h : Heap} {n0 : Nat} {A : Nat → Nat} {K : Nat → ClassId} {zr zc : Int32} {CA : Nat → Nat} {CK : Nat → ClassId} {CL : List (List Int32)} {u : own_S} (P : own_PS Z h n0 A K zr zc CA CK CL u) {h' : Heap} {sl : Nat} {v : Value} {z : List Int32} (W : Wr h h' (A 4) sl v) (V : own_IA Z h' (A 4) (K 4) .int zc z) : own_PS Z h' n0 A K zr zc CA CK CL (own_ho_set u z) := by
  obtain ⟨g0, o0, o1, o2, o3, o4, o5, o6, o7, o8, o9, o10, o11, E, f1, f2, f3, f4, f5, f6, f7, f8, f9, f10, f11, f12, fse, fro, v1, v2, v3, v4, v5, v6, v7, v8, v9, v10, v11, v12, cc⟩ := P
  exact ⟨g0, o0, o1, o2, o3, o4, o5, o6, o7, o8, o9, o10, o11, E.wr W, f1.other W (Or.inl (Nat.ne_of_lt (by omega))), f2.other W (Or.inl (Nat.ne_of_lt (by omega))), f3.other W (Or.inl (Nat.ne_of_lt (by omega))), f4.other W (Or.inl (Nat.ne_of_lt (by omega))), f5.other W (Or.inl (Nat.ne_of_lt (by omega))), f6.other W (Or.inl (Nat.ne_of_lt (by omega))), f7.other W (Or.inl (Nat.ne_of_lt (by omega))), f8.other W (Or.inl (Nat.ne_of_lt (by omega))), f9.other W (Or.inl (Nat.ne_of_lt (by omega))), f10.other W (Or.inl (Nat.ne_of_lt (by omega))), f11.other W (Or.inl (Nat.ne_of_lt (by omega))), f12.other W (Or.inl (Nat.ne_of_lt (by omega))), fse.other W (Or.inl (Nat.ne_of_lt (by omega))), fro.other W (Or.inl (Nat.ne_of_lt (by omega))), v1.other W (Nat.ne_of_lt (by omega)), v2.other W (Nat.ne_of_lt (by omega)), v3.other W (Nat.ne_of_lt (by omega)), V, v5.other W (Nat.ne_of_gt (by omega)), v6.other W (Nat.ne_of_gt (by omega)), v7.other W (Nat.ne_of_gt (by omega)), v8.other W (Nat.ne_of_gt (by omega)), v9.other W (Nat.ne_of_gt (by omega)), v10.other W (Nat.ne_of_gt (by omega)), v11.other W (Nat.ne_of_gt (by omega)), v12.other W (Nat.ne_of_gt (by omega)), fun i L hi => by obtain ⟨x1, x2, x3⟩ := cc i L hi; exact ⟨x1.other W (Nat.ne_of_lt (by omega)), x2.wr W, x3⟩⟩
theorem own_w_fi {Z : State} {h : Heap} {n0 : Nat} {A : Nat → Nat} {K : Nat → ClassId} {zr zc : Int32} {CA : Nat → Nat} {CK : Nat → ClassId} {CL : List (List Int32)} {u : own_S} (P : own_PS Z h n0 A K zr zc CA CK CL u) {h' : Heap} {sl : Nat} {v : Value} {z : List Int32} (W : Wr h h' (A 5) sl v) (V : own_IA Z h' (A 5) (K 5) .boolean zr z) : own_PS Z h' n0 A K zr zc CA CK CL (own_fi_set u z) := by
  obtain ⟨g0, o0, o1, o2, o3, o4, o5, o6, o7, o8, o9, o10, o11, E, f1, f2, f3, f4, f5, f6, f7, f8, f9, f10, f11, f12, fse, fro, v1, v2, v3, v4, v5, v6, v7, v8, v9, v10, v11, v12, cc⟩ := P
  exact ⟨g0, o0, o1, o2, o3, o4, o5, o6, o7, o8, o9, o10, o11, E.wr W, f1.other W (Or.inl (Nat.ne_of_lt (by omega))), f2.other W (Or.inl (Nat.ne_of_lt (by omega))), f3.other W (Or.inl (Nat.ne_of_lt (by omega))), f4.other W (Or.inl (Nat.ne_of_lt (by omega))), f5.other W (Or.inl (Nat.ne_of_lt (by omega))), f6.other W (Or.inl (Nat.ne_of_lt (by omega))), f7.other W (Or.inl (Nat.ne_of_lt (by omega))), f8.other W (Or.inl (Nat.ne_of_lt (by omega))), f9.other W (Or.inl (Nat.ne_of_lt (by omega))), f10.other W (Or.inl (Nat.ne_of_lt (by omega))), f11.other W (Or.inl (Nat.ne_of_lt (by omega))), f12.other W (Or.inl (Nat.ne_of_lt (by omega))), fse.other W (Or.inl (Nat.ne_of_lt (by omega))), fro.other W (Or.inl (Nat.ne_of_lt (by omega))), v1.other W (Nat.ne_of_lt (by omega)), v2.other W (Nat.ne_of_lt (by omega)), v3.other W (Nat.ne_of_lt (by omega)), v4.other W (Nat.ne_of_lt (by omega)), V, v6.other W (Nat.ne_of_gt (by omega)), v7.other W (Nat.ne_of_gt (by omega)), v8.other W (Nat.ne_of_gt (by omega)), v9.other W (Nat.ne_of_gt (by omega)), v10.other W (Nat.ne_of_gt (by omega)), v11.other W (Nat.ne_of_gt (by omega)), v12.other W (Nat.ne_of_gt (by omega)), fun i L hi => by obtain ⟨x1, x2, x3⟩ := cc i L hi; exact ⟨x1.other W (Nat.ne_of_lt (by omega)), x2.wr W, x3⟩⟩
theorem own_w_vi {Z : State} {h : Heap} {n0 : Nat} {A : Nat → Nat} {K : Nat → ClassId} {zr zc : Int32} {CA : Nat → Nat} {CK : Nat → ClassId} {CL : List (List Int32)} {u : own_S} (P : own_PS Z h n0 A K zr zc CA CK CL u) {h' : Heap} {sl : Nat} {v : Value} {z : List Int64} (W : Wr h h' (A 6) sl v) (V : own_JA Z h' (A 6) (K 6) zc z) : own_PS Z h' n0 A K zr zc CA CK CL (own_vi_set u z) := by
  obtain ⟨g0, o0, o1, o2, o3, o4, o5, o6, o7, o8, o9, o10, o11, E, f1, f2, f3, f4, f5, f6, f7, f8, f9, f10, f11, f12, fse, fro, v1, v2, v3, v4, v5, v6, v7, v8, v9, v10, v11, v12, cc⟩ := P
  exact ⟨g0, o0, o1, o2, o3, o4, o5, o6, o7, o8, o9, o10, o11, E.wr W, f1.other W (Or.inl (Nat.ne_of_lt (by omega))), f2.other W (Or.inl (Nat.ne_of_lt (by omega))), f3.other W (Or.inl (Nat.ne_of_lt (by omega))), f4.other W (Or.inl (Nat.ne_of_lt (by omega))), f5.other W (Or.inl (Nat.ne_of_lt (by omega))), f6.other W (Or.inl (Nat.ne_of_lt (by omega))), f7.other W (Or.inl (Nat.ne_of_lt (by omega))), f8.other W (Or.inl (Nat.ne_of_lt (by omega))), f9.other W (Or.inl (Nat.ne_of_lt (by omega))), f10.other W (Or.inl (Nat.ne_of_lt (by omega))), f11.other W (Or.inl (Nat.ne_of_lt (by omega))), f12.other W (Or.inl (Nat.ne_of_lt (by omega))), fse.other W (Or.inl (Nat.ne_of_lt (by omega))), fro.other W (Or.inl (Nat.ne_of_lt (by omega))), v1.other W (Nat.ne_of_lt (by omega)), v2.other W (Nat.ne_of_lt (by omega)), v3.other W (Nat.ne_of_lt (by omega)), v4.other W (Nat.ne_of_lt (by omega)), v5.other W (Nat.ne_of_lt (by omega)), V, v7.other W (Nat.ne_of_gt (by omega)), v8.other W (Nat.ne_of_gt (by omega)), v9.other W (Nat.ne_of_gt (by omega)), v10.other W (Nat.ne_of_gt (by omega)), v11.other W (Nat.ne_of_gt (by omega)), v12.other W (Nat.ne_of_gt (by omega)), fun i L hi => by obtain ⟨x1, x2, x3⟩ := cc i L hi; exact ⟨x1.other W (Nat.ne_of_lt (by omega)), x2.wr W, x3⟩⟩
theorem own_w_pt {Z : State} {h : Heap} {n0 : Nat} {A : Nat → Nat} {K : Nat → ClassId} {zr zc : Int32} {CA : Nat → Nat} {CK : Nat → ClassId} {CL : List (List Int32)} {u : own_S} (P : own_PS Z h n0 A K zr zc CA CK CL u) {h' : Heap} {sl : Nat} {v : Value} {z : List Int32} (W : Wr h h' (A 7) sl v) (V : own_IA Z h' (A 7) (K 7) .int zr z) : own_PS Z h' n0 A K zr zc CA CK CL (own_pt_set u z) := by
  obtain ⟨g0, o0, o1, o2, o3, o4, o5, o6, o7, o8, o9, o10, o11, E, f1, f2, f3, f4, f5, f6, f7, f8, f9, f10, f11, f12, fse, fro, v1, v2, v3, v4, v5, v6, v7, v8, v9, v10, v11, v12, cc⟩ := P
  exact ⟨g0, o0, o1, o2, o3, o4, o5, o6, o7, o8, o9, o10, o11, E.wr W, f1.other W (Or.inl (Nat.ne_of_lt (by omega))), f2.other W (Or.inl (Nat.ne_of_lt (by omega))), f3.other W (Or.inl (Nat.ne_of_lt (by omega))), f4.other W (Or.inl (Nat.ne_of_lt (by omega))), f5.other W (Or.inl (Nat.ne_of_lt (by omega))), f6.other W (Or.inl (Nat.ne_of_lt (by omega))), f7.other W (Or.inl (Nat.ne_of_lt (by omega))), f8.other W (Or.inl (Nat.ne_of_lt (by omega))), f9.other W (Or.inl (Nat.ne_of_lt (by omega))), f10.other W (Or.inl (Nat.ne_of_lt (by omega))), f11.other W (Or.inl (Nat.ne_of_lt (by omega))), f12.other W (Or.inl (Nat.ne_of_lt (by omega))), fse.other W (Or.inl (Nat.ne_of_lt (by omega))), fro.other W (Or.inl (Nat.ne_of_lt (by omega))), v1.other W (Nat.ne_of_lt (by omega)), v2.other W (Nat.ne_of_lt (by omega)), v3.other W (Nat.ne_of_lt (by omega)), v4.other W (Nat.ne_of_lt (by omega)), v5.other W (Nat.ne_of_lt (by omega)), v6.other W (Nat.ne_of_lt (by omega)), V, v8.other W (Nat.ne_of_gt (by omega)), v9.other W (Nat.ne_of_gt (by omega)), v10.other W (Nat.ne_of_gt (by omega)), v11.other W (Nat.ne_of_gt (by omega)), v12.other W (Nat.ne_of_gt (by omega)), fun i L hi => by obtain ⟨x1, x2, x3⟩ := cc i L hi; exact ⟨x1.other W (Nat.ne_of_lt (by omega)), x2.wr W, x3⟩⟩
theorem own_w_va {Z : State} {h : Heap} {n0 : Nat} {A : Nat → Nat} {K : Nat → ClassId} {zr zc : Int32} {CA : Nat → Nat} {CK : Nat → ClassId} {CL : List (List Int32)} {u : own_S} (P : own_PS Z h n0 A K zr zc CA CK CL u) {h' : Heap} {sl : Nat} {v : Value} {z : List Int32} (W : Wr h h' (A 8) sl v) (V : own_IA Z h' (A 8) (K 8) .int zr z) : own_PS Z h' n0 A K zr zc CA CK CL (own_va_set u z) := by
  obtain ⟨g0, o0, o1, o2, o3, o4, o5, o6, o7, o8, o9, o10, o11, E, f1, f2, f3, f4, f5, f6, f7, f8, f9, f10, f11, f12, fse, fro, v1, v2, v3, v4, v5, v6, v7, v8, v9, v10, v11, v12, cc⟩ := P
  exact ⟨g0, o0, o1, o2, o3, o4, o5, o6, o7, o8, o9, o10, o11, E.wr W, f1.other W (Or.inl (Nat.ne_of_lt (by omega))), f2.other W (Or.inl (Nat.ne_of_lt (by omega))), f3.other W (Or.inl (Nat.ne_of_lt (by omega))), f4.other W (Or.inl (Nat.ne_of_lt (by omega))), f5.other W (Or.inl (Nat.ne_of_lt (by omega))), f6.other W (Or.inl (Nat.ne_of_lt (by omega))), f7.other W (Or.inl (Nat.ne_of_lt (by omega))), f8.other W (Or.inl (Nat.ne_of_lt (by omega))), f9.other W (Or.inl (Nat.ne_of_lt (by omega))), f10.other W (Or.inl (Nat.ne_of_lt (by omega))), f11.other W (Or.inl (Nat.ne_of_lt (by omega))), f12.other W (Or.inl (Nat.ne_of_lt (by omega))), fse.other W (Or.inl (Nat.ne_of_lt (by omega))), fro.other W (Or.inl (Nat.ne_of_lt (by omega))), v1.other W (Nat.ne_of_lt (by omega)), v2.other W (Nat.ne_of_lt (by omega)), v3.other W (Nat.ne_of_lt (by omega)), v4.other W (Nat.ne_of_lt (by omega)), v5.other W (Nat.ne_of_lt (by omega)), v6.other W (Nat.ne_of_lt (by omega)), v7.other W (Nat.ne_of_lt (by omega)), V, v9.other W (Nat.ne_of_gt (by omega)), v10.other W (Nat.ne_of_gt (by omega)), v11.other W (Nat.ne_of_gt (by omega)), v12.other W (Nat.ne_of_gt (by omega)), fun i L hi => by obtain ⟨x1, x2, x3⟩ := cc i L hi; exact ⟨x1.other W (Nat.ne_of_lt (by omega)), x2.wr W, x3⟩⟩
theorem own_w_ow {Z : State} {h : Heap} {n0 : Nat} {A : Nat → Nat} {K : Nat → ClassId} {zr zc : Int32} {CA : Nat → Nat} {CK : Nat → ClassId} {CL : List (List Int32)} {u : own_S} (P : own_PS Z h n0 A K zr zc CA CK CL u) {h' : Heap} {sl : Nat} {v : Value} {z : List Int32} (W : Wr h h' (A 9) sl v) (V : own_IA Z h' (A 9) (K 9) .int zr z) : own_PS Z h' n0 A K zr zc CA CK CL (own_ow_set u z) := by
  obtain ⟨g0, o0, o1, o2, o3, o4, o5, o6, o7, o8, o9, o10, o11, E, f1, f2, f3, f4, f5, f6, f7, f8, f9, f10, f11, f12, fse, fro, v1, v2, v3, v4, v5, v6, v7, v8, v9, v10, v11, v12, cc⟩ := P
  exact ⟨g0, o0, o1, o2, o3, o4, o5, o6, o7, o8, o9, o10, o11, E.wr W, f1.other W (Or.inl (Nat.ne_of_lt (by omega))), f2.other W (Or.inl (Nat.ne_of_lt (by omega))), f3.other W (Or.inl (Nat.ne_of_lt (by omega))), f4.other W (Or.inl (Nat.ne_of_lt (by omega))), f5.other W (Or.inl (Nat.ne_of_lt (by omega))), f6.other W (Or.inl (Nat.ne_of_lt (by omega))), f7.other W (Or.inl (Nat.ne_of_lt (by omega))), f8.other W (Or.inl (Nat.ne_of_lt (by omega))), f9.other W (Or.inl (Nat.ne_of_lt (by omega))), f10.other W (Or.inl (Nat.ne_of_lt (by omega))), f11.other W (Or.inl (Nat.ne_of_lt (by omega))), f12.other W (Or.inl (Nat.ne_of_lt (by omega))), fse.other W (Or.inl (Nat.ne_of_lt (by omega))), fro.other W (Or.inl (Nat.ne_of_lt (by omega))), v1.other W (Nat.ne_of_lt (by omega)), v2.other W (Nat.ne_of_lt (by omega)), v3.other W (Nat.ne_of_lt (by omega)), v4.other W (Nat.ne_of_lt (by omega)), v5.other W (Nat.ne_of_lt (by omega)), v6.other W (Nat.ne_of_lt (by omega)), v7.other W (Nat.ne_of_lt (by omega)), v8.other W (Nat.ne_of_lt (by omega)), V, v10.other W (Nat.ne_of_gt (by omega)), v11.other W (Nat.ne_of_gt (by omega)), v12.other W (Nat.ne_of_gt (by omega)), fun i L hi => by obtain ⟨x1, x2, x3⟩ := cc i L hi; exact ⟨x1.other W (Nat.ne_of_lt (by omega)), x2.wr W, x3⟩⟩
theorem own_w_sc {Z : State} {h : Heap} {n0 : Nat} {A : Nat → Nat} {K : Nat → ClassId} {zr zc : Int32} {CA : Nat → Nat} {CK : Nat → ClassId} {CL : List (List Int32)} {u : own_S} (P : own_PS Z h n0 A K zr zc CA CK CL u) {h' : Heap} {sl : Nat} {v : Value} {z : List Int64} (W : Wr h h' (A 10) sl v) (V : own_JA Z h' (A 10) (K 10) zr z) : own_PS Z h' n0 A K zr zc CA CK CL (own_sc_set u z) := by
  obtain ⟨g0, o0, o1, o2, o3, o4, o5, o6, o7, o8, o9, o10, o11, E, f1, f2, f3, f4, f5, f6, f7, f8, f9, f10, f11, f12, fse, fro, v1, v2, v3, v4, v5, v6, v7, v8, v9, v10, v11, v12, cc⟩ := P
  exact ⟨g0, o0, o1, o2, o3, o4, o5, o6, o7, o8, o9, o10, o11, E.wr W, f1.other W (Or.inl (Nat.ne_of_lt (by omega))), f2.other W (Or.inl (Nat.ne_of_lt (by omega))), f3.other W (Or.inl (Nat.ne_of_lt (by omega))), f4.other W (Or.inl (Nat.ne_of_lt (by omega))), f5.other W (Or.inl (Nat.ne_of_lt (by omega))), f6.other W (Or.inl (Nat.ne_of_lt (by omega))), f7.other W (Or.inl (Nat.ne_of_lt (by omega))), f8.other W (Or.inl (Nat.ne_of_lt (by omega))), f9.other W (Or.inl (Nat.ne_of_lt (by omega))), f10.other W (Or.inl (Nat.ne_of_lt (by omega))), f11.other W (Or.inl (Nat.ne_of_lt (by omega))), f12.other W (Or.inl (Nat.ne_of_lt (by omega))), fse.other W (Or.inl (Nat.ne_of_lt (by omega))), fro.other W (Or.inl (Nat.ne_of_lt (by omega))), v1.other W (Nat.ne_of_lt (by omega)), v2.other W (Nat.ne_of_lt (by omega)), v3.other W (Nat.ne_of_lt (by omega)), v4.other W (Nat.ne_of_lt (by omega)), v5.other W (Nat.ne_of_lt (by omega)), v6.other W (Nat.ne_of_lt (by omega)), v7.other W (Nat.ne_of_lt (by omega)), v8.other W (Nat.ne_of_lt (by omega)), v9.other W (Nat.ne_of_lt (by omega)), V, v11.other W (Nat.ne_of_gt (by omega)), v12.other W (Nat.ne_of_gt (by omega)), fun i L hi => by obtain ⟨x1, x2, x3⟩ := cc i L hi; exact ⟨x1.other W (Nat.ne_of_lt (by omega)), x2.wr W, x3⟩⟩
theorem own_w_nx {Z : State} {h : Heap} {n0 : Nat} {A : Nat → Nat} {K : Nat → ClassId} {zr zc : Int32} {CA : Nat → Nat} {CK : Nat → ClassId} {CL : List (List Int32)} {u : own_S} (P : own_PS Z h n0 A K zr zc CA CK CL u) {h' : Heap} {sl : Nat} {v : Value} {z : List Int32} (W : Wr h h' (A 11) sl v) (V : own_IA Z h' (A 11) (K 11) .int zr z) : own_PS Z h' n0 A K zr zc CA CK CL (own_nx_set u z) := by
  obtain ⟨g0, o0, o1, o2, o3, o4, o5, o6, o7, o8, o9, o10, o11, E, f1, f2, f3, f4, f5, f6, f7, f8, f9, f10, f11, f12, fse, fro, v1, v2, v3, v4, v5, v6, v7, v8, v9, v10, v11, v12, cc⟩ := P
  exact ⟨g0, o0, o1, o2, o3, o4, o5, o6, o7, o8, o9, o10, o11, E.wr W, f1.other W (Or.inl (Nat.ne_of_lt (by omega))), f2.other W (Or.inl (Nat.ne_of_lt (by omega))), f3.other W (Or.inl (Nat.ne_of_lt (by omega))), f4.other W (Or.inl (Nat.ne_of_lt (by omega))), f5.other W (Or.inl (Nat.ne_of_lt (by omega))), f6.other W (Or.inl (Nat.ne_of_lt (by omega))), f7.other W (Or.inl (Nat.ne_of_lt (by omega))), f8.other W (Or.inl (Nat.ne_of_lt (by omega))), f9.other W (Or.inl (Nat.ne_of_lt (by omega))), f10.other W (Or.inl (Nat.ne_of_lt (by omega))), f11.other W (Or.inl (Nat.ne_of_lt (by omega))), f12.other W (Or.inl (Nat.ne_of_lt (by omega))), fse.other W (Or.inl (Nat.ne_of_lt (by omega))), fro.other W (Or.inl (Nat.ne_of_lt (by omega))), v1.other W (Nat.ne_of_lt (by omega)), v2.other W (Nat.ne_of_lt (by omega)), v3.other W (Nat.ne_of_lt (by omega)), v4.other W (Nat.ne_of_lt (by omega)), v5.other W (Nat.ne_of_lt (by omega)), v6.other W (Nat.ne_of_lt (by omega)), v7.other W (Nat.ne_of_lt (by omega)), v8.other W (Nat.ne_of_lt (by omega)), v9.other W (Nat.ne_of_lt (by omega)), v10.other W (Nat.ne_of_lt (by omega)), V, v12.other W (Nat.ne_of_gt (by omega)), fun i L hi => by obtain ⟨x1, x2, x3⟩ := cc i L hi; exact ⟨x1.other W (Nat.ne_of_lt (by omega)), x2.wr W, x3⟩⟩
theorem own_w_ff {Z : State} {h : Heap} {n0 : Nat} {A : Nat → Nat} {K : Nat → ClassId} {zr zc : Int32} {CA : Nat → Nat} {CK : Nat → ClassId} {CL : List (List Int32)} {u : own_S} (P : own_PS Z h n0 A K zr zc CA CK CL u) {h' : Heap} {sl : Nat} {v : Value} {z : List Int32} (W : Wr h h' (A 12) sl v) (V : own_IA Z h' (A 12) (K 12) .int zr z) : own_PS Z h' n0 A K zr zc CA CK CL (own_ff_set u z) := by
  obtain ⟨g0, o0, o1, o2, o3, o4, o5, o6, o7, o8, o9, o10, o11, E, f1, f2, f3, f4, f5, f6, f7, f8, f9, f10, f11, f12, fse, fro, v1, v2, v3, v4, v5, v6, v7, v8, v9, v10, v11, v12, cc⟩ := P
  exact ⟨g0, o0, o1, o2, o3, o4, o5, o6, o7, o8, o9, o10, o11, E.wr W, f1.other W (Or.inl (Nat.ne_of_lt (by omega))), f2.other W (Or.inl (Nat.ne_of_lt (by omega))), f3.other W (Or.inl (Nat.ne_of_lt (by omega))), f4.other W (Or.inl (Nat.ne_of_lt (by omega))), f5.other W (Or.inl (Nat.ne_of_lt (by omega))), f6.other W (Or.inl (Nat.ne_of_lt (by omega))), f7.other W (Or.inl (Nat.ne_of_lt (by omega))), f8.other W (Or.inl (Nat.ne_of_lt (by omega))), f9.other W (Or.inl (Nat.ne_of_lt (by omega))), f10.other W (Or.inl (Nat.ne_of_lt (by omega))), f11.other W (Or.inl (Nat.ne_of_lt (by omega))), f12.other W (Or.inl (Nat.ne_of_lt (by omega))), fse.other W (Or.inl (Nat.ne_of_lt (by omega))), fro.other W (Or.inl (Nat.ne_of_lt (by omega))), v1.other W (Nat.ne_of_lt (by omega)), v2.other W (Nat.ne_of_lt (by omega)), v3.other W (Nat.ne_of_lt (by omega)), v4.other W (Nat.ne_of_lt (by omega)), v5.other W (Nat.ne_of_lt (by omega)), v6.other W (Nat.ne_of_lt (by omega)), v7.other W (Nat.ne_of_lt (by omega)), v8.other W (Nat.ne_of_lt (by omega)), v9.other W (Nat.ne_of_lt (by omega)), v10.other W (Nat.ne_of_lt (by omega)), v11.other W (Nat.ne_of_lt (by omega)), V, fun i L hi => by obtain ⟨x1, x2, x3⟩ := cc i L hi; exact ⟨x1.other W (Nat.ne_of_lt (by omega)), x2.wr W, x3⟩⟩
theorem own_w_se {Z : State} {h : Heap} {n0 : Nat} {A : Nat → Nat} {K : Nat → ClassId} {zr zc : Int32} {CA : Nat → Nat} {CK : Nat → ClassId} {CL : List (List Int32)} {u : own_S} (P : own_PS Z h n0 A K zr zc CA CK CL u) {a0 : Array Value} (hw : ∀ d ∈ tables_1, d.before a0 Z = true) {h' : Heap} {z : Int64} (W : Wr h h' (A 0) (Jvm.RoadKit.slotOf Z "com/example/document_pattern_rules/documentpatternrules/pattern/Pairing" "searches" "J") (.long z)) : own_PS Z h' n0 A K zr zc CA CK CL (own_se_set u z) := by
  obtain ⟨g0, o0, o1, o2, o3, o4, o5, o6, o7, o8, o9, o10, o11, E, f1, f2, f3, f4, f5, f6, f7, f8, f9, f10, f11, f12, fse, fro, v1, v2, v3, v4, v5, v6, v7, v8, v9, v10, v11, v12, cc⟩ := P
  exact ⟨g0, o0, o1, o2, o3, o4, o5, o6, o7, o8, o9, o10, o11, E.wr W, f1.other W (Or.inr (slot_ne (Or.inr (own_hw 20 hw rfl)) (Or.inl (own_hw 63 hw rfl)) (by decide) (t := (.array (.array .int))) (t' := .long) (by decide) (by decide))), f2.other W (Or.inr (slot_ne (Or.inr (own_hw 22 hw rfl)) (Or.inl (own_hw 63 hw rfl)) (by decide) (t := (.array .int)) (t' := .long) (by decide) (by decide))), f3.other W (Or.inr (slot_ne (Or.inr (own_hw 24 hw rfl)) (Or.inl (own_hw 63 hw rfl)) (by decide) (t := (.array .int)) (t' := .long) (by decide) (by decide))), f4.other W (Or.inr (slot_ne (Or.inr (own_hw 26 hw rfl)) (Or.inl (own_hw 63 hw rfl)) (by decide) (t := (.array .int)) (t' := .long) (by decide) (by decide))), f5.other W (Or.inr (slot_ne (Or.inr (own_hw 29 hw rfl)) (Or.inl (own_hw 63 hw rfl)) (by decide) (t := (.array .boolean)) (t' := .long) (by decide) (by decide))), f6.other W (Or.inr (slot_ne (Or.inr (own_hw 32 hw rfl)) (Or.inl (own_hw 63 hw rfl)) (by decide) (t := (.array .long)) (t' := .long) (by decide) (by decide))), f7.other W (Or.inr (slot_ne (Or.inr (own_hw 34 hw rfl)) (Or.inl (own_hw 63 hw rfl)) (by decide) (t := (.array .int)) (t' := .long) (by decide) (by decide))), f8.other W (Or.inr (slot_ne (Or.inr (own_hw 36 hw rfl)) (Or.inl (own_hw 63 hw rfl)) (by decide) (t := (.array .int)) (t' := .long) (by decide) (by decide))), f9.other W (Or.inr (slot_ne (Or.inr (own_hw 38 hw rfl)) (Or.inl (own_hw 63 hw rfl)) (by decide) (t := (.array .int)) (t' := .long) (by decide) (by decide))), f10.other W (Or.inr (slot_ne (Or.inr (own_hw 40 hw rfl)) (Or.inl (own_hw 63 hw rfl)) (by decide) (t := (.array .long)) (t' := .long) (by decide) (by decide))), f11.other W (Or.inr (slot_ne (Or.inr (own_hw 42 hw rfl)) (Or.inl (own_hw 63 hw rfl)) (by decide) (t := (.array .int)) (t' := .long) (by decide) (by decide))), f12.other W (Or.inr (slot_ne (Or.inr (own_hw 44 hw rfl)) (Or.inl (own_hw 63 hw rfl)) (by decide) (t := (.array .int)) (t' := .long) (by decide) (by decide))), fse.same W, fro.other W (Or.inr (slot_ne (Or.inl (own_hw 55 hw rfl)) (Or.inl (own_hw 63 hw rfl)) (by decide) (t := .int) (t' := .long) (by decide) (by decide))), v1.other W (Nat.ne_of_gt (by omega)), v2.other W (Nat.ne_of_gt (by omega)), v3.other W (Nat.ne_of_gt (by omega)), v4.other W (Nat.ne_of_gt (by omega)), v5.other W (Nat.ne_of_gt (by omega)), v6.other W (Nat.ne_of_gt (by omega)), v7.other W (Nat.ne_of_gt (by omega)), v8.other W (Nat.ne_of_gt (by omega)), v9.other W (Nat.ne_of_gt (by omega)), v10.other W (Nat.ne_of_gt (by omega)), v11.other W (Nat.ne_of_gt (by omega)), v12.other W (Nat.ne_of_gt (by omega)), fun i L hi => by obtain ⟨x1, x2, x3⟩ := cc i L hi; exact ⟨x1.other W (Nat.ne_of_lt (by omega)), x2.wr W, x3⟩⟩
theorem own_w_ro {Z : State} {h : Heap} {n0 : Nat} {A : Nat → Nat} {K : Nat → ClassId} {zr zc : Int32} {CA : Nat → Nat} {CK : Nat → ClassId} {CL : List (List Int32)} {u : own_S} (P : own_PS Z h n0 A K zr zc CA CK CL u) {a0 : Array Value} (hw : ∀ d ∈ tables_1, d.before a0 Z = true) {h' : Heap} {z : Int32} (W : Wr h h' (A 0) (Jvm.RoadKit.slotOf Z "com/example/document_pattern_rules/documentpatternrules/pattern/Pairing" "rows" "I") (.int z)) : own_PS Z h' n0 A K zr zc CA CK CL (own_ro_set u z) := by
  obtain ⟨g0, o0, o1, o2, o3, o4, o5, o6, o7, o8, o9, o10, o11, E, f1, f2, f3, f4, f5, f6, f7, f8, f9, f10, f11, f12, fse, fro, v1, v2, v3, v4, v5, v6, v7, v8, v9, v10, v11, v12, cc⟩ := P
  exact ⟨g0, o0, o1, o2, o3, o4, o5, o6, o7, o8, o9, o10, o11, E.wr W, f1.other W (Or.inr (slot_ne (Or.inr (own_hw 20 hw rfl)) (Or.inl (own_hw 55 hw rfl)) (by decide) (t := (.array (.array .int))) (t' := .int) (by decide) (by decide))), f2.other W (Or.inr (slot_ne (Or.inr (own_hw 22 hw rfl)) (Or.inl (own_hw 55 hw rfl)) (by decide) (t := (.array .int)) (t' := .int) (by decide) (by decide))), f3.other W (Or.inr (slot_ne (Or.inr (own_hw 24 hw rfl)) (Or.inl (own_hw 55 hw rfl)) (by decide) (t := (.array .int)) (t' := .int) (by decide) (by decide))), f4.other W (Or.inr (slot_ne (Or.inr (own_hw 26 hw rfl)) (Or.inl (own_hw 55 hw rfl)) (by decide) (t := (.array .int)) (t' := .int) (by decide) (by decide))), f5.other W (Or.inr (slot_ne (Or.inr (own_hw 29 hw rfl)) (Or.inl (own_hw 55 hw rfl)) (by decide) (t := (.array .boolean)) (t' := .int) (by decide) (by decide))), f6.other W (Or.inr (slot_ne (Or.inr (own_hw 32 hw rfl)) (Or.inl (own_hw 55 hw rfl)) (by decide) (t := (.array .long)) (t' := .int) (by decide) (by decide))), f7.other W (Or.inr (slot_ne (Or.inr (own_hw 34 hw rfl)) (Or.inl (own_hw 55 hw rfl)) (by decide) (t := (.array .int)) (t' := .int) (by decide) (by decide))), f8.other W (Or.inr (slot_ne (Or.inr (own_hw 36 hw rfl)) (Or.inl (own_hw 55 hw rfl)) (by decide) (t := (.array .int)) (t' := .int) (by decide) (by decide))), f9.other W (Or.inr (slot_ne (Or.inr (own_hw 38 hw rfl)) (Or.inl (own_hw 55 hw rfl)) (by decide) (t := (.array .int)) (t' := .int) (by decide) (by decide))), f10.other W (Or.inr (slot_ne (Or.inr (own_hw 40 hw rfl)) (Or.inl (own_hw 55 hw rfl)) (by decide) (t := (.array .long)) (t' := .int) (by decide) (by decide))), f11.other W (Or.inr (slot_ne (Or.inr (own_hw 42 hw rfl)) (Or.inl (own_hw 55 hw rfl)) (by decide) (t := (.array .int)) (t' := .int) (by decide) (by decide))), f12.other W (Or.inr (slot_ne (Or.inr (own_hw 44 hw rfl)) (Or.inl (own_hw 55 hw rfl)) (by decide) (t := (.array .int)) (t' := .int) (by decide) (by decide))), fse.other W (Or.inr (slot_ne (Or.inl (own_hw 63 hw rfl)) (Or.inl (own_hw 55 hw rfl)) (by decide) (t := .long) (t' := .int) (by decide) (by decide))), fro.same W, v1.other W (Nat.ne_of_gt (by omega)), v2.other W (Nat.ne_of_gt (by omega)), v3.other W (Nat.ne_of_gt (by omega)), v4.other W (Nat.ne_of_gt (by omega)), v5.other W (Nat.ne_of_gt (by omega)), v6.other W (Nat.ne_of_gt (by omega)), v7.other W (Nat.ne_of_gt (by omega)), v8.other W (Nat.ne_of_gt (by omega)), v9.other W (Nat.ne_of_gt (by omega)), v10.other W (Nat.ne_of_gt (by omega)), v11.other W (Nat.ne_of_gt (by omega)), v12.other W (Nat.ne_of_gt (by omega)), fun i L hi => by obtain ⟨x1, x2, x3⟩ := cc i L hi; exact ⟨x1.other W (Nat.ne_of_lt (by omega)), x2.wr W, x3⟩⟩

def own_QPr (Z : State) (ru : Int32 × own_S) (n0 : Nat) (A : Nat → Nat) (K : Nat → ClassId) (zr zc : Int32) (CA : Nat → Nat) (CK : Nat → ClassId) (CL : List (List Int32)) (v : Option Value) (h : Heap) (L : List Loc) : Prop := v = some (.int ru.1) ∧ Fr n0 L ∧ own_PS Z h n0 A K zr zc CA CK CL ru.2
def own_QPv (Z : State) (ru : own_S) (n0 : Nat) (A : Nat → Nat) (K : Nat → ClassId) (zr zc : Int32) (CA : Nat → Nat) (CK : Nat → ClassId) (CL : List (List Int32)) (v : Option Value) (h : Heap) (L : List Loc) : Prop := v = none ∧ Fr n0 L ∧ own_PS Z h n0 A K zr zc CA CK CL ru

def own_pc (ux : Int32) : Int32 := ((((ux &&& (1 : Int32)) + ((ux >>> ((1 : Int32) &&& 31)) &&& (1 : Int32))) + ((ux >>> ((2 : Int32) &&& 31)) &&& (1 : Int32))) + ((ux >>> ((3 : Int32) &&& 31)) &&& (1 : Int32)))

theorem d2_0 : decode method_3_code 0 = .ok (.iload_n 0, 1) := by decide +kernel
theorem d2_1 : decode method_3_code 1 = .ok (.iconst 1, 1) := by decide +kernel
theorem d2_2 : decode method_3_code 2 = .ok (.iand, 1) := by decide +kernel
theorem d2_3 : decode method_3_code 3 = .ok (.iload_n 0, 1) := by decide +kernel
theorem d2_4 : decode method_3_code 4 = .ok (.iconst 1, 1) := by decide +kernel
theorem d2_5 : decode method_3_code 5 = .ok (.ishr, 1) := by decide +kernel
theorem d2_6 : decode method_3_code 6 = .ok (.iconst 1, 1) := by decide +kernel
theorem d2_7 : decode method_3_code 7 = .ok (.iand, 1) := by decide +kernel
theorem d2_8 : decode method_3_code 8 = .ok (.iadd, 1) := by decide +kernel
theorem d2_9 : decode method_3_code 9 = .ok (.iload_n 0, 1) := by decide +kernel
theorem d2_10 : decode method_3_code 10 = .ok (.iconst 2, 1) := by decide +kernel
theorem d2_11 : decode method_3_code 11 = .ok (.ishr, 1) := by decide +kernel
theorem d2_12 : decode method_3_code 12 = .ok (.iconst 1, 1) := by decide +kernel
theorem d2_13 : decode method_3_code 13 = .ok (.iand, 1) := by decide +kernel
theorem d2_14 : decode method_3_code 14 = .ok (.iadd, 1) := by decide +kernel
theorem d2_15 : decode method_3_code 15 = .ok (.iload_n 0, 1) := by decide +kernel
theorem d2_16 : decode method_3_code 16 = .ok (.iconst 3, 1) := by decide +kernel
theorem d2_17 : decode method_3_code 17 = .ok (.ishr, 1) := by decide +kernel
theorem d2_18 : decode method_3_code 18 = .ok (.iconst 1, 1) := by decide +kernel
theorem d2_19 : decode method_3_code 19 = .ok (.iand, 1) := by decide +kernel
theorem d2_20 : decode method_3_code 20 = .ok (.iadd, 1) := by decide +kernel
theorem d2_21 : decode method_3_code 21 = .ok (.ireturn, 1) := by decide +kernel
theorem pn_rm2 : plainFor (⟨"com/example/document_pattern_rules/documentpatternrules/pattern/PairingAddPinLaw", "pc", "(I)I"⟩ : MethodName) = true := by first | exact plainFor_of_name (by first | (simp [plainName, overriddenIn]; done) | decide +kernel) | exact Jvm.Free.JP.mathPlain rfl (by decide +kernel) | decide +kernel
theorem ef_rm2 (m : MethodId) (x0 : Int32) : entryFrame m #[(.int x0)] 1 = mkF m 0 #[VI x0] [] := by first | (simp [entryFrame, mkF, argsToLocals, Value.category]; done) | rfl
set_option maxRecDepth 65536 in
set_option maxHeartbeats 40000000 in
theorem rm2 (l : Launch) (Z : State) (a0 : Array Value) (hw : ∀ d ∈ tables_1, d.before a0 Z = true) (ws : List Jvm.Cond) (ux : Int32) (h0 : Heap) (n0 : Nat) (Z0 : n0 ≤ h0.size)  :
    MetFree l (⟨"com/example/document_pattern_rules/documentpatternrules/pattern/PairingAddPinLaw", "pc", "(I)I"⟩ : MethodName) (head1 (Jvm.Cond.code (⟨"com/example/document_pattern_rules/documentpatternrules/pattern/PairingAddPinLaw", "pc", "(I)I"⟩ : MethodName) method_3_code 1 (some .int) :: ws) ({ frames := 0, cells := 0, slots := 0, locals := 0 } : Room)) (fun a U => a = #[(.int ux)] ∧ Z.Warmed39 U.vm ∧ U.heap = h0) (fun _ _ _ _ _ => True) (fun _ U o U' => ∃ v L, o = .returned v ∧ (own_P (.int (own_pc ux)) h0 n0) v U'.heap L ∧ FrameEnd U o U' L 0 0) := by
  refine MetFree.of_bodySF pn_rm2 hisR ?_
  intro p e s m args below meth c s₁ Bd hml0 hP hK
  obtain ⟨rfl, hZ, hh⟩ := hP
  have hx := Bd.exec
  have hby := Bd.bytes
  have hml : c.maxLocals = 1 := hml0
  have hown : s.vm.findClass "com/example/document_pattern_rules/documentpatternrules/pattern/PairingAddPinLaw" = some m.cls := findClass_of_methodNamed Bd.named
  have hnm := (name_of_methodNamed Bd.named Bd.method).1
  have hrt := Bd.returns
  have hlk := Bd.notSynchronized
  have X0 : Stand p l e ({ frames := 0, cells := 0, slots := 0, locals := 0 } : Room) s m #[(.int ux)] below meth c s₁ [] 0 0 := Stand.of_body Bd
  have e0 : s₁.heap = h0 := by rw [← hh, Bd.state]; rfl
  have N0 := Fr.nil n0
  refine own_done (B := s₁.setTop (mkF m 0 #[VI ux] [])) (fun t k => castTop (ef_rm2 m ux) k) ?_
  refine own_by (B := s₁.setTop (mkF m 1 #[VI ux] [(.int ux)])) (fun _ k => XS.iloadN X0.here hx rfl (hb hby d2_0) rfl  k) ?_
  refine own_by (B := s₁.setTop (mkF m 2 #[VI ux] [(.int 1), (.int ux)])) (fun _ k => XS.iconst X0.here hx rfl (hb hby d2_1) k) ?_
  refine own_by (B := s₁.setTop (mkF m 3 #[VI ux] [(.int (ux &&& (1 : Int32)))])) (fun _ k => XS.iand X0.here hx rfl (hb hby d2_2) rfl k) ?_
  refine own_by (B := s₁.setTop (mkF m 4 #[VI ux] [(.int ux), (.int (ux &&& (1 : Int32)))])) (fun _ k => XS.iloadN X0.here hx rfl (hb hby d2_3) rfl  k) ?_
  refine own_by (B := s₁.setTop (mkF m 5 #[VI ux] [(.int 1), (.int ux), (.int (ux &&& (1 : Int32)))])) (fun _ k => XS.iconst X0.here hx rfl (hb hby d2_4) k) ?_
  refine own_by (B := s₁.setTop (mkF m 6 #[VI ux] [(.int (ux >>> ((1 : Int32) &&& 31))), (.int (ux &&& (1 : Int32)))])) (fun _ k => XT.ishr X0.here hx rfl (hb hby d2_5) rfl k) ?_
  refine own_by (B := s₁.setTop (mkF m 7 #[VI ux] [(.int 1), (.int (ux >>> ((1 : Int32) &&& 31))), (.int (ux &&& (1 : Int32)))])) (fun _ k => XS.iconst X0.here hx rfl (hb hby d2_6) k) ?_
  refine own_by (B := s₁.setTop (mkF m 8 #[VI ux] [(.int ((ux >>> ((1 : Int32) &&& 31)) &&& (1 : Int32))), (.int (ux &&& (1 : Int32)))])) (fun _ k => XS.iand X0.here hx rfl (hb hby d2_7) rfl k) ?_
  refine own_by (B := s₁.setTop (mkF m 9 #[VI ux] [(.int ((ux &&& (1 : Int32)) + ((ux >>> ((1 : Int32) &&& 31)) &&& (1 : Int32))))])) (fun _ k => XS.iadd X0.here hx rfl (hb hby d2_8) rfl k) ?_
  refine own_by (B := s₁.setTop (mkF m 10 #[VI ux] [(.int ux), (.int ((ux &&& (1 : Int32)) + ((ux >>> ((1 : Int32) &&& 31)) &&& (1 : Int32))))])) (fun _ k => XS.iloadN X0.here hx rfl (hb hby d2_9) rfl  k) ?_
  refine own_by (B := s₁.setTop (mkF m 11 #[VI ux] [(.int 2), (.int ux), (.int ((ux &&& (1 : Int32)) + ((ux >>> ((1 : Int32) &&& 31)) &&& (1 : Int32))))])) (fun _ k => XS.iconst X0.here hx rfl (hb hby d2_10) k) ?_
  refine own_by (B := s₁.setTop (mkF m 12 #[VI ux] [(.int (ux >>> ((2 : Int32) &&& 31))), (.int ((ux &&& (1 : Int32)) + ((ux >>> ((1 : Int32) &&& 31)) &&& (1 : Int32))))])) (fun _ k => XT.ishr X0.here hx rfl (hb hby d2_11) rfl k) ?_
  refine own_by (B := s₁.setTop (mkF m 13 #[VI ux] [(.int 1), (.int (ux >>> ((2 : Int32) &&& 31))), (.int ((ux &&& (1 : Int32)) + ((ux >>> ((1 : Int32) &&& 31)) &&& (1 : Int32))))])) (fun _ k => XS.iconst X0.here hx rfl (hb hby d2_12) k) ?_
  refine own_by (B := s₁.setTop (mkF m 14 #[VI ux] [(.int ((ux >>> ((2 : Int32) &&& 31)) &&& (1 : Int32))), (.int ((ux &&& (1 : Int32)) + ((ux >>> ((1 : Int32) &&& 31)) &&& (1 : Int32))))])) (fun _ k => XS.iand X0.here hx rfl (hb hby d2_13) rfl k) ?_
  refine own_by (B := s₁.setTop (mkF m 15 #[VI ux] [(.int (((ux &&& (1 : Int32)) + ((ux >>> ((1 : Int32) &&& 31)) &&& (1 : Int32))) + ((ux >>> ((2 : Int32) &&& 31)) &&& (1 : Int32))))])) (fun _ k => XS.iadd X0.here hx rfl (hb hby d2_14) rfl k) ?_
  refine own_by (B := s₁.setTop (mkF m 16 #[VI ux] [(.int ux), (.int (((ux &&& (1 : Int32)) + ((ux >>> ((1 : Int32) &&& 31)) &&& (1 : Int32))) + ((ux >>> ((2 : Int32) &&& 31)) &&& (1 : Int32))))])) (fun _ k => XS.iloadN X0.here hx rfl (hb hby d2_15) rfl  k) ?_
  refine own_by (B := s₁.setTop (mkF m 17 #[VI ux] [(.int 3), (.int ux), (.int (((ux &&& (1 : Int32)) + ((ux >>> ((1 : Int32) &&& 31)) &&& (1 : Int32))) + ((ux >>> ((2 : Int32) &&& 31)) &&& (1 : Int32))))])) (fun _ k => XS.iconst X0.here hx rfl (hb hby d2_16) k) ?_
  refine own_by (B := s₁.setTop (mkF m 18 #[VI ux] [(.int (ux >>> ((3 : Int32) &&& 31))), (.int (((ux &&& (1 : Int32)) + ((ux >>> ((1 : Int32) &&& 31)) &&& (1 : Int32))) + ((ux >>> ((2 : Int32) &&& 31)) &&& (1 : Int32))))])) (fun _ k => XT.ishr X0.here hx rfl (hb hby d2_17) rfl k) ?_
  refine own_by (B := s₁.setTop (mkF m 19 #[VI ux] [(.int 1), (.int (ux >>> ((3 : Int32) &&& 31))), (.int (((ux &&& (1 : Int32)) + ((ux >>> ((1 : Int32) &&& 31)) &&& (1 : Int32))) + ((ux >>> ((2 : Int32) &&& 31)) &&& (1 : Int32))))])) (fun _ k => XS.iconst X0.here hx rfl (hb hby d2_18) k) ?_
  refine own_by (B := s₁.setTop (mkF m 20 #[VI ux] [(.int ((ux >>> ((3 : Int32) &&& 31)) &&& (1 : Int32))), (.int (((ux &&& (1 : Int32)) + ((ux >>> ((1 : Int32) &&& 31)) &&& (1 : Int32))) + ((ux >>> ((2 : Int32) &&& 31)) &&& (1 : Int32))))])) (fun _ k => XS.iand X0.here hx rfl (hb hby d2_19) rfl k) ?_
  refine own_by (B := s₁.setTop (mkF m 21 #[VI ux] [(.int ((((ux &&& (1 : Int32)) + ((ux >>> ((1 : Int32) &&& 31)) &&& (1 : Int32))) + ((ux >>> ((2 : Int32) &&& 31)) &&& (1 : Int32))) + ((ux >>> ((3 : Int32) &&& 31)) &&& (1 : Int32))))])) (fun _ k => XS.iadd X0.here hx rfl (hb hby d2_20) rfl k) ?_
  exact own_retI X0 hx hrt hlk (hb hby d2_21) (by decide) (by decide) ⟨rfl, N0, e0⟩

def own_match (un : Int32) (ux : Int32) (uy : Int32) (uz : Int32) : Int32 := if (0 : Int32) < un then (if un = (1 : Int32) then (if ux = (0 : Int32) then (0 : Int32) else (1 : Int32)) else if un = (2 : Int32) then (if ux = (0 : Int32) then (0 : Int32) else if uy = (0 : Int32) then (0 : Int32) else if (own_pc (ux ||| uy)) < (2 : Int32) then (0 : Int32) else (1 : Int32)) else if ux = (0 : Int32) then (0 : Int32) else if uy = (0 : Int32) then (0 : Int32) else if uz = (0 : Int32) then (0 : Int32) else if (own_pc (ux ||| uy)) < (2 : Int32) then (0 : Int32) else if (own_pc (ux ||| uz)) < (2 : Int32) then (0 : Int32) else if (own_pc (uy ||| uz)) < (2 : Int32) then (0 : Int32) else if (own_pc ((ux ||| uy) ||| uz)) < (3 : Int32) then (0 : Int32) else (1 : Int32)) else (1 : Int32)

theorem d10_0 : decode method_4_code 0 = .ok (.iload_n 0, 1) := by decide +kernel
theorem d10_1 : decode method_4_code 1 = .ok (.ifCond .gt 5, 3) := by decide +kernel
theorem d10_4 : decode method_4_code 4 = .ok (.iconst 1, 1) := by decide +kernel
theorem d10_5 : decode method_4_code 5 = .ok (.ireturn, 1) := by decide +kernel
theorem d10_6 : decode method_4_code 6 = .ok (.iload_n 0, 1) := by decide +kernel
theorem d10_7 : decode method_4_code 7 = .ok (.iconst 1, 1) := by decide +kernel
theorem d10_8 : decode method_4_code 8 = .ok (.if_icmp .ne 13, 3) := by decide +kernel
theorem d10_11 : decode method_4_code 11 = .ok (.iload_n 1, 1) := by decide +kernel
theorem d10_12 : decode method_4_code 12 = .ok (.ifCond .eq 7, 3) := by decide +kernel
theorem d10_15 : decode method_4_code 15 = .ok (.iconst 1, 1) := by decide +kernel
theorem d10_16 : decode method_4_code 16 = .ok (.goto 4, 3) := by decide +kernel
theorem d10_19 : decode method_4_code 19 = .ok (.iconst 0, 1) := by decide +kernel
theorem d10_20 : decode method_4_code 20 = .ok (.ireturn, 1) := by decide +kernel
theorem d10_21 : decode method_4_code 21 = .ok (.iload_n 0, 1) := by decide +kernel
theorem d10_22 : decode method_4_code 22 = .ok (.iconst 2, 1) := by decide +kernel
theorem d10_23 : decode method_4_code 23 = .ok (.if_icmp .ne 27, 3) := by decide +kernel
theorem d10_26 : decode method_4_code 26 = .ok (.iload_n 1, 1) := by decide +kernel
theorem d10_27 : decode method_4_code 27 = .ok (.ifCond .eq 21, 3) := by decide +kernel
theorem d10_30 : decode method_4_code 30 = .ok (.iload_n 2, 1) := by decide +kernel
theorem d10_31 : decode method_4_code 31 = .ok (.ifCond .eq 17, 3) := by decide +kernel
theorem d10_34 : decode method_4_code 34 = .ok (.iload_n 1, 1) := by decide +kernel
theorem d10_35 : decode method_4_code 35 = .ok (.iload_n 2, 1) := by decide +kernel
theorem d10_36 : decode method_4_code 36 = .ok (.ior, 1) := by decide +kernel
theorem d10_37 : decode method_4_code 37 = .ok (.invokestatic 7, 3) := by decide +kernel
theorem d10_40 : decode method_4_code 40 = .ok (.iconst 2, 1) := by decide +kernel
theorem d10_41 : decode method_4_code 41 = .ok (.if_icmp .lt 7, 3) := by decide +kernel
theorem d10_44 : decode method_4_code 44 = .ok (.iconst 1, 1) := by decide +kernel
theorem d10_45 : decode method_4_code 45 = .ok (.goto 4, 3) := by decide +kernel
theorem d10_48 : decode method_4_code 48 = .ok (.iconst 0, 1) := by decide +kernel
theorem d10_49 : decode method_4_code 49 = .ok (.ireturn, 1) := by decide +kernel
theorem d10_50 : decode method_4_code 50 = .ok (.iload_n 1, 1) := by decide +kernel
theorem d10_51 : decode method_4_code 51 = .ok (.ifCond .eq 57, 3) := by decide +kernel
theorem d10_54 : decode method_4_code 54 = .ok (.iload_n 2, 1) := by decide +kernel
theorem d10_55 : decode method_4_code 55 = .ok (.ifCond .eq 53, 3) := by decide +kernel
theorem d10_58 : decode method_4_code 58 = .ok (.iload_n 3, 1) := by decide +kernel
theorem d10_59 : decode method_4_code 59 = .ok (.ifCond .eq 49, 3) := by decide +kernel
theorem d10_62 : decode method_4_code 62 = .ok (.iload_n 1, 1) := by decide +kernel
theorem d10_63 : decode method_4_code 63 = .ok (.iload_n 2, 1) := by decide +kernel
theorem d10_64 : decode method_4_code 64 = .ok (.ior, 1) := by decide +kernel
theorem d10_65 : decode method_4_code 65 = .ok (.invokestatic 7, 3) := by decide +kernel
theorem d10_68 : decode method_4_code 68 = .ok (.iconst 2, 1) := by decide +kernel
theorem d10_69 : decode method_4_code 69 = .ok (.if_icmp .lt 39, 3) := by decide +kernel
theorem d10_72 : decode method_4_code 72 = .ok (.iload_n 1, 1) := by decide +kernel
theorem d10_73 : decode method_4_code 73 = .ok (.iload_n 3, 1) := by decide +kernel
theorem d10_74 : decode method_4_code 74 = .ok (.ior, 1) := by decide +kernel
theorem d10_75 : decode method_4_code 75 = .ok (.invokestatic 7, 3) := by decide +kernel
theorem d10_78 : decode method_4_code 78 = .ok (.iconst 2, 1) := by decide +kernel
theorem d10_79 : decode method_4_code 79 = .ok (.if_icmp .lt 29, 3) := by decide +kernel
theorem d10_82 : decode method_4_code 82 = .ok (.iload_n 2, 1) := by decide +kernel
theorem d10_83 : decode method_4_code 83 = .ok (.iload_n 3, 1) := by decide +kernel
theorem d10_84 : decode method_4_code 84 = .ok (.ior, 1) := by decide +kernel
theorem d10_85 : decode method_4_code 85 = .ok (.invokestatic 7, 3) := by decide +kernel
theorem d10_88 : decode method_4_code 88 = .ok (.iconst 2, 1) := by decide +kernel
theorem d10_89 : decode method_4_code 89 = .ok (.if_icmp .lt 19, 3) := by decide +kernel
theorem d10_92 : decode method_4_code 92 = .ok (.iload_n 1, 1) := by decide +kernel
theorem d10_93 : decode method_4_code 93 = .ok (.iload_n 2, 1) := by decide +kernel
theorem d10_94 : decode method_4_code 94 = .ok (.ior, 1) := by decide +kernel
theorem d10_95 : decode method_4_code 95 = .ok (.iload_n 3, 1) := by decide +kernel
theorem d10_96 : decode method_4_code 96 = .ok (.ior, 1) := by decide +kernel
theorem d10_97 : decode method_4_code 97 = .ok (.invokestatic 7, 3) := by decide +kernel
theorem d10_100 : decode method_4_code 100 = .ok (.iconst 3, 1) := by decide +kernel
theorem d10_101 : decode method_4_code 101 = .ok (.if_icmp .lt 7, 3) := by decide +kernel
theorem d10_104 : decode method_4_code 104 = .ok (.iconst 1, 1) := by decide +kernel
theorem d10_105 : decode method_4_code 105 = .ok (.goto 4, 3) := by decide +kernel
theorem d10_108 : decode method_4_code 108 = .ok (.iconst 0, 1) := by decide +kernel
theorem d10_109 : decode method_4_code 109 = .ok (.ireturn, 1) := by decide +kernel
theorem pd_10__I_I : parseMethodDescriptor "(I)I" = some ⟨[.int], some .int⟩ := by decide +kernel
theorem pn_rm10 : plainFor (⟨"com/example/document_pattern_rules/documentpatternrules/pattern/PairingAddPinLaw", "match", "(IIII)Z"⟩ : MethodName) = true := by first | exact plainFor_of_name (by first | (simp [plainName, overriddenIn]; done) | decide +kernel) | exact Jvm.Free.JP.mathPlain rfl (by decide +kernel) | decide +kernel
theorem ef_rm10 (m : MethodId) (x0 : Int32) (x1 : Int32) (x2 : Int32) (x3 : Int32) : entryFrame m #[(.int x0), (.int x1), (.int x2), (.int x3)] 4 = mkF m 0 #[VI x0, VI x1, VI x2, VI x3] [] := by first | (simp [entryFrame, mkF, argsToLocals, Value.category]; done) | rfl
set_option maxRecDepth 65536 in
set_option maxHeartbeats 40000000 in
theorem rm10 (l : Launch) (Z : State) (a0 : Array Value) (hw : ∀ d ∈ tables_1, d.before a0 Z = true) (ws : List Jvm.Cond) (un ux uy uz : Int32) (h0 : Heap) (n0 : Nat) (Z0 : n0 ≤ h0.size)  :
    MetFree l (⟨"com/example/document_pattern_rules/documentpatternrules/pattern/PairingAddPinLaw", "match", "(IIII)Z"⟩ : MethodName) (head1 (Jvm.Cond.code (⟨"com/example/document_pattern_rules/documentpatternrules/pattern/PairingAddPinLaw", "match", "(IIII)Z"⟩ : MethodName) method_4_code 4 (some .boolean) :: ws) ({ frames := 1, cells := 0, slots := 0, locals := 12 } : Room)) (fun a U => a = #[(.int un), (.int ux), (.int uy), (.int uz)] ∧ Z.Warmed39 U.vm ∧ U.heap = h0) (fun _ _ _ _ _ => True) (fun _ U o U' => ∃ v L, o = .returned v ∧ (own_P (.int (own_match un ux uy uz)) h0 n0) v U'.heap L ∧ FrameEnd U o U' L 0 0) := by
  refine MetFree.of_bodySF pn_rm10 hisR ?_
  intro p e s m args below meth c s₁ Bd hml0 hP hK
  obtain ⟨rfl, hZ, hh⟩ := hP
  have hx := Bd.exec
  have hby := Bd.bytes
  have hml : c.maxLocals = 4 := hml0
  have hown : s.vm.findClass "com/example/document_pattern_rules/documentpatternrules/pattern/PairingAddPinLaw" = some m.cls := findClass_of_methodNamed Bd.named
  have hnm := (name_of_methodNamed Bd.named Bd.method).1
  have hrt := Bd.returns
  have hlk := Bd.notSynchronized
  have X0 : Stand p l e ({ frames := 1, cells := 0, slots := 0, locals := 12 } : Room) s m #[(.int un), (.int ux), (.int uy), (.int uz)] below meth c s₁ [] 0 0 := Stand.of_body Bd
  have e0 : s₁.heap = h0 := by rw [← hh, Bd.state]; rfl
  have N0 := Fr.nil n0
  refine own_done (B := s₁.setTop (mkF m 0 #[VI un, VI ux, VI uy, VI uz] [])) (fun t k => castTop (ef_rm10 m un ux uy uz) k) ?_
  refine own_by (B := s₁.setTop (mkF m 1 #[VI un, VI ux, VI uy, VI uz] [(.int un)])) (fun _ k => XS.iloadN X0.here hx rfl (hb hby d10_0) rfl  k) ?_
  by_cases hc1 : (0 : Int32) < un
  · refine own_by (B := s₁.setTop (mkF m 6 #[VI un, VI ux, VI uy, VI uz] [])) (fun _ k => XS.ifYes X0.here hx rfl (pc0 := 1) (pc' := 6) rfl (hb hby d10_1) rfl (XT.i0_gt_t hc1) (by decide) (by decide) k) ?_
    refine own_by (B := s₁.setTop (mkF m 7 #[VI un, VI ux, VI uy, VI uz] [(.int un)])) (fun _ k => XS.iloadN X0.here hx rfl (hb hby d10_6) rfl  k) ?_
    refine own_by (B := s₁.setTop (mkF m 8 #[VI un, VI ux, VI uy, VI uz] [(.int 1), (.int un)])) (fun _ k => XS.iconst X0.here hx rfl (hb hby d10_7) k) ?_
    by_cases hc2 : un = (1 : Int32)
    · refine own_by (B := s₁.setTop (mkF m 11 #[VI un, VI ux, VI uy, VI uz] [])) (fun _ k => XS.icmpNo X0.here hx rfl (hb hby d10_8) rfl (XT.ii_ne_f hc2) k) ?_
      refine own_by (B := s₁.setTop (mkF m 12 #[VI un, VI ux, VI uy, VI uz] [(.int ux)])) (fun _ k => XS.iloadN X0.here hx rfl (hb hby d10_11) rfl  k) ?_
      by_cases hc3 : ux = (0 : Int32)
      · refine own_by (B := s₁.setTop (mkF m 19 #[VI un, VI ux, VI uy, VI uz] [])) (fun _ k => XS.ifYes X0.here hx rfl (pc0 := 12) (pc' := 19) rfl (hb hby d10_12) rfl (XT.i0_eq_t hc3) (by decide) (by decide) k) ?_
        refine own_by (B := s₁.setTop (mkF m 20 #[VI un, VI ux, VI uy, VI uz] [(.int 0)])) (fun _ k => XS.iconst X0.here hx rfl (hb hby d10_19) k) ?_
        exact own_retZ X0 hx hrt hlk rfl (hb hby d10_20) (by decide) (by decide) ⟨(by unfold own_match; rw [if_pos hc1, if_pos hc2, if_pos hc3]), N0, e0⟩
      · refine own_by (B := s₁.setTop (mkF m 15 #[VI un, VI ux, VI uy, VI uz] [])) (fun _ k => XS.ifNo X0.here hx rfl (hb hby d10_12) rfl (XT.i0_eq_f hc3) k) ?_
        refine own_by (B := s₁.setTop (mkF m 16 #[VI un, VI ux, VI uy, VI uz] [(.int 1)])) (fun _ k => XS.iconst X0.here hx rfl (hb hby d10_15) k) ?_
        refine own_by (B := s₁.setTop (mkF m 20 #[VI un, VI ux, VI uy, VI uz] [(.int 1)])) (fun _ k => XS.goto X0.here hx rfl (pc0 := 16) (pc' := 20) rfl (hb hby d10_16) (by decide) (by decide) k) ?_
        exact own_retZ X0 hx hrt hlk rfl (hb hby d10_20) (by decide) (by decide) ⟨(by unfold own_match; rw [if_pos hc1, if_pos hc2, if_neg hc3]), N0, e0⟩
    · refine own_by (B := s₁.setTop (mkF m 21 #[VI un, VI ux, VI uy, VI uz] [])) (fun _ k => XS.icmpYes X0.here hx rfl (pc0 := 8) (pc' := 21) rfl (hb hby d10_8) rfl (XT.ii_ne_t hc2) (by decide) (by decide) k) ?_
      refine own_by (B := s₁.setTop (mkF m 22 #[VI un, VI ux, VI uy, VI uz] [(.int un)])) (fun _ k => XS.iloadN X0.here hx rfl (hb hby d10_21) rfl  k) ?_
      refine own_by (B := s₁.setTop (mkF m 23 #[VI un, VI ux, VI uy, VI uz] [(.int 2), (.int un)])) (fun _ k => XS.iconst X0.here hx rfl (hb hby d10_22) k) ?_
      by_cases hc4 : un = (2 : Int32)
      · refine own_by (B := s₁.setTop (mkF m 26 #[VI un, VI ux, VI uy, VI uz] [])) (fun _ k => XS.icmpNo X0.here hx rfl (hb hby d10_23) rfl (XT.ii_ne_f hc4) k) ?_
        refine own_by (B := s₁.setTop (mkF m 27 #[VI un, VI ux, VI uy, VI uz] [(.int ux)])) (fun _ k => XS.iloadN X0.here hx rfl (hb hby d10_26) rfl  k) ?_
        by_cases hc5 : ux = (0 : Int32)
        · refine own_by (B := s₁.setTop (mkF m 48 #[VI un, VI ux, VI uy, VI uz] [])) (fun _ k => XS.ifYes X0.here hx rfl (pc0 := 27) (pc' := 48) rfl (hb hby d10_27) rfl (XT.i0_eq_t hc5) (by decide) (by decide) k) ?_
          refine own_by (B := s₁.setTop (mkF m 49 #[VI un, VI ux, VI uy, VI uz] [(.int 0)])) (fun _ k => XS.iconst X0.here hx rfl (hb hby d10_48) k) ?_
          exact own_retZ X0 hx hrt hlk rfl (hb hby d10_49) (by decide) (by decide) ⟨(by unfold own_match; rw [if_pos hc1, if_neg hc2, if_pos hc4, if_pos hc5]), N0, e0⟩
        · refine own_by (B := s₁.setTop (mkF m 30 #[VI un, VI ux, VI uy, VI uz] [])) (fun _ k => XS.ifNo X0.here hx rfl (hb hby d10_27) rfl (XT.i0_eq_f hc5) k) ?_
          refine own_by (B := s₁.setTop (mkF m 31 #[VI un, VI ux, VI uy, VI uz] [(.int uy)])) (fun _ k => XS.iloadN X0.here hx rfl (hb hby d10_30) rfl  k) ?_
          by_cases hc6 : uy = (0 : Int32)
          · refine own_by (B := s₁.setTop (mkF m 48 #[VI un, VI ux, VI uy, VI uz] [])) (fun _ k => XS.ifYes X0.here hx rfl (pc0 := 31) (pc' := 48) rfl (hb hby d10_31) rfl (XT.i0_eq_t hc6) (by decide) (by decide) k) ?_
            refine own_by (B := s₁.setTop (mkF m 49 #[VI un, VI ux, VI uy, VI uz] [(.int 0)])) (fun _ k => XS.iconst X0.here hx rfl (hb hby d10_48) k) ?_
            exact own_retZ X0 hx hrt hlk rfl (hb hby d10_49) (by decide) (by decide) ⟨(by unfold own_match; rw [if_pos hc1, if_neg hc2, if_pos hc4, if_neg hc5, if_pos hc6]), N0, e0⟩
          · refine own_by (B := s₁.setTop (mkF m 34 #[VI un, VI ux, VI uy, VI uz] [])) (fun _ k => XS.ifNo X0.here hx rfl (hb hby d10_31) rfl (XT.i0_eq_f hc6) k) ?_
            refine own_by (B := s₁.setTop (mkF m 35 #[VI un, VI ux, VI uy, VI uz] [(.int ux)])) (fun _ k => XS.iloadN X0.here hx rfl (hb hby d10_34) rfl  k) ?_
            refine own_by (B := s₁.setTop (mkF m 36 #[VI un, VI ux, VI uy, VI uz] [(.int uy), (.int ux)])) (fun _ k => XS.iloadN X0.here hx rfl (hb hby d10_35) rfl  k) ?_
            refine own_by (B := s₁.setTop (mkF m 37 #[VI un, VI ux, VI uy, VI uz] [(.int (ux ||| uy))])) (fun _ k => XT.ior X0.here hx rfl (hb hby d10_36) rfl k) ?_
            obtain ⟨_, _, ⟨T7, L7, k7, n7⟩, -, X7, ⟨Lc7, hQ7, l7, y7, z7⟩, st7⟩ := Jvm.LawKit.callS X0 hx (y := (⟨"com/example/document_pattern_rules/documentpatternrules/pattern/PairingAddPinLaw", "pc", "(I)I"⟩ : MethodName)) hown (mvT hZ (own_hw 4 hw rfl)) (mvT hZ (own_hw 5 hw rfl)) (mvT hZ (own_hw 2 hw rfl)) (mvT hZ (own_hw 6 hw rfl)) (by decide) (backOf (W := 0) (rm2 l Z a0 hw [] (ux ||| uy) h0 n0 Z0) hZ (own_hw 6 hw rfl) (own_hw 2 hw rfl) (by decide) (by decide)) (g := (mkF m 37 #[VI un, VI ux, VI uy, VI uz] [(.int (ux ||| uy))])) rfl (by rw [hml]; rfl) (argsL := [(.int (ux ||| uy))]) (rest := []) (lenOf pd_10__I_I rfl) rfl (by show 2 * 0 + _ ≤ _; exact Nat.le_of_eq rfl) (hb hby d10_37) (fun _ _ => ⟨rfl, e0, (by decide : 0 + 0 ≤ _), (by decide : 0 + 0 ≤ _)⟩)
            dsimp only [Pt.U, Pt.locs, Pt.cells, Pt.slots] at X7 l7 y7 z7 st7 hQ7
            subst l7 y7 z7
            obtain ⟨rfl, N7, e7⟩ := hQ7
            refine own_by (B := T7.setTop (mkF m 40 #[VI un, VI ux, VI uy, VI uz] [(.int (own_pc (ux ||| uy)))])) st7 ?_
            have M7 := Fr.app N0 N7
            refine own_by (B := T7.setTop (mkF m 41 #[VI un, VI ux, VI uy, VI uz] [(.int 2), (.int (own_pc (ux ||| uy)))])) (fun _ k => XS.iconst X7.here hx rfl (hb hby d10_40) k) ?_
            by_cases hc8 : (own_pc (ux ||| uy)) < (2 : Int32)
            · refine own_by (B := T7.setTop (mkF m 48 #[VI un, VI ux, VI uy, VI uz] [])) (fun _ k => XS.icmpYes X7.here hx rfl (pc0 := 41) (pc' := 48) rfl (hb hby d10_41) rfl (XT.ii_lt_t hc8) (by decide) (by decide) k) ?_
              refine own_by (B := T7.setTop (mkF m 49 #[VI un, VI ux, VI uy, VI uz] [(.int 0)])) (fun _ k => XS.iconst X7.here hx rfl (hb hby d10_48) k) ?_
              exact own_retZ X7 hx hrt hlk rfl (hb hby d10_49) (by decide) (by decide) ⟨(by unfold own_match; rw [if_pos hc1, if_neg hc2, if_pos hc4, if_neg hc5, if_neg hc6, if_pos hc8]), M7, e7⟩
            · refine own_by (B := T7.setTop (mkF m 44 #[VI un, VI ux, VI uy, VI uz] [])) (fun _ k => XS.icmpNo X7.here hx rfl (hb hby d10_41) rfl (XT.ii_lt_f hc8) k) ?_
              refine own_by (B := T7.setTop (mkF m 45 #[VI un, VI ux, VI uy, VI uz] [(.int 1)])) (fun _ k => XS.iconst X7.here hx rfl (hb hby d10_44) k) ?_
              refine own_by (B := T7.setTop (mkF m 49 #[VI un, VI ux, VI uy, VI uz] [(.int 1)])) (fun _ k => XS.goto X7.here hx rfl (pc0 := 45) (pc' := 49) rfl (hb hby d10_45) (by decide) (by decide) k) ?_
              exact own_retZ X7 hx hrt hlk rfl (hb hby d10_49) (by decide) (by decide) ⟨(by unfold own_match; rw [if_pos hc1, if_neg hc2, if_pos hc4, if_neg hc5, if_neg hc6, if_neg hc8]), M7, e7⟩
      · refine own_by (B := s₁.setTop (mkF m 50 #[VI un, VI ux, VI uy, VI uz] [])) (fun _ k => XS.icmpYes X0.here hx rfl (pc0 := 23) (pc' := 50) rfl (hb hby d10_23) rfl (XT.ii_ne_t hc4) (by decide) (by decide) k) ?_
        refine own_by (B := s₁.setTop (mkF m 51 #[VI un, VI ux, VI uy, VI uz] [(.int ux)])) (fun _ k => XS.iloadN X0.here hx rfl (hb hby d10_50) rfl  k) ?_
        by_cases hc9 : ux = (0 : Int32)
        · refine own_by (B := s₁.setTop (mkF m 108 #[VI un, VI ux, VI uy, VI uz] [])) (fun _ k => XS.ifYes X0.here hx rfl (pc0 := 51) (pc' := 108) rfl (hb hby d10_51) rfl (XT.i0_eq_t hc9) (by decide) (by decide) k) ?_
          refine own_by (B := s₁.setTop (mkF m 109 #[VI un, VI ux, VI uy, VI uz] [(.int 0)])) (fun _ k => XS.iconst X0.here hx rfl (hb hby d10_108) k) ?_
          exact own_retZ X0 hx hrt hlk rfl (hb hby d10_109) (by decide) (by decide) ⟨(by unfold own_match; rw [if_pos hc1, if_neg hc2, if_neg hc4, if_pos hc9]), N0, e0⟩
        · refine own_by (B := s₁.setTop (mkF m 54 #[VI un, VI ux, VI uy, VI uz] [])) (fun _ k => XS.ifNo X0.here hx rfl (hb hby d10_51) rfl (XT.i0_eq_f hc9) k) ?_
          refine own_by (B := s₁.setTop (mkF m 55 #[VI un, VI ux, VI uy, VI uz] [(.int uy)])) (fun _ k => XS.iloadN X0.here hx rfl (hb hby d10_54) rfl  k) ?_
          by_cases hc10 : uy = (0 : Int32)
          · refine own_by (B := s₁.setTop (mkF m 108 #[VI un, VI ux, VI uy, VI uz] [])) (fun _ k => XS.ifYes X0.here hx rfl (pc0 := 55) (pc' := 108) rfl (hb hby d10_55) rfl (XT.i0_eq_t hc10) (by decide) (by decide) k) ?_
            refine own_by (B := s₁.setTop (mkF m 109 #[VI un, VI ux, VI uy, VI uz] [(.int 0)])) (fun _ k => XS.iconst X0.here hx rfl (hb hby d10_108) k) ?_
            exact own_retZ X0 hx hrt hlk rfl (hb hby d10_109) (by decide) (by decide) ⟨(by unfold own_match; rw [if_pos hc1, if_neg hc2, if_neg hc4, if_neg hc9, if_pos hc10]), N0, e0⟩
          · refine own_by (B := s₁.setTop (mkF m 58 #[VI un, VI ux, VI uy, VI uz] [])) (fun _ k => XS.ifNo X0.here hx rfl (hb hby d10_55) rfl (XT.i0_eq_f hc10) k) ?_
            refine own_by (B := s₁.setTop (mkF m 59 #[VI un, VI ux, VI uy, VI uz] [(.int uz)])) (fun _ k => XS.iloadN X0.here hx rfl (hb hby d10_58) rfl  k) ?_
            by_cases hc11 : uz = (0 : Int32)
            · refine own_by (B := s₁.setTop (mkF m 108 #[VI un, VI ux, VI uy, VI uz] [])) (fun _ k => XS.ifYes X0.here hx rfl (pc0 := 59) (pc' := 108) rfl (hb hby d10_59) rfl (XT.i0_eq_t hc11) (by decide) (by decide) k) ?_
              refine own_by (B := s₁.setTop (mkF m 109 #[VI un, VI ux, VI uy, VI uz] [(.int 0)])) (fun _ k => XS.iconst X0.here hx rfl (hb hby d10_108) k) ?_
              exact own_retZ X0 hx hrt hlk rfl (hb hby d10_109) (by decide) (by decide) ⟨(by unfold own_match; rw [if_pos hc1, if_neg hc2, if_neg hc4, if_neg hc9, if_neg hc10, if_pos hc11]), N0, e0⟩
            · refine own_by (B := s₁.setTop (mkF m 62 #[VI un, VI ux, VI uy, VI uz] [])) (fun _ k => XS.ifNo X0.here hx rfl (hb hby d10_59) rfl (XT.i0_eq_f hc11) k) ?_
              refine own_by (B := s₁.setTop (mkF m 63 #[VI un, VI ux, VI uy, VI uz] [(.int ux)])) (fun _ k => XS.iloadN X0.here hx rfl (hb hby d10_62) rfl  k) ?_
              refine own_by (B := s₁.setTop (mkF m 64 #[VI un, VI ux, VI uy, VI uz] [(.int uy), (.int ux)])) (fun _ k => XS.iloadN X0.here hx rfl (hb hby d10_63) rfl  k) ?_
              refine own_by (B := s₁.setTop (mkF m 65 #[VI un, VI ux, VI uy, VI uz] [(.int (ux ||| uy))])) (fun _ k => XT.ior X0.here hx rfl (hb hby d10_64) rfl k) ?_
              obtain ⟨_, _, ⟨T12, L12, k12, n12⟩, -, X12, ⟨Lc12, hQ12, l12, y12, z12⟩, st12⟩ := Jvm.LawKit.callS X0 hx (y := (⟨"com/example/document_pattern_rules/documentpatternrules/pattern/PairingAddPinLaw", "pc", "(I)I"⟩ : MethodName)) hown (mvT hZ (own_hw 4 hw rfl)) (mvT hZ (own_hw 5 hw rfl)) (mvT hZ (own_hw 2 hw rfl)) (mvT hZ (own_hw 6 hw rfl)) (by decide) (backOf (W := 0) (rm2 l Z a0 hw [] (ux ||| uy) h0 n0 Z0) hZ (own_hw 6 hw rfl) (own_hw 2 hw rfl) (by decide) (by decide)) (g := (mkF m 65 #[VI un, VI ux, VI uy, VI uz] [(.int (ux ||| uy))])) rfl (by rw [hml]; rfl) (argsL := [(.int (ux ||| uy))]) (rest := []) (lenOf pd_10__I_I rfl) rfl (by show 2 * 0 + _ ≤ _; exact Nat.le_of_eq rfl) (hb hby d10_65) (fun _ _ => ⟨rfl, e0, (by decide : 0 + 0 ≤ _), (by decide : 0 + 0 ≤ _)⟩)
              dsimp only [Pt.U, Pt.locs, Pt.cells, Pt.slots] at X12 l12 y12 z12 st12 hQ12
              subst l12 y12 z12
              obtain ⟨rfl, N12, e12⟩ := hQ12
              refine own_by (B := T12.setTop (mkF m 68 #[VI un, VI ux, VI uy, VI uz] [(.int (own_pc (ux ||| uy)))])) st12 ?_
              have M12 := Fr.app N0 N12
              refine own_by (B := T12.setTop (mkF m 69 #[VI un, VI ux, VI uy, VI uz] [(.int 2), (.int (own_pc (ux ||| uy)))])) (fun _ k => XS.iconst X12.here hx rfl (hb hby d10_68) k) ?_
              by_cases hc13 : (own_pc (ux ||| uy)) < (2 : Int32)
              · refine own_by (B := T12.setTop (mkF m 108 #[VI un, VI ux, VI uy, VI uz] [])) (fun _ k => XS.icmpYes X12.here hx rfl (pc0 := 69) (pc' := 108) rfl (hb hby d10_69) rfl (XT.ii_lt_t hc13) (by decide) (by decide) k) ?_
                refine own_by (B := T12.setTop (mkF m 109 #[VI un, VI ux, VI uy, VI uz] [(.int 0)])) (fun _ k => XS.iconst X12.here hx rfl (hb hby d10_108) k) ?_
                exact own_retZ X12 hx hrt hlk rfl (hb hby d10_109) (by decide) (by decide) ⟨(by unfold own_match; rw [if_pos hc1, if_neg hc2, if_neg hc4, if_neg hc9, if_neg hc10, if_neg hc11, if_pos hc13]), M12, e12⟩
              · refine own_by (B := T12.setTop (mkF m 72 #[VI un, VI ux, VI uy, VI uz] [])) (fun _ k => XS.icmpNo X12.here hx rfl (hb hby d10_69) rfl (XT.ii_lt_f hc13) k) ?_
                refine own_by (B := T12.setTop (mkF m 73 #[VI un, VI ux, VI uy, VI uz] [(.int ux)])) (fun _ k => XS.iloadN X12.here hx rfl (hb hby d10_72) rfl  k) ?_
                refine own_by (B := T12.setTop (mkF m 74 #[VI un, VI ux, VI uy, VI uz] [(.int uz), (.int ux)])) (fun _ k => XS.iloadN X12.here hx rfl (hb hby d10_73) rfl  k) ?_
                refine own_by (B := T12.setTop (mkF m 75 #[VI un, VI ux, VI uy, VI uz] [(.int (ux ||| uz))])) (fun _ k => XT.ior X12.here hx rfl (hb hby d10_74) rfl k) ?_
                obtain ⟨_, _, ⟨T14, L14, k14, n14⟩, -, X14, ⟨Lc14, hQ14, l14, y14, z14⟩, st14⟩ := Jvm.LawKit.callS X12 hx (y := (⟨"com/example/document_pattern_rules/documentpatternrules/pattern/PairingAddPinLaw", "pc", "(I)I"⟩ : MethodName)) hown (mvT hZ (own_hw 4 hw rfl)) (mvT hZ (own_hw 5 hw rfl)) (mvT hZ (own_hw 2 hw rfl)) (mvT hZ (own_hw 6 hw rfl)) (by decide) (backOf (W := 0) (rm2 l Z a0 hw [] (ux ||| uz) h0 n0 Z0) hZ (own_hw 6 hw rfl) (own_hw 2 hw rfl) (by decide) (by decide)) (g := (mkF m 75 #[VI un, VI ux, VI uy, VI uz] [(.int (ux ||| uz))])) rfl (by rw [hml]; rfl) (argsL := [(.int (ux ||| uz))]) (rest := []) (lenOf pd_10__I_I rfl) rfl (by show 2 * 0 + _ ≤ _; exact Nat.le_of_eq rfl) (hb hby d10_75) (fun _ _ => ⟨rfl, e12, (by decide : 0 + 0 ≤ _), (by decide : 0 + 0 ≤ _)⟩)
                dsimp only [Pt.U, Pt.locs, Pt.cells, Pt.slots] at X14 l14 y14 z14 st14 hQ14
                subst l14 y14 z14
                obtain ⟨rfl, N14, e14⟩ := hQ14
                refine own_by (B := T14.setTop (mkF m 78 #[VI un, VI ux, VI uy, VI uz] [(.int (own_pc (ux ||| uz)))])) st14 ?_
                have M14 := Fr.app M12 N14
                refine own_by (B := T14.setTop (mkF m 79 #[VI un, VI ux, VI uy, VI uz] [(.int 2), (.int (own_pc (ux ||| uz)))])) (fun _ k => XS.iconst X14.here hx rfl (hb hby d10_78) k) ?_
                by_cases hc15 : (own_pc (ux ||| uz)) < (2 : Int32)
                · refine own_by (B := T14.setTop (mkF m 108 #[VI un, VI ux, VI uy, VI uz] [])) (fun _ k => XS.icmpYes X14.here hx rfl (pc0 := 79) (pc' := 108) rfl (hb hby d10_79) rfl (XT.ii_lt_t hc15) (by decide) (by decide) k) ?_
                  refine own_by (B := T14.setTop (mkF m 109 #[VI un, VI ux, VI uy, VI uz] [(.int 0)])) (fun _ k => XS.iconst X14.here hx rfl (hb hby d10_108) k) ?_
                  exact own_retZ X14 hx hrt hlk rfl (hb hby d10_109) (by decide) (by decide) ⟨(by unfold own_match; rw [if_pos hc1, if_neg hc2, if_neg hc4, if_neg hc9, if_neg hc10, if_neg hc11, if_neg hc13, if_pos hc15]), M14, e14⟩
                · refine own_by (B := T14.setTop (mkF m 82 #[VI un, VI ux, VI uy, VI uz] [])) (fun _ k => XS.icmpNo X14.here hx rfl (hb hby d10_79) rfl (XT.ii_lt_f hc15) k) ?_
                  refine own_by (B := T14.setTop (mkF m 83 #[VI un, VI ux, VI uy, VI uz] [(.int uy)])) (fun _ k => XS.iloadN X14.here hx rfl (hb hby d10_82) rfl  k) ?_
                  refine own_by (B := T14.setTop (mkF m 84 #[VI un, VI ux, VI uy, VI uz] [(.int uz), (.int uy)])) (fun _ k => XS.iloadN X14.here hx rfl (hb hby d10_83) rfl  k) ?_
                  refine own_by (B := T14.setTop (mkF m 85 #[VI un, VI ux, VI uy, VI uz] [(.int (uy ||| uz))])) (fun _ k => XT.ior X14.here hx rfl (hb hby d10_84) rfl k) ?_
                  obtain ⟨_, _, ⟨T16, L16, k16, n16⟩, -, X16, ⟨Lc16, hQ16, l16, y16, z16⟩, st16⟩ := Jvm.LawKit.callS X14 hx (y := (⟨"com/example/document_pattern_rules/documentpatternrules/pattern/PairingAddPinLaw", "pc", "(I)I"⟩ : MethodName)) hown (mvT hZ (own_hw 4 hw rfl)) (mvT hZ (own_hw 5 hw rfl)) (mvT hZ (own_hw 2 hw rfl)) (mvT hZ (own_hw 6 hw rfl)) (by decide) (backOf (W := 0) (rm2 l Z a0 hw [] (uy ||| uz) h0 n0 Z0) hZ (own_hw 6 hw rfl) (own_hw 2 hw rfl) (by decide) (by decide)) (g := (mkF m 85 #[VI un, VI ux, VI uy, VI uz] [(.int (uy ||| uz))])) rfl (by rw [hml]; rfl) (argsL := [(.int (uy ||| uz))]) (rest := []) (lenOf pd_10__I_I rfl) rfl (by show 2 * 0 + _ ≤ _; exact Nat.le_of_eq rfl) (hb hby d10_85) (fun _ _ => ⟨rfl, e14, (by decide : 0 + 0 ≤ _), (by decide : 0 + 0 ≤ _)⟩)
                  dsimp only [Pt.U, Pt.locs, Pt.cells, Pt.slots] at X16 l16 y16 z16 st16 hQ16
                  subst l16 y16 z16
                  obtain ⟨rfl, N16, e16⟩ := hQ16
                  refine own_by (B := T16.setTop (mkF m 88 #[VI un, VI ux, VI uy, VI uz] [(.int (own_pc (uy ||| uz)))])) st16 ?_
                  have M16 := Fr.app M14 N16
                  refine own_by (B := T16.setTop (mkF m 89 #[VI un, VI ux, VI uy, VI uz] [(.int 2), (.int (own_pc (uy ||| uz)))])) (fun _ k => XS.iconst X16.here hx rfl (hb hby d10_88) k) ?_
                  by_cases hc17 : (own_pc (uy ||| uz)) < (2 : Int32)
                  · refine own_by (B := T16.setTop (mkF m 108 #[VI un, VI ux, VI uy, VI uz] [])) (fun _ k => XS.icmpYes X16.here hx rfl (pc0 := 89) (pc' := 108) rfl (hb hby d10_89) rfl (XT.ii_lt_t hc17) (by decide) (by decide) k) ?_
                    refine own_by (B := T16.setTop (mkF m 109 #[VI un, VI ux, VI uy, VI uz] [(.int 0)])) (fun _ k => XS.iconst X16.here hx rfl (hb hby d10_108) k) ?_
                    exact own_retZ X16 hx hrt hlk rfl (hb hby d10_109) (by decide) (by decide) ⟨(by unfold own_match; rw [if_pos hc1, if_neg hc2, if_neg hc4, if_neg hc9, if_neg hc10, if_neg hc11, if_neg hc13, if_neg hc15, if_pos hc17]), M16, e16⟩
                  · refine own_by (B := T16.setTop (mkF m 92 #[VI un, VI ux, VI uy, VI uz] [])) (fun _ k => XS.icmpNo X16.here hx rfl (hb hby d10_89) rfl (XT.ii_lt_f hc17) k) ?_
                    refine own_by (B := T16.setTop (mkF m 93 #[VI un, VI ux, VI uy, VI uz] [(.int ux)])) (fun _ k => XS.iloadN X16.here hx rfl (hb hby d10_92) rfl  k) ?_
                    refine own_by (B := T16.setTop (mkF m 94 #[VI un, VI ux, VI uy, VI uz] [(.int uy), (.int ux)])) (fun _ k => XS.iloadN X16.here hx rfl (hb hby d10_93) rfl  k) ?_
                    refine own_by (B := T16.setTop (mkF m 95 #[VI un, VI ux, VI uy, VI uz] [(.int (ux ||| uy))])) (fun _ k => XT.ior X16.here hx rfl (hb hby d10_94) rfl k) ?_
                    refine own_by (B := T16.setTop (mkF m 96 #[VI un, VI ux, VI uy, VI uz] [(.int uz), (.int (ux ||| uy))])) (fun _ k => XS.iloadN X16.here hx rfl (hb hby d10_95) rfl  k) ?_
                    refine own_by (B := T16.setTop (mkF m 97 #[VI un, VI ux, VI uy, VI uz] [(.int ((ux ||| uy) ||| uz))])) (fun _ k => XT.ior X16.here hx rfl (hb hby d10_96) rfl k) ?_
                    obtain ⟨_, _, ⟨T18, L18, k18, n18⟩, -, X18, ⟨Lc18, hQ18, l18, y18, z18⟩, st18⟩ := Jvm.LawKit.callS X16 hx (y := (⟨"com/example/document_pattern_rules/documentpatternrules/pattern/PairingAddPinLaw", "pc", "(I)I"⟩ : MethodName)) hown (mvT hZ (own_hw 4 hw rfl)) (mvT hZ (own_hw 5 hw rfl)) (mvT hZ (own_hw 2 hw rfl)) (mvT hZ (own_hw 6 hw rfl)) (by decide) (backOf (W := 0) (rm2 l Z a0 hw [] ((ux ||| uy) ||| uz) h0 n0 Z0) hZ (own_hw 6 hw rfl) (own_hw 2 hw rfl) (by decide) (by decide)) (g := (mkF m 97 #[VI un, VI ux, VI uy, VI uz] [(.int ((ux ||| uy) ||| uz))])) rfl (by rw [hml]; rfl) (argsL := [(.int ((ux ||| uy) ||| uz))]) (rest := []) (lenOf pd_10__I_I rfl) rfl (by show 2 * 0 + _ ≤ _; exact Nat.le_of_eq rfl) (hb hby d10_97) (fun _ _ => ⟨rfl, e16, (by decide : 0 + 0 ≤ _), (by decide : 0 + 0 ≤ _)⟩)
                    dsimp only [Pt.U, Pt.locs, Pt.cells, Pt.slots] at X18 l18 y18 z18 st18 hQ18
                    subst l18 y18 z18
                    obtain ⟨rfl, N18, e18⟩ := hQ18
                    refine own_by (B := T18.setTop (mkF m 100 #[VI un, VI ux, VI uy, VI uz] [(.int (own_pc ((ux ||| uy) ||| uz)))])) st18 ?_
                    have M18 := Fr.app M16 N18
                    refine own_by (B := T18.setTop (mkF m 101 #[VI un, VI ux, VI uy, VI uz] [(.int 3), (.int (own_pc ((ux ||| uy) ||| uz)))])) (fun _ k => XS.iconst X18.here hx rfl (hb hby d10_100) k) ?_
                    by_cases hc19 : (own_pc ((ux ||| uy) ||| uz)) < (3 : Int32)
                    · refine own_by (B := T18.setTop (mkF m 108 #[VI un, VI ux, VI uy, VI uz] [])) (fun _ k => XS.icmpYes X18.here hx rfl (pc0 := 101) (pc' := 108) rfl (hb hby d10_101) rfl (XT.ii_lt_t hc19) (by decide) (by decide) k) ?_
                      refine own_by (B := T18.setTop (mkF m 109 #[VI un, VI ux, VI uy, VI uz] [(.int 0)])) (fun _ k => XS.iconst X18.here hx rfl (hb hby d10_108) k) ?_
                      exact own_retZ X18 hx hrt hlk rfl (hb hby d10_109) (by decide) (by decide) ⟨(by unfold own_match; rw [if_pos hc1, if_neg hc2, if_neg hc4, if_neg hc9, if_neg hc10, if_neg hc11, if_neg hc13, if_neg hc15, if_neg hc17, if_pos hc19]), M18, e18⟩
                    · refine own_by (B := T18.setTop (mkF m 104 #[VI un, VI ux, VI uy, VI uz] [])) (fun _ k => XS.icmpNo X18.here hx rfl (hb hby d10_101) rfl (XT.ii_lt_f hc19) k) ?_
                      refine own_by (B := T18.setTop (mkF m 105 #[VI un, VI ux, VI uy, VI uz] [(.int 1)])) (fun _ k => XS.iconst X18.here hx rfl (hb hby d10_104) k) ?_
                      refine own_by (B := T18.setTop (mkF m 109 #[VI un, VI ux, VI uy, VI uz] [(.int 1)])) (fun _ k => XS.goto X18.here hx rfl (pc0 := 105) (pc' := 109) rfl (hb hby d10_105) (by decide) (by decide) k) ?_
                      exact own_retZ X18 hx hrt hlk rfl (hb hby d10_109) (by decide) (by decide) ⟨(by unfold own_match; rw [if_pos hc1, if_neg hc2, if_neg hc4, if_neg hc9, if_neg hc10, if_neg hc11, if_neg hc13, if_neg hc15, if_neg hc17, if_neg hc19]), M18, e18⟩
  · refine own_by (B := s₁.setTop (mkF m 4 #[VI un, VI ux, VI uy, VI uz] [])) (fun _ k => XS.ifNo X0.here hx rfl (hb hby d10_1) rfl (XT.i0_gt_f hc1) k) ?_
    refine own_by (B := s₁.setTop (mkF m 5 #[VI un, VI ux, VI uy, VI uz] [(.int 1)])) (fun _ k => XS.iconst X0.here hx rfl (hb hby d10_4) k) ?_
    exact own_retZ X0 hx hrt hlk rfl (hb hby d10_5) (by decide) (by decide) ⟨(by unfold own_match; rw [if_neg hc1]), N0, e0⟩

def own_feas (ui : Int32) (un : Int32) (ux : Int32) (uy : Int32) (uz : Int32) : Int32 := if (ux &&& ((1 : Int32) <<< (ui &&& 31))) = (0 : Int32) then (0 : Int32) else if (own_match (un - (1 : Int32)) (uy &&& (((1 : Int32) <<< (ui &&& 31)) ^^^ (-1 : Int32))) (uz &&& (((1 : Int32) <<< (ui &&& 31)) ^^^ (-1 : Int32))) (0 : Int32)) = (0 : Int32) then (0 : Int32) else (1 : Int32)

theorem d14_0 : decode method_5_code 0 = .ok (.iconst 1, 1) := by decide +kernel
theorem d14_1 : decode method_5_code 1 = .ok (.iload_n 0, 1) := by decide +kernel
theorem d14_2 : decode method_5_code 2 = .ok (.ishl, 1) := by decide +kernel
theorem d14_3 : decode method_5_code 3 = .ok (.istore 5, 2) := by decide +kernel
theorem d14_5 : decode method_5_code 5 = .ok (.iload_n 2, 1) := by decide +kernel
theorem d14_6 : decode method_5_code 6 = .ok (.iload 5, 2) := by decide +kernel
theorem d14_8 : decode method_5_code 8 = .ok (.iand, 1) := by decide +kernel
theorem d14_9 : decode method_5_code 9 = .ok (.ifCond .eq 30, 3) := by decide +kernel
theorem d14_12 : decode method_5_code 12 = .ok (.iload_n 1, 1) := by decide +kernel
theorem d14_13 : decode method_5_code 13 = .ok (.iconst 1, 1) := by decide +kernel
theorem d14_14 : decode method_5_code 14 = .ok (.isub, 1) := by decide +kernel
theorem d14_15 : decode method_5_code 15 = .ok (.iload_n 3, 1) := by decide +kernel
theorem d14_16 : decode method_5_code 16 = .ok (.iload 5, 2) := by decide +kernel
theorem d14_18 : decode method_5_code 18 = .ok (.iconst (-1), 1) := by decide +kernel
theorem d14_19 : decode method_5_code 19 = .ok (.ixor, 1) := by decide +kernel
theorem d14_20 : decode method_5_code 20 = .ok (.iand, 1) := by decide +kernel
theorem d14_21 : decode method_5_code 21 = .ok (.iload 4, 2) := by decide +kernel
theorem d14_23 : decode method_5_code 23 = .ok (.iload 5, 2) := by decide +kernel
theorem d14_25 : decode method_5_code 25 = .ok (.iconst (-1), 1) := by decide +kernel
theorem d14_26 : decode method_5_code 26 = .ok (.ixor, 1) := by decide +kernel
theorem d14_27 : decode method_5_code 27 = .ok (.iand, 1) := by decide +kernel
theorem d14_28 : decode method_5_code 28 = .ok (.iconst 0, 1) := by decide +kernel
theorem d14_29 : decode method_5_code 29 = .ok (.invokestatic 13, 3) := by decide +kernel
theorem d14_32 : decode method_5_code 32 = .ok (.ifCond .eq 7, 3) := by decide +kernel
theorem d14_35 : decode method_5_code 35 = .ok (.iconst 1, 1) := by decide +kernel
theorem d14_36 : decode method_5_code 36 = .ok (.goto 4, 3) := by decide +kernel
theorem d14_39 : decode method_5_code 39 = .ok (.iconst 0, 1) := by decide +kernel
theorem d14_40 : decode method_5_code 40 = .ok (.ireturn, 1) := by decide +kernel
theorem pd_14__IIII_Z : parseMethodDescriptor "(IIII)Z" = some ⟨[.int, .int, .int, .int], some .boolean⟩ := by decide +kernel
theorem pn_rm14 : plainFor (⟨"com/example/document_pattern_rules/documentpatternrules/pattern/PairingAddPinLaw", "feasible", "(IIIII)Z"⟩ : MethodName) = true := by first | exact plainFor_of_name (by first | (simp [plainName, overriddenIn]; done) | decide +kernel) | exact Jvm.Free.JP.mathPlain rfl (by decide +kernel) | decide +kernel
theorem ef_rm14 (m : MethodId) (x0 : Int32) (x1 : Int32) (x2 : Int32) (x3 : Int32) (x4 : Int32) : entryFrame m #[(.int x0), (.int x1), (.int x2), (.int x3), (.int x4)] 6 = mkF m 0 #[VI x0, VI x1, VI x2, VI x3, VI x4, UU] [] := by first | (simp [entryFrame, mkF, argsToLocals, Value.category]; done) | rfl
set_option maxRecDepth 65536 in
set_option maxHeartbeats 40000000 in
theorem rm14 (l : Launch) (Z : State) (a0 : Array Value) (hw : ∀ d ∈ tables_1, d.before a0 Z = true) (ws : List Jvm.Cond) (ui un ux uy uz : Int32) (h0 : Heap) (n0 : Nat) (Z0 : n0 ≤ h0.size)  :
    MetFree l (⟨"com/example/document_pattern_rules/documentpatternrules/pattern/PairingAddPinLaw", "feasible", "(IIIII)Z"⟩ : MethodName) (head1 (Jvm.Cond.code (⟨"com/example/document_pattern_rules/documentpatternrules/pattern/PairingAddPinLaw", "feasible", "(IIIII)Z"⟩ : MethodName) method_5_code 6 (some .boolean) :: ws) ({ frames := 2, cells := 0, slots := 0, locals := 27 } : Room)) (fun a U => a = #[(.int ui), (.int un), (.int ux), (.int uy), (.int uz)] ∧ Z.Warmed39 U.vm ∧ U.heap = h0) (fun _ _ _ _ _ => True) (fun _ U o U' => ∃ v L, o = .returned v ∧ (own_P (.int (own_feas ui un ux uy uz)) h0 n0) v U'.heap L ∧ FrameEnd U o U' L 0 0) := by
  refine MetFree.of_bodySF pn_rm14 hisR ?_
  intro p e s m args below meth c s₁ Bd hml0 hP hK
  obtain ⟨rfl, hZ, hh⟩ := hP
  have hx := Bd.exec
  have hby := Bd.bytes
  have hml : c.maxLocals = 6 := hml0
  have hown : s.vm.findClass "com/example/document_pattern_rules/documentpatternrules/pattern/PairingAddPinLaw" = some m.cls := findClass_of_methodNamed Bd.named
  have hnm := (name_of_methodNamed Bd.named Bd.method).1
  have hrt := Bd.returns
  have hlk := Bd.notSynchronized
  have X0 : Stand p l e ({ frames := 2, cells := 0, slots := 0, locals := 27 } : Room) s m #[(.int ui), (.int un), (.int ux), (.int uy), (.int uz)] below meth c s₁ [] 0 0 := Stand.of_body Bd
  have e0 : s₁.heap = h0 := by rw [← hh, Bd.state]; rfl
  have N0 := Fr.nil n0
  refine own_done (B := s₁.setTop (mkF m 0 #[VI ui, VI un, VI ux, VI uy, VI uz, UU] [])) (fun t k => castTop (ef_rm14 m ui un ux uy uz) k) ?_
  refine own_by (B := s₁.setTop (mkF m 1 #[VI ui, VI un, VI ux, VI uy, VI uz, UU] [(.int 1)])) (fun _ k => XS.iconst X0.here hx rfl (hb hby d14_0) k) ?_
  refine own_by (B := s₁.setTop (mkF m 2 #[VI ui, VI un, VI ux, VI uy, VI uz, UU] [(.int ui), (.int 1)])) (fun _ k => XS.iloadN X0.here hx rfl (hb hby d14_1) rfl  k) ?_
  refine own_by (B := s₁.setTop (mkF m 3 #[VI ui, VI un, VI ux, VI uy, VI uz, UU] [(.int ((1 : Int32) <<< (ui &&& 31)))])) (fun _ k => XT.ishl X0.here hx rfl (hb hby d14_2) rfl k) ?_
  refine own_by (B := s₁.setTop (mkF m 5 #[VI ui, VI un, VI ux, VI uy, VI uz, .val (.int ((1 : Int32) <<< (ui &&& 31)))] [])) (fun _ k => XS.istore X0.here hx rfl (hb hby d14_3) rfl (l' := #[VI ui, VI un, VI ux, VI uy, VI uz, .val (.int ((1 : Int32) <<< (ui &&& 31)))]) rfl k) ?_
  refine own_by (B := s₁.setTop (mkF m 6 #[VI ui, VI un, VI ux, VI uy, VI uz, .val (.int ((1 : Int32) <<< (ui &&& 31)))] [(.int ux)])) (fun _ k => XS.iloadN X0.here hx rfl (hb hby d14_5) rfl  k) ?_
  refine own_by (B := s₁.setTop (mkF m 8 #[VI ui, VI un, VI ux, VI uy, VI uz, .val (.int ((1 : Int32) <<< (ui &&& 31)))] [(.int ((1 : Int32) <<< (ui &&& 31))), (.int ux)])) (fun _ k => XS.iload X0.here hx rfl (hb hby d14_6) rfl  k) ?_
  refine own_by (B := s₁.setTop (mkF m 9 #[VI ui, VI un, VI ux, VI uy, VI uz, .val (.int ((1 : Int32) <<< (ui &&& 31)))] [(.int (ux &&& ((1 : Int32) <<< (ui &&& 31))))])) (fun _ k => XS.iand X0.here hx rfl (hb hby d14_8) rfl k) ?_
  by_cases hc1 : (ux &&& ((1 : Int32) <<< (ui &&& 31))) = (0 : Int32)
  · refine own_by (B := s₁.setTop (mkF m 39 #[VI ui, VI un, VI ux, VI uy, VI uz, .val (.int ((1 : Int32) <<< (ui &&& 31)))] [])) (fun _ k => XS.ifYes X0.here hx rfl (pc0 := 9) (pc' := 39) rfl (hb hby d14_9) rfl (XT.i0_eq_t hc1) (by decide) (by decide) k) ?_
    refine own_by (B := s₁.setTop (mkF m 40 #[VI ui, VI un, VI ux, VI uy, VI uz, .val (.int ((1 : Int32) <<< (ui &&& 31)))] [(.int 0)])) (fun _ k => XS.iconst X0.here hx rfl (hb hby d14_39) k) ?_
    exact own_retZ X0 hx hrt hlk rfl (hb hby d14_40) (by decide) (by decide) ⟨(by unfold own_feas; rw [if_pos hc1]), N0, e0⟩
  · refine own_by (B := s₁.setTop (mkF m 12 #[VI ui, VI un, VI ux, VI uy, VI uz, .val (.int ((1 : Int32) <<< (ui &&& 31)))] [])) (fun _ k => XS.ifNo X0.here hx rfl (hb hby d14_9) rfl (XT.i0_eq_f hc1) k) ?_
    refine own_by (B := s₁.setTop (mkF m 13 #[VI ui, VI un, VI ux, VI uy, VI uz, .val (.int ((1 : Int32) <<< (ui &&& 31)))] [(.int un)])) (fun _ k => XS.iloadN X0.here hx rfl (hb hby d14_12) rfl  k) ?_
    refine own_by (B := s₁.setTop (mkF m 14 #[VI ui, VI un, VI ux, VI uy, VI uz, .val (.int ((1 : Int32) <<< (ui &&& 31)))] [(.int 1), (.int un)])) (fun _ k => XS.iconst X0.here hx rfl (hb hby d14_13) k) ?_
    refine own_by (B := s₁.setTop (mkF m 15 #[VI ui, VI un, VI ux, VI uy, VI uz, .val (.int ((1 : Int32) <<< (ui &&& 31)))] [(.int (un - (1 : Int32)))])) (fun _ k => XS.isub X0.here hx rfl (hb hby d14_14) rfl k) ?_
    refine own_by (B := s₁.setTop (mkF m 16 #[VI ui, VI un, VI ux, VI uy, VI uz, .val (.int ((1 : Int32) <<< (ui &&& 31)))] [(.int uy), (.int (un - (1 : Int32)))])) (fun _ k => XS.iloadN X0.here hx rfl (hb hby d14_15) rfl  k) ?_
    refine own_by (B := s₁.setTop (mkF m 18 #[VI ui, VI un, VI ux, VI uy, VI uz, .val (.int ((1 : Int32) <<< (ui &&& 31)))] [(.int ((1 : Int32) <<< (ui &&& 31))), (.int uy), (.int (un - (1 : Int32)))])) (fun _ k => XS.iload X0.here hx rfl (hb hby d14_16) rfl  k) ?_
    refine own_by (B := s₁.setTop (mkF m 19 #[VI ui, VI un, VI ux, VI uy, VI uz, .val (.int ((1 : Int32) <<< (ui &&& 31)))] [(.int (-1 : Int32)), (.int ((1 : Int32) <<< (ui &&& 31))), (.int uy), (.int (un - (1 : Int32)))])) (fun _ k => XS.iconst X0.here hx rfl (hb hby d14_18) k) ?_
    refine own_by (B := s₁.setTop (mkF m 20 #[VI ui, VI un, VI ux, VI uy, VI uz, .val (.int ((1 : Int32) <<< (ui &&& 31)))] [(.int (((1 : Int32) <<< (ui &&& 31)) ^^^ (-1 : Int32))), (.int uy), (.int (un - (1 : Int32)))])) (fun _ k => XT.ixor X0.here hx rfl (hb hby d14_19) rfl k) ?_
    refine own_by (B := s₁.setTop (mkF m 21 #[VI ui, VI un, VI ux, VI uy, VI uz, .val (.int ((1 : Int32) <<< (ui &&& 31)))] [(.int (uy &&& (((1 : Int32) <<< (ui &&& 31)) ^^^ (-1 : Int32)))), (.int (un - (1 : Int32)))])) (fun _ k => XS.iand X0.here hx rfl (hb hby d14_20) rfl k) ?_
    refine own_by (B := s₁.setTop (mkF m 23 #[VI ui, VI un, VI ux, VI uy, VI uz, .val (.int ((1 : Int32) <<< (ui &&& 31)))] [(.int uz), (.int (uy &&& (((1 : Int32) <<< (ui &&& 31)) ^^^ (-1 : Int32)))), (.int (un - (1 : Int32)))])) (fun _ k => XS.iload X0.here hx rfl (hb hby d14_21) rfl  k) ?_
    refine own_by (B := s₁.setTop (mkF m 25 #[VI ui, VI un, VI ux, VI uy, VI uz, .val (.int ((1 : Int32) <<< (ui &&& 31)))] [(.int ((1 : Int32) <<< (ui &&& 31))), (.int uz), (.int (uy &&& (((1 : Int32) <<< (ui &&& 31)) ^^^ (-1 : Int32)))), (.int (un - (1 : Int32)))])) (fun _ k => XS.iload X0.here hx rfl (hb hby d14_23) rfl  k) ?_
    refine own_by (B := s₁.setTop (mkF m 26 #[VI ui, VI un, VI ux, VI uy, VI uz, .val (.int ((1 : Int32) <<< (ui &&& 31)))] [(.int (-1 : Int32)), (.int ((1 : Int32) <<< (ui &&& 31))), (.int uz), (.int (uy &&& (((1 : Int32) <<< (ui &&& 31)) ^^^ (-1 : Int32)))), (.int (un - (1 : Int32)))])) (fun _ k => XS.iconst X0.here hx rfl (hb hby d14_25) k) ?_
    refine own_by (B := s₁.setTop (mkF m 27 #[VI ui, VI un, VI ux, VI uy, VI uz, .val (.int ((1 : Int32) <<< (ui &&& 31)))] [(.int (((1 : Int32) <<< (ui &&& 31)) ^^^ (-1 : Int32))), (.int uz), (.int (uy &&& (((1 : Int32) <<< (ui &&& 31)) ^^^ (-1 : Int32)))), (.int (un - (1 : Int32)))])) (fun _ k => XT.ixor X0.here hx rfl (hb hby d14_26) rfl k) ?_
    refine own_by (B := s₁.setTop (mkF m 28 #[VI ui, VI un, VI ux, VI uy, VI uz, .val (.int ((1 : Int32) <<< (ui &&& 31)))] [(.int (uz &&& (((1 : Int32) <<< (ui &&& 31)) ^^^ (-1 : Int32)))), (.int (uy &&& (((1 : Int32) <<< (ui &&& 31)) ^^^ (-1 : Int32)))), (.int (un - (1 : Int32)))])) (fun _ k => XS.iand X0.here hx rfl (hb hby d14_27) rfl k) ?_
    refine own_by (B := s₁.setTop (mkF m 29 #[VI ui, VI un, VI ux, VI uy, VI uz, .val (.int ((1 : Int32) <<< (ui &&& 31)))] [(.int 0), (.int (uz &&& (((1 : Int32) <<< (ui &&& 31)) ^^^ (-1 : Int32)))), (.int (uy &&& (((1 : Int32) <<< (ui &&& 31)) ^^^ (-1 : Int32)))), (.int (un - (1 : Int32)))])) (fun _ k => XS.iconst X0.here hx rfl (hb hby d14_28) k) ?_
    obtain ⟨_, _, ⟨T2, L2, k2, n2⟩, -, X2, ⟨Lc2, hQ2, l2, y2, z2⟩, st2⟩ := Jvm.LawKit.callS X0 hx (y := (⟨"com/example/document_pattern_rules/documentpatternrules/pattern/PairingAddPinLaw", "match", "(IIII)Z"⟩ : MethodName)) hown (mvT hZ (own_hw 72 hw rfl)) (mvT hZ (own_hw 73 hw rfl)) (mvT hZ (own_hw 2 hw rfl)) (mvT hZ (own_hw 74 hw rfl)) (by decide) (backOf (W := 0) (rm10 l Z a0 hw [] (un - (1 : Int32)) (uy &&& (((1 : Int32) <<< (ui &&& 31)) ^^^ (-1 : Int32))) (uz &&& (((1 : Int32) <<< (ui &&& 31)) ^^^ (-1 : Int32))) (0 : Int32) h0 n0 Z0) hZ (own_hw 74 hw rfl) (own_hw 2 hw rfl) (by decide) (by decide)) (g := (mkF m 29 #[VI ui, VI un, VI ux, VI uy, VI uz, .val (.int ((1 : Int32) <<< (ui &&& 31)))] [(.int 0), (.int (uz &&& (((1 : Int32) <<< (ui &&& 31)) ^^^ (-1 : Int32)))), (.int (uy &&& (((1 : Int32) <<< (ui &&& 31)) ^^^ (-1 : Int32)))), (.int (un - (1 : Int32)))])) rfl (by rw [hml]; rfl) (argsL := [(.int (un - (1 : Int32))), (.int (uy &&& (((1 : Int32) <<< (ui &&& 31)) ^^^ (-1 : Int32)))), (.int (uz &&& (((1 : Int32) <<< (ui &&& 31)) ^^^ (-1 : Int32)))), (.int 0)]) (rest := []) (lenOf pd_14__IIII_Z rfl) rfl (by show 2 * 0 + _ ≤ _; exact Nat.le_of_eq rfl) (hb hby d14_29) (fun _ _ => ⟨rfl, e0, (by decide : 0 + 0 ≤ _), (by decide : 0 + 0 ≤ _)⟩)
    dsimp only [Pt.U, Pt.locs, Pt.cells, Pt.slots] at X2 l2 y2 z2 st2 hQ2
    subst l2 y2 z2
    obtain ⟨rfl, N2, e2⟩ := hQ2
    refine own_by (B := T2.setTop (mkF m 32 #[VI ui, VI un, VI ux, VI uy, VI uz, .val (.int ((1 : Int32) <<< (ui &&& 31)))] [(.int (own_match (un - (1 : Int32)) (uy &&& (((1 : Int32) <<< (ui &&& 31)) ^^^ (-1 : Int32))) (uz &&& (((1 : Int32) <<< (ui &&& 31)) ^^^ (-1 : Int32))) (0 : Int32)))])) st2 ?_
    have M2 := Fr.app N0 N2
    by_cases hc3 : (own_match (un - (1 : Int32)) (uy &&& (((1 : Int32) <<< (ui &&& 31)) ^^^ (-1 : Int32))) (uz &&& (((1 : Int32) <<< (ui &&& 31)) ^^^ (-1 : Int32))) (0 : Int32)) = (0 : Int32)
    · refine own_by (B := T2.setTop (mkF m 39 #[VI ui, VI un, VI ux, VI uy, VI uz, .val (.int ((1 : Int32) <<< (ui &&& 31)))] [])) (fun _ k => XS.ifYes X2.here hx rfl (pc0 := 32) (pc' := 39) rfl (hb hby d14_32) rfl (XT.i0_eq_t hc3) (by decide) (by decide) k) ?_
      refine own_by (B := T2.setTop (mkF m 40 #[VI ui, VI un, VI ux, VI uy, VI uz, .val (.int ((1 : Int32) <<< (ui &&& 31)))] [(.int 0)])) (fun _ k => XS.iconst X2.here hx rfl (hb hby d14_39) k) ?_
      exact own_retZ X2 hx hrt hlk rfl (hb hby d14_40) (by decide) (by decide) ⟨(by unfold own_feas; rw [if_neg hc1, if_pos hc3]), M2, e2⟩
    · refine own_by (B := T2.setTop (mkF m 35 #[VI ui, VI un, VI ux, VI uy, VI uz, .val (.int ((1 : Int32) <<< (ui &&& 31)))] [])) (fun _ k => XS.ifNo X2.here hx rfl (hb hby d14_32) rfl (XT.i0_eq_f hc3) k) ?_
      refine own_by (B := T2.setTop (mkF m 36 #[VI ui, VI un, VI ux, VI uy, VI uz, .val (.int ((1 : Int32) <<< (ui &&& 31)))] [(.int 1)])) (fun _ k => XS.iconst X2.here hx rfl (hb hby d14_35) k) ?_
      refine own_by (B := T2.setTop (mkF m 40 #[VI ui, VI un, VI ux, VI uy, VI uz, .val (.int ((1 : Int32) <<< (ui &&& 31)))] [(.int 1)])) (fun _ k => XS.goto X2.here hx rfl (pc0 := 36) (pc' := 40) rfl (hb hby d14_36) (by decide) (by decide) k) ?_
      exact own_retZ X2 hx hrt hlk rfl (hb hby d14_40) (by decide) (by decide) ⟨(by unfold own_feas; rw [if_neg hc1, if_neg hc3]), M2, e2⟩

def own_lref (un : Int32) (ux : Int32) (uy : Int32) (uz : Int32) : Int32 := if (own_feas (0 : Int32) un ux uy uz) = (0 : Int32) then (if (own_feas (1 : Int32) un ux uy uz) = (0 : Int32) then (if (own_feas (2 : Int32) un ux uy uz) = (0 : Int32) then (if (own_feas (3 : Int32) un ux uy uz) = (0 : Int32) then (-1 : Int32) else (3 : Int32)) else (2 : Int32)) else (1 : Int32)) else (0 : Int32)

theorem d13_0 : decode method_6_code 0 = .ok (.iconst 0, 1) := by decide +kernel
theorem d13_1 : decode method_6_code 1 = .ok (.iload_n 0, 1) := by decide +kernel
theorem d13_2 : decode method_6_code 2 = .ok (.iload_n 1, 1) := by decide +kernel
theorem d13_3 : decode method_6_code 3 = .ok (.iload_n 2, 1) := by decide +kernel
theorem d13_4 : decode method_6_code 4 = .ok (.iload_n 3, 1) := by decide +kernel
theorem d13_5 : decode method_6_code 5 = .ok (.invokestatic 17, 3) := by decide +kernel
theorem d13_8 : decode method_6_code 8 = .ok (.ifCond .eq 5, 3) := by decide +kernel
theorem d13_11 : decode method_6_code 11 = .ok (.iconst 0, 1) := by decide +kernel
theorem d13_12 : decode method_6_code 12 = .ok (.ireturn, 1) := by decide +kernel
theorem d13_13 : decode method_6_code 13 = .ok (.iconst 1, 1) := by decide +kernel
theorem d13_14 : decode method_6_code 14 = .ok (.iload_n 0, 1) := by decide +kernel
theorem d13_15 : decode method_6_code 15 = .ok (.iload_n 1, 1) := by decide +kernel
theorem d13_16 : decode method_6_code 16 = .ok (.iload_n 2, 1) := by decide +kernel
theorem d13_17 : decode method_6_code 17 = .ok (.iload_n 3, 1) := by decide +kernel
theorem d13_18 : decode method_6_code 18 = .ok (.invokestatic 17, 3) := by decide +kernel
theorem d13_21 : decode method_6_code 21 = .ok (.ifCond .eq 5, 3) := by decide +kernel
theorem d13_24 : decode method_6_code 24 = .ok (.iconst 1, 1) := by decide +kernel
theorem d13_25 : decode method_6_code 25 = .ok (.ireturn, 1) := by decide +kernel
theorem d13_26 : decode method_6_code 26 = .ok (.iconst 2, 1) := by decide +kernel
theorem d13_27 : decode method_6_code 27 = .ok (.iload_n 0, 1) := by decide +kernel
theorem d13_28 : decode method_6_code 28 = .ok (.iload_n 1, 1) := by decide +kernel
theorem d13_29 : decode method_6_code 29 = .ok (.iload_n 2, 1) := by decide +kernel
theorem d13_30 : decode method_6_code 30 = .ok (.iload_n 3, 1) := by decide +kernel
theorem d13_31 : decode method_6_code 31 = .ok (.invokestatic 17, 3) := by decide +kernel
theorem d13_34 : decode method_6_code 34 = .ok (.ifCond .eq 5, 3) := by decide +kernel
theorem d13_37 : decode method_6_code 37 = .ok (.iconst 2, 1) := by decide +kernel
theorem d13_38 : decode method_6_code 38 = .ok (.ireturn, 1) := by decide +kernel
theorem d13_39 : decode method_6_code 39 = .ok (.iconst 3, 1) := by decide +kernel
theorem d13_40 : decode method_6_code 40 = .ok (.iload_n 0, 1) := by decide +kernel
theorem d13_41 : decode method_6_code 41 = .ok (.iload_n 1, 1) := by decide +kernel
theorem d13_42 : decode method_6_code 42 = .ok (.iload_n 2, 1) := by decide +kernel
theorem d13_43 : decode method_6_code 43 = .ok (.iload_n 3, 1) := by decide +kernel
theorem d13_44 : decode method_6_code 44 = .ok (.invokestatic 17, 3) := by decide +kernel
theorem d13_47 : decode method_6_code 47 = .ok (.ifCond .eq 5, 3) := by decide +kernel
theorem d13_50 : decode method_6_code 50 = .ok (.iconst 3, 1) := by decide +kernel
theorem d13_51 : decode method_6_code 51 = .ok (.ireturn, 1) := by decide +kernel
theorem d13_52 : decode method_6_code 52 = .ok (.iconst (-1), 1) := by decide +kernel
theorem d13_53 : decode method_6_code 53 = .ok (.ireturn, 1) := by decide +kernel
theorem pd_13__IIIII_Z : parseMethodDescriptor "(IIIII)Z" = some ⟨[.int, .int, .int, .int, .int], some .boolean⟩ := by decide +kernel
theorem pn_rm13 : plainFor (⟨"com/example/document_pattern_rules/documentpatternrules/pattern/PairingAddPinLaw", "lowestRef", "(IIII)I"⟩ : MethodName) = true := by first | exact plainFor_of_name (by first | (simp [plainName, overriddenIn]; done) | decide +kernel) | exact Jvm.Free.JP.mathPlain rfl (by decide +kernel) | decide +kernel
theorem ef_rm13 (m : MethodId) (x0 : Int32) (x1 : Int32) (x2 : Int32) (x3 : Int32) : entryFrame m #[(.int x0), (.int x1), (.int x2), (.int x3)] 4 = mkF m 0 #[VI x0, VI x1, VI x2, VI x3] [] := by first | (simp [entryFrame, mkF, argsToLocals, Value.category]; done) | rfl
set_option maxRecDepth 65536 in
set_option maxHeartbeats 40000000 in
theorem rm13 (l : Launch) (Z : State) (a0 : Array Value) (hw : ∀ d ∈ tables_1, d.before a0 Z = true) (ws : List Jvm.Cond) (un ux uy uz : Int32) (h0 : Heap) (n0 : Nat) (Z0 : n0 ≤ h0.size)  :
    MetFree l (⟨"com/example/document_pattern_rules/documentpatternrules/pattern/PairingAddPinLaw", "lowestRef", "(IIII)I"⟩ : MethodName) (head1 (Jvm.Cond.code (⟨"com/example/document_pattern_rules/documentpatternrules/pattern/PairingAddPinLaw", "lowestRef", "(IIII)I"⟩ : MethodName) method_6_code 4 (some .int) :: ws) ({ frames := 3, cells := 0, slots := 0, locals := 44 } : Room)) (fun a U => a = #[(.int un), (.int ux), (.int uy), (.int uz)] ∧ Z.Warmed39 U.vm ∧ U.heap = h0) (fun _ _ _ _ _ => True) (fun _ U o U' => ∃ v L, o = .returned v ∧ (own_P (.int (own_lref un ux uy uz)) h0 n0) v U'.heap L ∧ FrameEnd U o U' L 0 0) := by
  refine MetFree.of_bodySF pn_rm13 hisR ?_
  intro p e s m args below meth c s₁ Bd hml0 hP hK
  obtain ⟨rfl, hZ, hh⟩ := hP
  have hx := Bd.exec
  have hby := Bd.bytes
  have hml : c.maxLocals = 4 := hml0
  have hown : s.vm.findClass "com/example/document_pattern_rules/documentpatternrules/pattern/PairingAddPinLaw" = some m.cls := findClass_of_methodNamed Bd.named
  have hnm := (name_of_methodNamed Bd.named Bd.method).1
  have hrt := Bd.returns
  have hlk := Bd.notSynchronized
  have X0 : Stand p l e ({ frames := 3, cells := 0, slots := 0, locals := 44 } : Room) s m #[(.int un), (.int ux), (.int uy), (.int uz)] below meth c s₁ [] 0 0 := Stand.of_body Bd
  have e0 : s₁.heap = h0 := by rw [← hh, Bd.state]; rfl
  have N0 := Fr.nil n0
  refine own_done (B := s₁.setTop (mkF m 0 #[VI un, VI ux, VI uy, VI uz] [])) (fun t k => castTop (ef_rm13 m un ux uy uz) k) ?_
  refine own_by (B := s₁.setTop (mkF m 1 #[VI un, VI ux, VI uy, VI uz] [(.int 0)])) (fun _ k => XS.iconst X0.here hx rfl (hb hby d13_0) k) ?_
  refine own_by (B := s₁.setTop (mkF m 2 #[VI un, VI ux, VI uy, VI uz] [(.int un), (.int 0)])) (fun _ k => XS.iloadN X0.here hx rfl (hb hby d13_1) rfl  k) ?_
  refine own_by (B := s₁.setTop (mkF m 3 #[VI un, VI ux, VI uy, VI uz] [(.int ux), (.int un), (.int 0)])) (fun _ k => XS.iloadN X0.here hx rfl (hb hby d13_2) rfl  k) ?_
  refine own_by (B := s₁.setTop (mkF m 4 #[VI un, VI ux, VI uy, VI uz] [(.int uy), (.int ux), (.int un), (.int 0)])) (fun _ k => XS.iloadN X0.here hx rfl (hb hby d13_3) rfl  k) ?_
  refine own_by (B := s₁.setTop (mkF m 5 #[VI un, VI ux, VI uy, VI uz] [(.int uz), (.int uy), (.int ux), (.int un), (.int 0)])) (fun _ k => XS.iloadN X0.here hx rfl (hb hby d13_4) rfl  k) ?_
  obtain ⟨_, _, ⟨T1, L1, k1, n1⟩, -, X1, ⟨Lc1, hQ1, l1, y1, z1⟩, st1⟩ := Jvm.LawKit.callS X0 hx (y := (⟨"com/example/document_pattern_rules/documentpatternrules/pattern/PairingAddPinLaw", "feasible", "(IIIII)Z"⟩ : MethodName)) hown (mvT hZ (own_hw 87 hw rfl)) (mvT hZ (own_hw 88 hw rfl)) (mvT hZ (own_hw 2 hw rfl)) (mvT hZ (own_hw 89 hw rfl)) (by decide) (backOf (W := 0) (rm14 l Z a0 hw [] (0 : Int32) un ux uy uz h0 n0 Z0) hZ (own_hw 89 hw rfl) (own_hw 2 hw rfl) (by decide) (by decide)) (g := (mkF m 5 #[VI un, VI ux, VI uy, VI uz] [(.int uz), (.int uy), (.int ux), (.int un), (.int 0)])) rfl (by rw [hml]; rfl) (argsL := [(.int 0), (.int un), (.int ux), (.int uy), (.int uz)]) (rest := []) (lenOf pd_13__IIIII_Z rfl) rfl (by show 2 * 0 + _ ≤ _; exact Nat.le_of_eq rfl) (hb hby d13_5) (fun _ _ => ⟨rfl, e0, (by decide : 0 + 0 ≤ _), (by decide : 0 + 0 ≤ _)⟩)
  dsimp only [Pt.U, Pt.locs, Pt.cells, Pt.slots] at X1 l1 y1 z1 st1 hQ1
  subst l1 y1 z1
  obtain ⟨rfl, N1, e1⟩ := hQ1
  refine own_by (B := T1.setTop (mkF m 8 #[VI un, VI ux, VI uy, VI uz] [(.int (own_feas (0 : Int32) un ux uy uz))])) st1 ?_
  have M1 := Fr.app N0 N1
  by_cases hc2 : (own_feas (0 : Int32) un ux uy uz) = (0 : Int32)
  · refine own_by (B := T1.setTop (mkF m 13 #[VI un, VI ux, VI uy, VI uz] [])) (fun _ k => XS.ifYes X1.here hx rfl (pc0 := 8) (pc' := 13) rfl (hb hby d13_8) rfl (XT.i0_eq_t hc2) (by decide) (by decide) k) ?_
    refine own_by (B := T1.setTop (mkF m 14 #[VI un, VI ux, VI uy, VI uz] [(.int 1)])) (fun _ k => XS.iconst X1.here hx rfl (hb hby d13_13) k) ?_
    refine own_by (B := T1.setTop (mkF m 15 #[VI un, VI ux, VI uy, VI uz] [(.int un), (.int 1)])) (fun _ k => XS.iloadN X1.here hx rfl (hb hby d13_14) rfl  k) ?_
    refine own_by (B := T1.setTop (mkF m 16 #[VI un, VI ux, VI uy, VI uz] [(.int ux), (.int un), (.int 1)])) (fun _ k => XS.iloadN X1.here hx rfl (hb hby d13_15) rfl  k) ?_
    refine own_by (B := T1.setTop (mkF m 17 #[VI un, VI ux, VI uy, VI uz] [(.int uy), (.int ux), (.int un), (.int 1)])) (fun _ k => XS.iloadN X1.here hx rfl (hb hby d13_16) rfl  k) ?_
    refine own_by (B := T1.setTop (mkF m 18 #[VI un, VI ux, VI uy, VI uz] [(.int uz), (.int uy), (.int ux), (.int un), (.int 1)])) (fun _ k => XS.iloadN X1.here hx rfl (hb hby d13_17) rfl  k) ?_
    obtain ⟨_, _, ⟨T3, L3, k3, n3⟩, -, X3, ⟨Lc3, hQ3, l3, y3, z3⟩, st3⟩ := Jvm.LawKit.callS X1 hx (y := (⟨"com/example/document_pattern_rules/documentpatternrules/pattern/PairingAddPinLaw", "feasible", "(IIIII)Z"⟩ : MethodName)) hown (mvT hZ (own_hw 87 hw rfl)) (mvT hZ (own_hw 88 hw rfl)) (mvT hZ (own_hw 2 hw rfl)) (mvT hZ (own_hw 89 hw rfl)) (by decide) (backOf (W := 0) (rm14 l Z a0 hw [] (1 : Int32) un ux uy uz h0 n0 Z0) hZ (own_hw 89 hw rfl) (own_hw 2 hw rfl) (by decide) (by decide)) (g := (mkF m 18 #[VI un, VI ux, VI uy, VI uz] [(.int uz), (.int uy), (.int ux), (.int un), (.int 1)])) rfl (by rw [hml]; rfl) (argsL := [(.int 1), (.int un), (.int ux), (.int uy), (.int uz)]) (rest := []) (lenOf pd_13__IIIII_Z rfl) rfl (by show 2 * 0 + _ ≤ _; exact Nat.le_of_eq rfl) (hb hby d13_18) (fun _ _ => ⟨rfl, e1, (by decide : 0 + 0 ≤ _), (by decide : 0 + 0 ≤ _)⟩)
    dsimp only [Pt.U, Pt.locs, Pt.cells, Pt.slots] at X3 l3 y3 z3 st3 hQ3
    subst l3 y3 z3
    obtain ⟨rfl, N3, e3⟩ := hQ3
    refine own_by (B := T3.setTop (mkF m 21 #[VI un, VI ux, VI uy, VI uz] [(.int (own_feas (1 : Int32) un ux uy uz))])) st3 ?_
    have M3 := Fr.app M1 N3
    by_cases hc4 : (own_feas (1 : Int32) un ux uy uz) = (0 : Int32)
    · refine own_by (B := T3.setTop (mkF m 26 #[VI un, VI ux, VI uy, VI uz] [])) (fun _ k => XS.ifYes X3.here hx rfl (pc0 := 21) (pc' := 26) rfl (hb hby d13_21) rfl (XT.i0_eq_t hc4) (by decide) (by decide) k) ?_
      refine own_by (B := T3.setTop (mkF m 27 #[VI un, VI ux, VI uy, VI uz] [(.int 2)])) (fun _ k => XS.iconst X3.here hx rfl (hb hby d13_26) k) ?_
      refine own_by (B := T3.setTop (mkF m 28 #[VI un, VI ux, VI uy, VI uz] [(.int un), (.int 2)])) (fun _ k => XS.iloadN X3.here hx rfl (hb hby d13_27) rfl  k) ?_
      refine own_by (B := T3.setTop (mkF m 29 #[VI un, VI ux, VI uy, VI uz] [(.int ux), (.int un), (.int 2)])) (fun _ k => XS.iloadN X3.here hx rfl (hb hby d13_28) rfl  k) ?_
      refine own_by (B := T3.setTop (mkF m 30 #[VI un, VI ux, VI uy, VI uz] [(.int uy), (.int ux), (.int un), (.int 2)])) (fun _ k => XS.iloadN X3.here hx rfl (hb hby d13_29) rfl  k) ?_
      refine own_by (B := T3.setTop (mkF m 31 #[VI un, VI ux, VI uy, VI uz] [(.int uz), (.int uy), (.int ux), (.int un), (.int 2)])) (fun _ k => XS.iloadN X3.here hx rfl (hb hby d13_30) rfl  k) ?_
      obtain ⟨_, _, ⟨T5, L5, k5, n5⟩, -, X5, ⟨Lc5, hQ5, l5, y5, z5⟩, st5⟩ := Jvm.LawKit.callS X3 hx (y := (⟨"com/example/document_pattern_rules/documentpatternrules/pattern/PairingAddPinLaw", "feasible", "(IIIII)Z"⟩ : MethodName)) hown (mvT hZ (own_hw 87 hw rfl)) (mvT hZ (own_hw 88 hw rfl)) (mvT hZ (own_hw 2 hw rfl)) (mvT hZ (own_hw 89 hw rfl)) (by decide) (backOf (W := 0) (rm14 l Z a0 hw [] (2 : Int32) un ux uy uz h0 n0 Z0) hZ (own_hw 89 hw rfl) (own_hw 2 hw rfl) (by decide) (by decide)) (g := (mkF m 31 #[VI un, VI ux, VI uy, VI uz] [(.int uz), (.int uy), (.int ux), (.int un), (.int 2)])) rfl (by rw [hml]; rfl) (argsL := [(.int 2), (.int un), (.int ux), (.int uy), (.int uz)]) (rest := []) (lenOf pd_13__IIIII_Z rfl) rfl (by show 2 * 0 + _ ≤ _; exact Nat.le_of_eq rfl) (hb hby d13_31) (fun _ _ => ⟨rfl, e3, (by decide : 0 + 0 ≤ _), (by decide : 0 + 0 ≤ _)⟩)
      dsimp only [Pt.U, Pt.locs, Pt.cells, Pt.slots] at X5 l5 y5 z5 st5 hQ5
      subst l5 y5 z5
      obtain ⟨rfl, N5, e5⟩ := hQ5
      refine own_by (B := T5.setTop (mkF m 34 #[VI un, VI ux, VI uy, VI uz] [(.int (own_feas (2 : Int32) un ux uy uz))])) st5 ?_
      have M5 := Fr.app M3 N5
      by_cases hc6 : (own_feas (2 : Int32) un ux uy uz) = (0 : Int32)
      · refine own_by (B := T5.setTop (mkF m 39 #[VI un, VI ux, VI uy, VI uz] [])) (fun _ k => XS.ifYes X5.here hx rfl (pc0 := 34) (pc' := 39) rfl (hb hby d13_34) rfl (XT.i0_eq_t hc6) (by decide) (by decide) k) ?_
        refine own_by (B := T5.setTop (mkF m 40 #[VI un, VI ux, VI uy, VI uz] [(.int 3)])) (fun _ k => XS.iconst X5.here hx rfl (hb hby d13_39) k) ?_
        refine own_by (B := T5.setTop (mkF m 41 #[VI un, VI ux, VI uy, VI uz] [(.int un), (.int 3)])) (fun _ k => XS.iloadN X5.here hx rfl (hb hby d13_40) rfl  k) ?_
        refine own_by (B := T5.setTop (mkF m 42 #[VI un, VI ux, VI uy, VI uz] [(.int ux), (.int un), (.int 3)])) (fun _ k => XS.iloadN X5.here hx rfl (hb hby d13_41) rfl  k) ?_
        refine own_by (B := T5.setTop (mkF m 43 #[VI un, VI ux, VI uy, VI uz] [(.int uy), (.int ux), (.int un), (.int 3)])) (fun _ k => XS.iloadN X5.here hx rfl (hb hby d13_42) rfl  k) ?_
        refine own_by (B := T5.setTop (mkF m 44 #[VI un, VI ux, VI uy, VI uz] [(.int uz), (.int uy), (.int ux), (.int un), (.int 3)])) (fun _ k => XS.iloadN X5.here hx rfl (hb hby d13_43) rfl  k) ?_
        obtain ⟨_, _, ⟨T7, L7, k7, n7⟩, -, X7, ⟨Lc7, hQ7, l7, y7, z7⟩, st7⟩ := Jvm.LawKit.callS X5 hx (y := (⟨"com/example/document_pattern_rules/documentpatternrules/pattern/PairingAddPinLaw", "feasible", "(IIIII)Z"⟩ : MethodName)) hown (mvT hZ (own_hw 87 hw rfl)) (mvT hZ (own_hw 88 hw rfl)) (mvT hZ (own_hw 2 hw rfl)) (mvT hZ (own_hw 89 hw rfl)) (by decide) (backOf (W := 0) (rm14 l Z a0 hw [] (3 : Int32) un ux uy uz h0 n0 Z0) hZ (own_hw 89 hw rfl) (own_hw 2 hw rfl) (by decide) (by decide)) (g := (mkF m 44 #[VI un, VI ux, VI uy, VI uz] [(.int uz), (.int uy), (.int ux), (.int un), (.int 3)])) rfl (by rw [hml]; rfl) (argsL := [(.int 3), (.int un), (.int ux), (.int uy), (.int uz)]) (rest := []) (lenOf pd_13__IIIII_Z rfl) rfl (by show 2 * 0 + _ ≤ _; exact Nat.le_of_eq rfl) (hb hby d13_44) (fun _ _ => ⟨rfl, e5, (by decide : 0 + 0 ≤ _), (by decide : 0 + 0 ≤ _)⟩)
        dsimp only [Pt.U, Pt.locs, Pt.cells, Pt.slots] at X7 l7 y7 z7 st7 hQ7
        subst l7 y7 z7
        obtain ⟨rfl, N7, e7⟩ := hQ7
        refine own_by (B := T7.setTop (mkF m 47 #[VI un, VI ux, VI uy, VI uz] [(.int (own_feas (3 : Int32) un ux uy uz))])) st7 ?_
        have M7 := Fr.app M5 N7
        by_cases hc8 : (own_feas (3 : Int32) un ux uy uz) = (0 : Int32)
        · refine own_by (B := T7.setTop (mkF m 52 #[VI un, VI ux, VI uy, VI uz] [])) (fun _ k => XS.ifYes X7.here hx rfl (pc0 := 47) (pc' := 52) rfl (hb hby d13_47) rfl (XT.i0_eq_t hc8) (by decide) (by decide) k) ?_
          refine own_by (B := T7.setTop (mkF m 53 #[VI un, VI ux, VI uy, VI uz] [(.int (-1 : Int32))])) (fun _ k => XS.iconst X7.here hx rfl (hb hby d13_52) k) ?_
          exact own_retI X7 hx hrt hlk (hb hby d13_53) (by decide) (by decide) ⟨(by unfold own_lref; rw [if_pos hc2, if_pos hc4, if_pos hc6, if_pos hc8]), M7, e7⟩
        · refine own_by (B := T7.setTop (mkF m 50 #[VI un, VI ux, VI uy, VI uz] [])) (fun _ k => XS.ifNo X7.here hx rfl (hb hby d13_47) rfl (XT.i0_eq_f hc8) k) ?_
          refine own_by (B := T7.setTop (mkF m 51 #[VI un, VI ux, VI uy, VI uz] [(.int 3)])) (fun _ k => XS.iconst X7.here hx rfl (hb hby d13_50) k) ?_
          exact own_retI X7 hx hrt hlk (hb hby d13_51) (by decide) (by decide) ⟨(by unfold own_lref; rw [if_pos hc2, if_pos hc4, if_pos hc6, if_neg hc8]), M7, e7⟩
      · refine own_by (B := T5.setTop (mkF m 37 #[VI un, VI ux, VI uy, VI uz] [])) (fun _ k => XS.ifNo X5.here hx rfl (hb hby d13_34) rfl (XT.i0_eq_f hc6) k) ?_
        refine own_by (B := T5.setTop (mkF m 38 #[VI un, VI ux, VI uy, VI uz] [(.int 2)])) (fun _ k => XS.iconst X5.here hx rfl (hb hby d13_37) k) ?_
        exact own_retI X5 hx hrt hlk (hb hby d13_38) (by decide) (by decide) ⟨(by unfold own_lref; rw [if_pos hc2, if_pos hc4, if_neg hc6]), M5, e5⟩
    · refine own_by (B := T3.setTop (mkF m 24 #[VI un, VI ux, VI uy, VI uz] [])) (fun _ k => XS.ifNo X3.here hx rfl (hb hby d13_21) rfl (XT.i0_eq_f hc4) k) ?_
      refine own_by (B := T3.setTop (mkF m 25 #[VI un, VI ux, VI uy, VI uz] [(.int 1)])) (fun _ k => XS.iconst X3.here hx rfl (hb hby d13_24) k) ?_
      exact own_retI X3 hx hrt hlk (hb hby d13_25) (by decide) (by decide) ⟨(by unfold own_lref; rw [if_pos hc2, if_neg hc4]), M3, e3⟩
  · refine own_by (B := T1.setTop (mkF m 11 #[VI un, VI ux, VI uy, VI uz] [])) (fun _ k => XS.ifNo X1.here hx rfl (hb hby d13_8) rfl (XT.i0_eq_f hc2) k) ?_
    refine own_by (B := T1.setTop (mkF m 12 #[VI un, VI ux, VI uy, VI uz] [(.int 0)])) (fun _ k => XS.iconst X1.here hx rfl (hb hby d13_11) k) ?_
    exact own_retI X1 hx hrt hlk (hb hby d13_12) (by decide) (by decide) ⟨(by unfold own_lref; rw [if_neg hc2]), M1, e1⟩

def own_rangeCheck (CL : List (List Int32)) (u0 : own_S) (ux uy uz : Int32) : Option own_S := if uz < uy then (none) else (if uy < (0 : Int32) then (none) else (if ux < uz then (none) else (some u0)))

theorem d17_0 : decode jdk_65_method_30_code 0 = .ok (.iload_n 1, 1) := by decide +kernel
theorem d17_1 : decode jdk_65_method_30_code 1 = .ok (.iload_n 2, 1) := by decide +kernel
theorem d17_2 : decode jdk_65_method_30_code 2 = .ok (.if_icmp .le 44, 3) := by decide +kernel
theorem d17_46 : decode jdk_65_method_30_code 46 = .ok (.iload_n 1, 1) := by decide +kernel
theorem d17_47 : decode jdk_65_method_30_code 47 = .ok (.ifCond .ge 12, 3) := by decide +kernel
theorem d17_59 : decode jdk_65_method_30_code 59 = .ok (.iload_n 2, 1) := by decide +kernel
theorem d17_60 : decode jdk_65_method_30_code 60 = .ok (.iload_n 0, 1) := by decide +kernel
theorem d17_61 : decode jdk_65_method_30_code 61 = .ok (.if_icmp .le 12, 3) := by decide +kernel
theorem d17_73 : decode jdk_65_method_30_code 73 = .ok (.return_, 1) := by decide +kernel
theorem pn_rm_rangeCheck : plainFor (⟨"java/util/Arrays", "rangeCheck", "(III)V"⟩ : MethodName) = true := by first | exact plainFor_of_name (by first | (simp [plainName, overriddenIn]; done) | decide +kernel) | exact Jvm.Free.JP.mathPlain rfl (by decide +kernel) | decide +kernel
theorem ef_rm_rangeCheck (m : MethodId) (x0 : Int32) (x1 : Int32) (x2 : Int32) : entryFrame m #[(.int x0), (.int x1), (.int x2)] 3 = mkF m 0 #[VI x0, VI x1, VI x2] [] := by first | (simp [entryFrame, mkF, argsToLocals, Value.category]; done) | rfl
set_option maxRecDepth 65536 in
set_option maxHeartbeats 40000000 in
theorem rm_rangeCheck (l : Launch) (Z : State) (a0 : Array Value) (hw : ∀ d ∈ tables_1, d.before a0 Z = true) (ws : List Jvm.Cond) (A : Nat → Nat) (K : Nat → ClassId) (zr zc : Int32) (CA : Nat → Nat) (CK : Nat → ClassId) (CL : List (List Int32)) (u0 : own_S) (ru : own_S) (ux uy uz : Int32) (h0 : Heap) (n0 : Nat) (Z0 : n0 ≤ h0.size) (P0 : own_PS Z h0 n0 A K zr zc CA CK CL u0) (hF : own_rangeCheck CL u0 ux uy uz = some ru) :
    MetFree l (⟨"java/util/Arrays", "rangeCheck", "(III)V"⟩ : MethodName) (head1 (Jvm.Cond.code (⟨"java/util/Arrays", "rangeCheck", "(III)V"⟩ : MethodName) jdk_65_method_30_code 3 none :: ws) ({ frames := 0, cells := 0, slots := 0, locals := 0 } : Room)) (fun a U => a = #[(.int ux), (.int uy), (.int uz)] ∧ Z.Warmed39 U.vm ∧ U.heap = h0) (fun _ _ _ _ _ => True) (fun _ U o U' => ∃ v L, o = .returned v ∧ (own_QPv Z ru n0 A K zr zc CA CK CL) v U'.heap L ∧ FrameEnd U o U' L 0 0) := by
  refine MetFree.of_bodySF pn_rm_rangeCheck hisR ?_
  intro p e s m args below meth c s₁ Bd hml0 hP hK
  obtain ⟨rfl, hZ, hh⟩ := hP
  have hx := Bd.exec
  have hby := Bd.bytes
  have hml : c.maxLocals = 3 := hml0
  have hown : s.vm.findClass "java/util/Arrays" = some m.cls := findClass_of_methodNamed Bd.named
  have hnm := (name_of_methodNamed Bd.named Bd.method).1
  have hrt := Bd.returns
  have hlk := Bd.notSynchronized
  have X0 : Stand p l e ({ frames := 0, cells := 0, slots := 0, locals := 0 } : Room) s m #[(.int ux), (.int uy), (.int uz)] below meth c s₁ [] 0 0 := Stand.of_body Bd
  have e0 : s₁.heap = h0 := by rw [← hh, Bd.state]; rfl
  have N0 := Fr.nil n0
  unfold own_rangeCheck at hF
  refine own_done (B := s₁.setTop (mkF m 0 #[VI ux, VI uy, VI uz] [])) (fun t k => castTop (ef_rm_rangeCheck m ux uy uz) k) ?_
  refine own_by (B := s₁.setTop (mkF m 1 #[VI ux, VI uy, VI uz] [(.int uy)])) (fun _ k => XS.iloadN X0.here hx rfl (hb hby d17_0) rfl  k) ?_
  refine own_by (B := s₁.setTop (mkF m 2 #[VI ux, VI uy, VI uz] [(.int uz), (.int uy)])) (fun _ k => XS.iloadN X0.here hx rfl (hb hby d17_1) rfl  k) ?_
  by_cases hc1 : uz < uy
  · rw [if_pos hc1] at hF
    refine own_by (B := s₁.setTop (mkF m 5 #[VI ux, VI uy, VI uz] [])) (fun _ k => XS.icmpNo X0.here hx rfl (hb hby d17_2) rfl (XT.ii_le_f hc1) k) ?_
    cases hF
  · rw [if_neg hc1] at hF
    refine own_by (B := s₁.setTop (mkF m 46 #[VI ux, VI uy, VI uz] [])) (fun _ k => XS.icmpYes X0.here hx rfl (pc0 := 2) (pc' := 46) rfl (hb hby d17_2) rfl (XT.ii_le_t hc1) (by decide) (by decide) k) ?_
    refine own_by (B := s₁.setTop (mkF m 47 #[VI ux, VI uy, VI uz] [(.int uy)])) (fun _ k => XS.iloadN X0.here hx rfl (hb hby d17_46) rfl  k) ?_
    by_cases hc2 : uy < (0 : Int32)
    · rw [if_pos hc2] at hF
      refine own_by (B := s₁.setTop (mkF m 50 #[VI ux, VI uy, VI uz] [])) (fun _ k => XS.ifNo X0.here hx rfl (hb hby d17_47) rfl (XT.i0_ge_f hc2) k) ?_
      cases hF
    · rw [if_neg hc2] at hF
      refine own_by (B := s₁.setTop (mkF m 59 #[VI ux, VI uy, VI uz] [])) (fun _ k => XS.ifYes X0.here hx rfl (pc0 := 47) (pc' := 59) rfl (hb hby d17_47) rfl (XT.i0_ge_t hc2) (by decide) (by decide) k) ?_
      refine own_by (B := s₁.setTop (mkF m 60 #[VI ux, VI uy, VI uz] [(.int uz)])) (fun _ k => XS.iloadN X0.here hx rfl (hb hby d17_59) rfl  k) ?_
      refine own_by (B := s₁.setTop (mkF m 61 #[VI ux, VI uy, VI uz] [(.int ux), (.int uz)])) (fun _ k => XS.iloadN X0.here hx rfl (hb hby d17_60) rfl  k) ?_
      by_cases hc3 : ux < uz
      · rw [if_pos hc3] at hF
        refine own_by (B := s₁.setTop (mkF m 64 #[VI ux, VI uy, VI uz] [])) (fun _ k => XS.icmpNo X0.here hx rfl (hb hby d17_61) rfl (XT.ii_le_f hc3) k) ?_
        cases hF
      · rw [if_neg hc3] at hF
        refine own_by (B := s₁.setTop (mkF m 73 #[VI ux, VI uy, VI uz] [])) (fun _ k => XS.icmpYes X0.here hx rfl (pc0 := 61) (pc' := 73) rfl (hb hby d17_61) rfl (XT.ii_le_t hc3) (by decide) (by decide) k) ?_
        obtain rfl := Option.some.inj hF
        exact own_retV X0 hx hrt hlk (hb hby d17_73) (by decide) (by decide) (by show own_QPv Z (u0) n0 A K zr zc CA CK CL _ s₁.heap _; rw [e0]; exact ⟨rfl, N0, P0⟩)

def own_binarySearch0 (CL : List (List Int32)) (u0 : own_S) (Lu : List Int32) (ux uy uz : Int32) : Option (Int32 × own_S) := if (uy - (1 : Int32)) < ux then (some ((-(ux + (1 : Int32))), u0)) else (((some (XT.ushr (ux + (uy - (1 : Int32))) (1 : Int32)) : Option Int32)).bind fun w2 => (own_geti Lu w2).bind fun w3 => if w3 < uz then (if (uy - (1 : Int32)) < (w2 + (1 : Int32)) then (some ((-((w2 + (1 : Int32)) + (1 : Int32))), u0)) else (((some (XT.ushr ((w2 + (1 : Int32)) + (uy - (1 : Int32))) (1 : Int32)) : Option Int32)).bind fun w6 => (own_geti Lu w6).bind fun w7 => if w7 < uz then (if (uy - (1 : Int32)) < (w6 + (1 : Int32)) then (some ((-((w6 + (1 : Int32)) + (1 : Int32))), u0)) else (((some (XT.ushr ((w6 + (1 : Int32)) + (uy - (1 : Int32))) (1 : Int32)) : Option Int32)).bind fun w10 => (own_geti Lu w10).bind fun w11 => if w11 < uz then (if (uy - (1 : Int32)) < (w10 + (1 : Int32)) then (some ((-((w10 + (1 : Int32)) + (1 : Int32))), u0)) else (none)) else (if uz < w11 then (if (w10 - (1 : Int32)) < (w6 + (1 : Int32)) then (some ((-((w6 + (1 : Int32)) + (1 : Int32))), u0)) else (none)) else (some (w10, u0))))) else (if uz < w7 then (if (w6 - (1 : Int32)) < (w2 + (1 : Int32)) then (some ((-((w2 + (1 : Int32)) + (1 : Int32))), u0)) else (((some (XT.ushr ((w2 + (1 : Int32)) + (w6 - (1 : Int32))) (1 : Int32)) : Option Int32)).bind fun w18 => (own_geti Lu w18).bind fun w19 => if w19 < uz then (if (w6 - (1 : Int32)) < (w18 + (1 : Int32)) then (some ((-((w18 + (1 : Int32)) + (1 : Int32))), u0)) else (none)) else (if uz < w19 then (if (w18 - (1 : Int32)) < (w2 + (1 : Int32)) then (some ((-((w2 + (1 : Int32)) + (1 : Int32))), u0)) else (none)) else (some (w18, u0))))) else (some (w6, u0))))) else (if uz < w3 then (if (w2 - (1 : Int32)) < ux then (some ((-(ux + (1 : Int32))), u0)) else (((some (XT.ushr (ux + (w2 - (1 : Int32))) (1 : Int32)) : Option Int32)).bind fun w26 => (own_geti Lu w26).bind fun w27 => if w27 < uz then (if (w2 - (1 : Int32)) < (w26 + (1 : Int32)) then (some ((-((w26 + (1 : Int32)) + (1 : Int32))), u0)) else (((some (XT.ushr ((w26 + (1 : Int32)) + (w2 - (1 : Int32))) (1 : Int32)) : Option Int32)).bind fun w30 => (own_geti Lu w30).bind fun w31 => if w31 < uz then (if (w2 - (1 : Int32)) < (w30 + (1 : Int32)) then (some ((-((w30 + (1 : Int32)) + (1 : Int32))), u0)) else (none)) else (if uz < w31 then (if (w30 - (1 : Int32)) < (w26 + (1 : Int32)) then (some ((-((w26 + (1 : Int32)) + (1 : Int32))), u0)) else (none)) else (some (w30, u0))))) else (if uz < w27 then (if (w26 - (1 : Int32)) < ux then (some ((-(ux + (1 : Int32))), u0)) else (((some (XT.ushr (ux + (w26 - (1 : Int32))) (1 : Int32)) : Option Int32)).bind fun w38 => (own_geti Lu w38).bind fun w39 => if w39 < uz then (if (w26 - (1 : Int32)) < (w38 + (1 : Int32)) then (some ((-((w38 + (1 : Int32)) + (1 : Int32))), u0)) else (none)) else (if uz < w39 then (if (w38 - (1 : Int32)) < ux then (some ((-(ux + (1 : Int32))), u0)) else (none)) else (some (w38, u0))))) else (some (w26, u0))))) else (some (w2, u0))))

theorem d18_0 : decode jdk_65_method_59_code 0 = .ok (.iload_n 1, 1) := by decide +kernel
theorem d18_1 : decode jdk_65_method_59_code 1 = .ok (.istore 4, 2) := by decide +kernel
theorem d18_3 : decode jdk_65_method_59_code 3 = .ok (.iload_n 2, 1) := by decide +kernel
theorem d18_4 : decode jdk_65_method_59_code 4 = .ok (.iconst 1, 1) := by decide +kernel
theorem d18_5 : decode jdk_65_method_59_code 5 = .ok (.isub, 1) := by decide +kernel
theorem d18_6 : decode jdk_65_method_59_code 6 = .ok (.istore 5, 2) := by decide +kernel
theorem d18_8 : decode jdk_65_method_59_code 8 = .ok (.iload 4, 2) := by decide +kernel
theorem d18_10 : decode jdk_65_method_59_code 10 = .ok (.iload 5, 2) := by decide +kernel
theorem d18_12 : decode jdk_65_method_59_code 12 = .ok (.if_icmp .gt 54, 3) := by decide +kernel
theorem d18_15 : decode jdk_65_method_59_code 15 = .ok (.iload 4, 2) := by decide +kernel
theorem d18_17 : decode jdk_65_method_59_code 17 = .ok (.iload 5, 2) := by decide +kernel
theorem d18_19 : decode jdk_65_method_59_code 19 = .ok (.iadd, 1) := by decide +kernel
theorem d18_20 : decode jdk_65_method_59_code 20 = .ok (.iconst 1, 1) := by decide +kernel
theorem d18_21 : decode jdk_65_method_59_code 21 = .ok (.iushr, 1) := by decide +kernel
theorem d18_22 : decode jdk_65_method_59_code 22 = .ok (.istore 6, 2) := by decide +kernel
theorem d18_24 : decode jdk_65_method_59_code 24 = .ok (.aload_n 0, 1) := by decide +kernel
theorem d18_25 : decode jdk_65_method_59_code 25 = .ok (.iload 6, 2) := by decide +kernel
theorem d18_27 : decode jdk_65_method_59_code 27 = .ok (.iaload, 1) := by decide +kernel
theorem d18_28 : decode jdk_65_method_59_code 28 = .ok (.istore 7, 2) := by decide +kernel
theorem d18_30 : decode jdk_65_method_59_code 30 = .ok (.iload 7, 2) := by decide +kernel
theorem d18_32 : decode jdk_65_method_59_code 32 = .ok (.iload_n 3, 1) := by decide +kernel
theorem d18_33 : decode jdk_65_method_59_code 33 = .ok (.if_icmp .ge 12, 3) := by decide +kernel
theorem d18_36 : decode jdk_65_method_59_code 36 = .ok (.iload 6, 2) := by decide +kernel
theorem d18_38 : decode jdk_65_method_59_code 38 = .ok (.iconst 1, 1) := by decide +kernel
theorem d18_39 : decode jdk_65_method_59_code 39 = .ok (.iadd, 1) := by decide +kernel
theorem d18_40 : decode jdk_65_method_59_code 40 = .ok (.istore 4, 2) := by decide +kernel
theorem d18_42 : decode jdk_65_method_59_code 42 = .ok (.goto 21, 3) := by decide +kernel
theorem d18_45 : decode jdk_65_method_59_code 45 = .ok (.iload 7, 2) := by decide +kernel
theorem d18_47 : decode jdk_65_method_59_code 47 = .ok (.iload_n 3, 1) := by decide +kernel
theorem d18_48 : decode jdk_65_method_59_code 48 = .ok (.if_icmp .le 12, 3) := by decide +kernel
theorem d18_51 : decode jdk_65_method_59_code 51 = .ok (.iload 6, 2) := by decide +kernel
theorem d18_53 : decode jdk_65_method_59_code 53 = .ok (.iconst 1, 1) := by decide +kernel
theorem d18_54 : decode jdk_65_method_59_code 54 = .ok (.isub, 1) := by decide +kernel
theorem d18_55 : decode jdk_65_method_59_code 55 = .ok (.istore 5, 2) := by decide +kernel
theorem d18_57 : decode jdk_65_method_59_code 57 = .ok (.goto 6, 3) := by decide +kernel
theorem d18_60 : decode jdk_65_method_59_code 60 = .ok (.iload 6, 2) := by decide +kernel
theorem d18_62 : decode jdk_65_method_59_code 62 = .ok (.ireturn, 1) := by decide +kernel
theorem d18_63 : decode jdk_65_method_59_code 63 = .ok (.goto (-55), 3) := by decide +kernel
theorem d18_66 : decode jdk_65_method_59_code 66 = .ok (.iload 4, 2) := by decide +kernel
theorem d18_68 : decode jdk_65_method_59_code 68 = .ok (.iconst 1, 1) := by decide +kernel
theorem d18_69 : decode jdk_65_method_59_code 69 = .ok (.iadd, 1) := by decide +kernel
theorem d18_70 : decode jdk_65_method_59_code 70 = .ok (.ineg, 1) := by decide +kernel
theorem d18_71 : decode jdk_65_method_59_code 71 = .ok (.ireturn, 1) := by decide +kernel
theorem pn_rm_binarySearch0 : plainFor (⟨"java/util/Arrays", "binarySearch0", "([IIII)I"⟩ : MethodName) = true := by first | exact plainFor_of_name (by first | (simp [plainName, overriddenIn]; done) | decide +kernel) | exact Jvm.Free.JP.mathPlain rfl (by decide +kernel) | decide +kernel
theorem ef_rm_binarySearch0 (m : MethodId) (x0 : Nat) (x1 : Int32) (x2 : Int32) (x3 : Int32) : entryFrame m #[(.ref x0), (.int x1), (.int x2), (.int x3)] 8 = mkF m 0 #[VR x0, VI x1, VI x2, VI x3, UU, UU, UU, UU] [] := by first | (simp [entryFrame, mkF, argsToLocals, Value.category]; done) | rfl
set_option maxRecDepth 65536 in
set_option maxHeartbeats 40000000 in
theorem rm_binarySearch0 (l : Launch) (Z : State) (a0 : Array Value) (hw : ∀ d ∈ tables_1, d.before a0 Z = true) (ws : List Jvm.Cond) (A : Nat → Nat) (K : Nat → ClassId) (zr zc : Int32) (CA : Nat → Nat) (CK : Nat → ClassId) (CL : List (List Int32)) (u0 : own_S) (ru : Int32 × own_S) (ui : Nat) (Lu : List Int32) (ux uy uz : Int32) (h0 : Heap) (n0 : Nat) (Z0 : n0 ≤ h0.size) (P0 : own_PS Z h0 n0 A K zr zc CA CK CL u0) (hF : own_binarySearch0 CL u0 Lu ux uy uz = some ru) (hLu : CL[ui]? = some Lu) :
    MetFree l (⟨"java/util/Arrays", "binarySearch0", "([IIII)I"⟩ : MethodName) (head1 (Jvm.Cond.code (⟨"java/util/Arrays", "binarySearch0", "([IIII)I"⟩ : MethodName) jdk_65_method_59_code 8 (some .int) :: ws) ({ frames := 0, cells := 0, slots := 0, locals := 0 } : Room)) (fun a U => a = #[(.ref (CA ui)), (.int ux), (.int uy), (.int uz)] ∧ Z.Warmed39 U.vm ∧ U.heap = h0) (fun _ _ _ _ _ => True) (fun _ U o U' => ∃ v L, o = .returned v ∧ (own_QPr Z ru n0 A K zr zc CA CK CL) v U'.heap L ∧ FrameEnd U o U' L 0 0) := by
  refine MetFree.of_bodySF pn_rm_binarySearch0 hisR ?_
  intro p e s m args below meth c s₁ Bd hml0 hP hK
  obtain ⟨rfl, hZ, hh⟩ := hP
  have hx := Bd.exec
  have hby := Bd.bytes
  have hml : c.maxLocals = 8 := hml0
  have hown : s.vm.findClass "java/util/Arrays" = some m.cls := findClass_of_methodNamed Bd.named
  have hnm := (name_of_methodNamed Bd.named Bd.method).1
  have hrt := Bd.returns
  have hlk := Bd.notSynchronized
  have X0 : Stand p l e ({ frames := 0, cells := 0, slots := 0, locals := 0 } : Room) s m #[(.ref (CA ui)), (.int ux), (.int uy), (.int uz)] below meth c s₁ [] 0 0 := Stand.of_body Bd
  have e0 : s₁.heap = h0 := by rw [← hh, Bd.state]; rfl
  have N0 := Fr.nil n0
  unfold own_binarySearch0 at hF
  refine own_done (B := s₁.setTop (mkF m 0 #[VR (CA ui), VI ux, VI uy, VI uz, UU, UU, UU, UU] [])) (fun t k => castTop (ef_rm_binarySearch0 m (CA ui) ux uy uz) k) ?_
  refine own_by (B := s₁.setTop (mkF m 1 #[VR (CA ui), VI ux, VI uy, VI uz, UU, UU, UU, UU] [(.int ux)])) (fun _ k => XS.iloadN X0.here hx rfl (hb hby d18_0) rfl  k) ?_
  refine own_by (B := s₁.setTop (mkF m 3 #[VR (CA ui), VI ux, VI uy, VI uz, VI ux, UU, UU, UU] [])) (fun _ k => XS.istore X0.here hx rfl (hb hby d18_1) rfl (l' := #[VR (CA ui), VI ux, VI uy, VI uz, VI ux, UU, UU, UU]) rfl k) ?_
  refine own_by (B := s₁.setTop (mkF m 4 #[VR (CA ui), VI ux, VI uy, VI uz, VI ux, UU, UU, UU] [(.int uy)])) (fun _ k => XS.iloadN X0.here hx rfl (hb hby d18_3) rfl  k) ?_
  refine own_by (B := s₁.setTop (mkF m 5 #[VR (CA ui), VI ux, VI uy, VI uz, VI ux, UU, UU, UU] [(.int 1), (.int uy)])) (fun _ k => XS.iconst X0.here hx rfl (hb hby d18_4) k) ?_
  refine own_by (B := s₁.setTop (mkF m 6 #[VR (CA ui), VI ux, VI uy, VI uz, VI ux, UU, UU, UU] [(.int (uy - (1 : Int32)))])) (fun _ k => XS.isub X0.here hx rfl (hb hby d18_5) rfl k) ?_
  refine own_by (B := s₁.setTop (mkF m 8 #[VR (CA ui), VI ux, VI uy, VI uz, VI ux, VI (uy - (1 : Int32)), UU, UU] [])) (fun _ k => XS.istore X0.here hx rfl (hb hby d18_6) rfl (l' := #[VR (CA ui), VI ux, VI uy, VI uz, VI ux, VI (uy - (1 : Int32)), UU, UU]) rfl k) ?_
  refine own_by (B := s₁.setTop (mkF m 10 #[VR (CA ui), VI ux, VI uy, VI uz, VI ux, VI (uy - (1 : Int32)), UU, UU] [(.int ux)])) (fun _ k => XS.iload X0.here hx rfl (hb hby d18_8) rfl  k) ?_
  refine own_by (B := s₁.setTop (mkF m 12 #[VR (CA ui), VI ux, VI uy, VI uz, VI ux, VI (uy - (1 : Int32)), UU, UU] [(.int (uy - (1 : Int32))), (.int ux)])) (fun _ k => XS.iload X0.here hx rfl (hb hby d18_10) rfl  k) ?_
  by_cases hc1 : (uy - (1 : Int32)) < ux
  · rw [if_pos hc1] at hF
    refine own_by (B := s₁.setTop (mkF m 66 #[VR (CA ui), VI ux, VI uy, VI uz, VI ux, VI (uy - (1 : Int32)), UU, UU] [])) (fun _ k => XS.icmpYes X0.here hx rfl (pc0 := 12) (pc' := 66) rfl (hb hby d18_12) rfl (XT.ii_gt_t hc1) (by decide) (by decide) k) ?_
    refine own_by (B := s₁.setTop (mkF m 68 #[VR (CA ui), VI ux, VI uy, VI uz, VI ux, VI (uy - (1 : Int32)), UU, UU] [(.int ux)])) (fun _ k => XS.iload X0.here hx rfl (hb hby d18_66) rfl  k) ?_
    refine own_by (B := s₁.setTop (mkF m 69 #[VR (CA ui), VI ux, VI uy, VI uz, VI ux, VI (uy - (1 : Int32)), UU, UU] [(.int 1), (.int ux)])) (fun _ k => XS.iconst X0.here hx rfl (hb hby d18_68) k) ?_
    refine own_by (B := s₁.setTop (mkF m 70 #[VR (CA ui), VI ux, VI uy, VI uz, VI ux, VI (uy - (1 : Int32)), UU, UU] [(.int (ux + (1 : Int32)))])) (fun _ k => XS.iadd X0.here hx rfl (hb hby d18_69) rfl k) ?_
    refine own_by (B := s₁.setTop (mkF m 71 #[VR (CA ui), VI ux, VI uy, VI uz, VI ux, VI (uy - (1 : Int32)), UU, UU] [(.int (-(ux + (1 : Int32))))])) (fun _ k => XS.ineg X0.here hx rfl (hb hby d18_70) rfl k) ?_
    obtain rfl := Option.some.inj hF
    exact own_retI X0 hx hrt hlk (hb hby d18_71) (by decide) (by decide) (by show own_QPr Z (((-(ux + (1 : Int32))), u0)) n0 A K zr zc CA CK CL _ s₁.heap _; rw [e0]; exact ⟨rfl, N0, P0⟩)
  · rw [if_neg hc1] at hF
    refine own_by (B := s₁.setTop (mkF m 15 #[VR (CA ui), VI ux, VI uy, VI uz, VI ux, VI (uy - (1 : Int32)), UU, UU] [])) (fun _ k => XS.icmpNo X0.here hx rfl (hb hby d18_12) rfl (XT.ii_gt_f hc1) k) ?_
    refine own_by (B := s₁.setTop (mkF m 17 #[VR (CA ui), VI ux, VI uy, VI uz, VI ux, VI (uy - (1 : Int32)), UU, UU] [(.int ux)])) (fun _ k => XS.iload X0.here hx rfl (hb hby d18_15) rfl  k) ?_
    refine own_by (B := s₁.setTop (mkF m 19 #[VR (CA ui), VI ux, VI uy, VI uz, VI ux, VI (uy - (1 : Int32)), UU, UU] [(.int (uy - (1 : Int32))), (.int ux)])) (fun _ k => XS.iload X0.here hx rfl (hb hby d18_17) rfl  k) ?_
    refine own_by (B := s₁.setTop (mkF m 20 #[VR (CA ui), VI ux, VI uy, VI uz, VI ux, VI (uy - (1 : Int32)), UU, UU] [(.int (ux + (uy - (1 : Int32))))])) (fun _ k => XS.iadd X0.here hx rfl (hb hby d18_19) rfl k) ?_
    refine own_by (B := s₁.setTop (mkF m 21 #[VR (CA ui), VI ux, VI uy, VI uz, VI ux, VI (uy - (1 : Int32)), UU, UU] [(.int 1), (.int (ux + (uy - (1 : Int32))))])) (fun _ k => XS.iconst X0.here hx rfl (hb hby d18_20) k) ?_
    refine own_by (B := s₁.setTop (mkF m 22 #[VR (CA ui), VI ux, VI uy, VI uz, VI ux, VI (uy - (1 : Int32)), UU, UU] [(.int (XT.ushr (ux + (uy - (1 : Int32))) (1 : Int32)))])) (fun _ k => XT.iushr X0.here hx rfl (hb hby d18_21) rfl k) ?_
    obtain ⟨w2, hw2, hF⟩ := own_bind hF
    rw [Option.some.inj hw2]
    refine own_by (B := s₁.setTop (mkF m 24 #[VR (CA ui), VI ux, VI uy, VI uz, VI ux, VI (uy - (1 : Int32)), VI w2, UU] [])) (fun _ k => XS.istore X0.here hx rfl (hb hby d18_22) rfl (l' := #[VR (CA ui), VI ux, VI uy, VI uz, VI ux, VI (uy - (1 : Int32)), VI w2, UU]) rfl k) ?_
    refine own_by (B := s₁.setTop (mkF m 25 #[VR (CA ui), VI ux, VI uy, VI uz, VI ux, VI (uy - (1 : Int32)), VI w2, UU] [(.ref (CA ui))])) (fun _ k => XS.aloadN X0.here hx rfl (hb hby d18_24) rfl rfl  k) ?_
    refine own_by (B := s₁.setTop (mkF m 27 #[VR (CA ui), VI ux, VI uy, VI uz, VI ux, VI (uy - (1 : Int32)), VI w2, UU] [(.int w2), (.ref (CA ui))])) (fun _ k => XS.iload X0.here hx rfl (hb hby d18_25) rfl  k) ?_
    obtain ⟨w3, hw3, hF⟩ := own_bind hF
    refine own_by (B := s₁.setTop (mkF m 28 #[VR (CA ui), VI ux, VI uy, VI uz, VI ux, VI (uy - (1 : Int32)), VI w2, UU] [(.int w3)])) (own_ldI X0 hx hZ e0 ((own_PS_cc P0) _ _ hLu).1 hw3 (g := (mkF m 27 #[VR (CA ui), VI ux, VI uy, VI uz, VI ux, VI (uy - (1 : Int32)), VI w2, UU] [(.int w2), (.ref (CA ui))])) rfl rfl (hb hby d18_27)) ?_
    refine own_by (B := s₁.setTop (mkF m 30 #[VR (CA ui), VI ux, VI uy, VI uz, VI ux, VI (uy - (1 : Int32)), VI w2, VI w3] [])) (fun _ k => XS.istore X0.here hx rfl (hb hby d18_28) rfl (l' := #[VR (CA ui), VI ux, VI uy, VI uz, VI ux, VI (uy - (1 : Int32)), VI w2, VI w3]) rfl k) ?_
    refine own_by (B := s₁.setTop (mkF m 32 #[VR (CA ui), VI ux, VI uy, VI uz, VI ux, VI (uy - (1 : Int32)), VI w2, VI w3] [(.int w3)])) (fun _ k => XS.iload X0.here hx rfl (hb hby d18_30) rfl  k) ?_
    refine own_by (B := s₁.setTop (mkF m 33 #[VR (CA ui), VI ux, VI uy, VI uz, VI ux, VI (uy - (1 : Int32)), VI w2, VI w3] [(.int uz), (.int w3)])) (fun _ k => XS.iloadN X0.here hx rfl (hb hby d18_32) rfl  k) ?_
    by_cases hc4 : w3 < uz
    · rw [if_pos hc4] at hF
      refine own_by (B := s₁.setTop (mkF m 36 #[VR (CA ui), VI ux, VI uy, VI uz, VI ux, VI (uy - (1 : Int32)), VI w2, VI w3] [])) (fun _ k => XS.icmpNo X0.here hx rfl (hb hby d18_33) rfl (XT.ii_ge_f hc4) k) ?_
      refine own_by (B := s₁.setTop (mkF m 38 #[VR (CA ui), VI ux, VI uy, VI uz, VI ux, VI (uy - (1 : Int32)), VI w2, VI w3] [(.int w2)])) (fun _ k => XS.iload X0.here hx rfl (hb hby d18_36) rfl  k) ?_
      refine own_by (B := s₁.setTop (mkF m 39 #[VR (CA ui), VI ux, VI uy, VI uz, VI ux, VI (uy - (1 : Int32)), VI w2, VI w3] [(.int 1), (.int w2)])) (fun _ k => XS.iconst X0.here hx rfl (hb hby d18_38) k) ?_
      refine own_by (B := s₁.setTop (mkF m 40 #[VR (CA ui), VI ux, VI uy, VI uz, VI ux, VI (uy - (1 : Int32)), VI w2, VI w3] [(.int (w2 + (1 : Int32)))])) (fun _ k => XS.iadd X0.here hx rfl (hb hby d18_39) rfl k) ?_
      refine own_by (B := s₁.setTop (mkF m 42 #[VR (CA ui), VI ux, VI uy, VI uz, VI (w2 + (1 : Int32)), VI (uy - (1 : Int32)), VI w2, VI w3] [])) (fun _ k => XS.istore X0.here hx rfl (hb hby d18_40) rfl (l' := #[VR (CA ui), VI ux, VI uy, VI uz, VI (w2 + (1 : Int32)), VI (uy - (1 : Int32)), VI w2, VI w3]) rfl k) ?_
      refine own_by (B := s₁.setTop (mkF m 63 #[VR (CA ui), VI ux, VI uy, VI uz, VI (w2 + (1 : Int32)), VI (uy - (1 : Int32)), VI w2, VI w3] [])) (fun _ k => XS.goto X0.here hx rfl (pc0 := 42) (pc' := 63) rfl (hb hby d18_42) (by decide) (by decide) k) ?_
      refine own_by (B := s₁.setTop (mkF m 8 #[VR (CA ui), VI ux, VI uy, VI uz, VI (w2 + (1 : Int32)), VI (uy - (1 : Int32)), VI w2, VI w3] [])) (fun _ k => XS.goto X0.here hx rfl (pc0 := 63) (pc' := 8) rfl (hb hby d18_63) (by decide) (by decide) k) ?_
      refine own_by (B := s₁.setTop (mkF m 10 #[VR (CA ui), VI ux, VI uy, VI uz, VI (w2 + (1 : Int32)), VI (uy - (1 : Int32)), VI w2, VI w3] [(.int (w2 + (1 : Int32)))])) (fun _ k => XS.iload X0.here hx rfl (hb hby d18_8) rfl  k) ?_
      refine own_by (B := s₁.setTop (mkF m 12 #[VR (CA ui), VI ux, VI uy, VI uz, VI (w2 + (1 : Int32)), VI (uy - (1 : Int32)), VI w2, VI w3] [(.int (uy - (1 : Int32))), (.int (w2 + (1 : Int32)))])) (fun _ k => XS.iload X0.here hx rfl (hb hby d18_10) rfl  k) ?_
      by_cases hc5 : (uy - (1 : Int32)) < (w2 + (1 : Int32))
      · rw [if_pos hc5] at hF
        refine own_by (B := s₁.setTop (mkF m 66 #[VR (CA ui), VI ux, VI uy, VI uz, VI (w2 + (1 : Int32)), VI (uy - (1 : Int32)), VI w2, VI w3] [])) (fun _ k => XS.icmpYes X0.here hx rfl (pc0 := 12) (pc' := 66) rfl (hb hby d18_12) rfl (XT.ii_gt_t hc5) (by decide) (by decide) k) ?_
        refine own_by (B := s₁.setTop (mkF m 68 #[VR (CA ui), VI ux, VI uy, VI uz, VI (w2 + (1 : Int32)), VI (uy - (1 : Int32)), VI w2, VI w3] [(.int (w2 + (1 : Int32)))])) (fun _ k => XS.iload X0.here hx rfl (hb hby d18_66) rfl  k) ?_
        refine own_by (B := s₁.setTop (mkF m 69 #[VR (CA ui), VI ux, VI uy, VI uz, VI (w2 + (1 : Int32)), VI (uy - (1 : Int32)), VI w2, VI w3] [(.int 1), (.int (w2 + (1 : Int32)))])) (fun _ k => XS.iconst X0.here hx rfl (hb hby d18_68) k) ?_
        refine own_by (B := s₁.setTop (mkF m 70 #[VR (CA ui), VI ux, VI uy, VI uz, VI (w2 + (1 : Int32)), VI (uy - (1 : Int32)), VI w2, VI w3] [(.int ((w2 + (1 : Int32)) + (1 : Int32)))])) (fun _ k => XS.iadd X0.here hx rfl (hb hby d18_69) rfl k) ?_
        refine own_by (B := s₁.setTop (mkF m 71 #[VR (CA ui), VI ux, VI uy, VI uz, VI (w2 + (1 : Int32)), VI (uy - (1 : Int32)), VI w2, VI w3] [(.int (-((w2 + (1 : Int32)) + (1 : Int32))))])) (fun _ k => XS.ineg X0.here hx rfl (hb hby d18_70) rfl k) ?_
        obtain rfl := Option.some.inj hF
        exact own_retI X0 hx hrt hlk (hb hby d18_71) (by decide) (by decide) (by show own_QPr Z (((-((w2 + (1 : Int32)) + (1 : Int32))), u0)) n0 A K zr zc CA CK CL _ s₁.heap _; rw [e0]; exact ⟨rfl, N0, P0⟩)
      · rw [if_neg hc5] at hF
        refine own_by (B := s₁.setTop (mkF m 15 #[VR (CA ui), VI ux, VI uy, VI uz, VI (w2 + (1 : Int32)), VI (uy - (1 : Int32)), VI w2, VI w3] [])) (fun _ k => XS.icmpNo X0.here hx rfl (hb hby d18_12) rfl (XT.ii_gt_f hc5) k) ?_
        refine own_by (B := s₁.setTop (mkF m 17 #[VR (CA ui), VI ux, VI uy, VI uz, VI (w2 + (1 : Int32)), VI (uy - (1 : Int32)), VI w2, VI w3] [(.int (w2 + (1 : Int32)))])) (fun _ k => XS.iload X0.here hx rfl (hb hby d18_15) rfl  k) ?_
        refine own_by (B := s₁.setTop (mkF m 19 #[VR (CA ui), VI ux, VI uy, VI uz, VI (w2 + (1 : Int32)), VI (uy - (1 : Int32)), VI w2, VI w3] [(.int (uy - (1 : Int32))), (.int (w2 + (1 : Int32)))])) (fun _ k => XS.iload X0.here hx rfl (hb hby d18_17) rfl  k) ?_
        refine own_by (B := s₁.setTop (mkF m 20 #[VR (CA ui), VI ux, VI uy, VI uz, VI (w2 + (1 : Int32)), VI (uy - (1 : Int32)), VI w2, VI w3] [(.int ((w2 + (1 : Int32)) + (uy - (1 : Int32))))])) (fun _ k => XS.iadd X0.here hx rfl (hb hby d18_19) rfl k) ?_
        refine own_by (B := s₁.setTop (mkF m 21 #[VR (CA ui), VI ux, VI uy, VI uz, VI (w2 + (1 : Int32)), VI (uy - (1 : Int32)), VI w2, VI w3] [(.int 1), (.int ((w2 + (1 : Int32)) + (uy - (1 : Int32))))])) (fun _ k => XS.iconst X0.here hx rfl (hb hby d18_20) k) ?_
        refine own_by (B := s₁.setTop (mkF m 22 #[VR (CA ui), VI ux, VI uy, VI uz, VI (w2 + (1 : Int32)), VI (uy - (1 : Int32)), VI w2, VI w3] [(.int (XT.ushr ((w2 + (1 : Int32)) + (uy - (1 : Int32))) (1 : Int32)))])) (fun _ k => XT.iushr X0.here hx rfl (hb hby d18_21) rfl k) ?_
        obtain ⟨w6, hw6, hF⟩ := own_bind hF
        rw [Option.some.inj hw6]
        refine own_by (B := s₁.setTop (mkF m 24 #[VR (CA ui), VI ux, VI uy, VI uz, VI (w2 + (1 : Int32)), VI (uy - (1 : Int32)), VI w6, VI w3] [])) (fun _ k => XS.istore X0.here hx rfl (hb hby d18_22) rfl (l' := #[VR (CA ui), VI ux, VI uy, VI uz, VI (w2 + (1 : Int32)), VI (uy - (1 : Int32)), VI w6, VI w3]) rfl k) ?_
        refine own_by (B := s₁.setTop (mkF m 25 #[VR (CA ui), VI ux, VI uy, VI uz, VI (w2 + (1 : Int32)), VI (uy - (1 : Int32)), VI w6, VI w3] [(.ref (CA ui))])) (fun _ k => XS.aloadN X0.here hx rfl (hb hby d18_24) rfl rfl  k) ?_
        refine own_by (B := s₁.setTop (mkF m 27 #[VR (CA ui), VI ux, VI uy, VI uz, VI (w2 + (1 : Int32)), VI (uy - (1 : Int32)), VI w6, VI w3] [(.int w6), (.ref (CA ui))])) (fun _ k => XS.iload X0.here hx rfl (hb hby d18_25) rfl  k) ?_
        obtain ⟨w7, hw7, hF⟩ := own_bind hF
        refine own_by (B := s₁.setTop (mkF m 28 #[VR (CA ui), VI ux, VI uy, VI uz, VI (w2 + (1 : Int32)), VI (uy - (1 : Int32)), VI w6, VI w3] [(.int w7)])) (own_ldI X0 hx hZ e0 ((own_PS_cc P0) _ _ hLu).1 hw7 (g := (mkF m 27 #[VR (CA ui), VI ux, VI uy, VI uz, VI (w2 + (1 : Int32)), VI (uy - (1 : Int32)), VI w6, VI w3] [(.int w6), (.ref (CA ui))])) rfl rfl (hb hby d18_27)) ?_
        refine own_by (B := s₁.setTop (mkF m 30 #[VR (CA ui), VI ux, VI uy, VI uz, VI (w2 + (1 : Int32)), VI (uy - (1 : Int32)), VI w6, VI w7] [])) (fun _ k => XS.istore X0.here hx rfl (hb hby d18_28) rfl (l' := #[VR (CA ui), VI ux, VI uy, VI uz, VI (w2 + (1 : Int32)), VI (uy - (1 : Int32)), VI w6, VI w7]) rfl k) ?_
        refine own_by (B := s₁.setTop (mkF m 32 #[VR (CA ui), VI ux, VI uy, VI uz, VI (w2 + (1 : Int32)), VI (uy - (1 : Int32)), VI w6, VI w7] [(.int w7)])) (fun _ k => XS.iload X0.here hx rfl (hb hby d18_30) rfl  k) ?_
        refine own_by (B := s₁.setTop (mkF m 33 #[VR (CA ui), VI ux, VI uy, VI uz, VI (w2 + (1 : Int32)), VI (uy - (1 : Int32)), VI w6, VI w7] [(.int uz), (.int w7)])) (fun _ k => XS.iloadN X0.here hx rfl (hb hby d18_32) rfl  k) ?_
        by_cases hc8 : w7 < uz
        · rw [if_pos hc8] at hF
          refine own_by (B := s₁.setTop (mkF m 36 #[VR (CA ui), VI ux, VI uy, VI uz, VI (w2 + (1 : Int32)), VI (uy - (1 : Int32)), VI w6, VI w7] [])) (fun _ k => XS.icmpNo X0.here hx rfl (hb hby d18_33) rfl (XT.ii_ge_f hc8) k) ?_
          refine own_by (B := s₁.setTop (mkF m 38 #[VR (CA ui), VI ux, VI uy, VI uz, VI (w2 + (1 : Int32)), VI (uy - (1 : Int32)), VI w6, VI w7] [(.int w6)])) (fun _ k => XS.iload X0.here hx rfl (hb hby d18_36) rfl  k) ?_
          refine own_by (B := s₁.setTop (mkF m 39 #[VR (CA ui), VI ux, VI uy, VI uz, VI (w2 + (1 : Int32)), VI (uy - (1 : Int32)), VI w6, VI w7] [(.int 1), (.int w6)])) (fun _ k => XS.iconst X0.here hx rfl (hb hby d18_38) k) ?_
          refine own_by (B := s₁.setTop (mkF m 40 #[VR (CA ui), VI ux, VI uy, VI uz, VI (w2 + (1 : Int32)), VI (uy - (1 : Int32)), VI w6, VI w7] [(.int (w6 + (1 : Int32)))])) (fun _ k => XS.iadd X0.here hx rfl (hb hby d18_39) rfl k) ?_
          refine own_by (B := s₁.setTop (mkF m 42 #[VR (CA ui), VI ux, VI uy, VI uz, VI (w6 + (1 : Int32)), VI (uy - (1 : Int32)), VI w6, VI w7] [])) (fun _ k => XS.istore X0.here hx rfl (hb hby d18_40) rfl (l' := #[VR (CA ui), VI ux, VI uy, VI uz, VI (w6 + (1 : Int32)), VI (uy - (1 : Int32)), VI w6, VI w7]) rfl k) ?_
          refine own_by (B := s₁.setTop (mkF m 63 #[VR (CA ui), VI ux, VI uy, VI uz, VI (w6 + (1 : Int32)), VI (uy - (1 : Int32)), VI w6, VI w7] [])) (fun _ k => XS.goto X0.here hx rfl (pc0 := 42) (pc' := 63) rfl (hb hby d18_42) (by decide) (by decide) k) ?_
          refine own_by (B := s₁.setTop (mkF m 8 #[VR (CA ui), VI ux, VI uy, VI uz, VI (w6 + (1 : Int32)), VI (uy - (1 : Int32)), VI w6, VI w7] [])) (fun _ k => XS.goto X0.here hx rfl (pc0 := 63) (pc' := 8) rfl (hb hby d18_63) (by decide) (by decide) k) ?_
          refine own_by (B := s₁.setTop (mkF m 10 #[VR (CA ui), VI ux, VI uy, VI uz, VI (w6 + (1 : Int32)), VI (uy - (1 : Int32)), VI w6, VI w7] [(.int (w6 + (1 : Int32)))])) (fun _ k => XS.iload X0.here hx rfl (hb hby d18_8) rfl  k) ?_
          refine own_by (B := s₁.setTop (mkF m 12 #[VR (CA ui), VI ux, VI uy, VI uz, VI (w6 + (1 : Int32)), VI (uy - (1 : Int32)), VI w6, VI w7] [(.int (uy - (1 : Int32))), (.int (w6 + (1 : Int32)))])) (fun _ k => XS.iload X0.here hx rfl (hb hby d18_10) rfl  k) ?_
          by_cases hc9 : (uy - (1 : Int32)) < (w6 + (1 : Int32))
          · rw [if_pos hc9] at hF
            refine own_by (B := s₁.setTop (mkF m 66 #[VR (CA ui), VI ux, VI uy, VI uz, VI (w6 + (1 : Int32)), VI (uy - (1 : Int32)), VI w6, VI w7] [])) (fun _ k => XS.icmpYes X0.here hx rfl (pc0 := 12) (pc' := 66) rfl (hb hby d18_12) rfl (XT.ii_gt_t hc9) (by decide) (by decide) k) ?_
            refine own_by (B := s₁.setTop (mkF m 68 #[VR (CA ui), VI ux, VI uy, VI uz, VI (w6 + (1 : Int32)), VI (uy - (1 : Int32)), VI w6, VI w7] [(.int (w6 + (1 : Int32)))])) (fun _ k => XS.iload X0.here hx rfl (hb hby d18_66) rfl  k) ?_
            refine own_by (B := s₁.setTop (mkF m 69 #[VR (CA ui), VI ux, VI uy, VI uz, VI (w6 + (1 : Int32)), VI (uy - (1 : Int32)), VI w6, VI w7] [(.int 1), (.int (w6 + (1 : Int32)))])) (fun _ k => XS.iconst X0.here hx rfl (hb hby d18_68) k) ?_
            refine own_by (B := s₁.setTop (mkF m 70 #[VR (CA ui), VI ux, VI uy, VI uz, VI (w6 + (1 : Int32)), VI (uy - (1 : Int32)), VI w6, VI w7] [(.int ((w6 + (1 : Int32)) + (1 : Int32)))])) (fun _ k => XS.iadd X0.here hx rfl (hb hby d18_69) rfl k) ?_
            refine own_by (B := s₁.setTop (mkF m 71 #[VR (CA ui), VI ux, VI uy, VI uz, VI (w6 + (1 : Int32)), VI (uy - (1 : Int32)), VI w6, VI w7] [(.int (-((w6 + (1 : Int32)) + (1 : Int32))))])) (fun _ k => XS.ineg X0.here hx rfl (hb hby d18_70) rfl k) ?_
            obtain rfl := Option.some.inj hF
            exact own_retI X0 hx hrt hlk (hb hby d18_71) (by decide) (by decide) (by show own_QPr Z (((-((w6 + (1 : Int32)) + (1 : Int32))), u0)) n0 A K zr zc CA CK CL _ s₁.heap _; rw [e0]; exact ⟨rfl, N0, P0⟩)
          · rw [if_neg hc9] at hF
            refine own_by (B := s₁.setTop (mkF m 15 #[VR (CA ui), VI ux, VI uy, VI uz, VI (w6 + (1 : Int32)), VI (uy - (1 : Int32)), VI w6, VI w7] [])) (fun _ k => XS.icmpNo X0.here hx rfl (hb hby d18_12) rfl (XT.ii_gt_f hc9) k) ?_
            refine own_by (B := s₁.setTop (mkF m 17 #[VR (CA ui), VI ux, VI uy, VI uz, VI (w6 + (1 : Int32)), VI (uy - (1 : Int32)), VI w6, VI w7] [(.int (w6 + (1 : Int32)))])) (fun _ k => XS.iload X0.here hx rfl (hb hby d18_15) rfl  k) ?_
            refine own_by (B := s₁.setTop (mkF m 19 #[VR (CA ui), VI ux, VI uy, VI uz, VI (w6 + (1 : Int32)), VI (uy - (1 : Int32)), VI w6, VI w7] [(.int (uy - (1 : Int32))), (.int (w6 + (1 : Int32)))])) (fun _ k => XS.iload X0.here hx rfl (hb hby d18_17) rfl  k) ?_
            refine own_by (B := s₁.setTop (mkF m 20 #[VR (CA ui), VI ux, VI uy, VI uz, VI (w6 + (1 : Int32)), VI (uy - (1 : Int32)), VI w6, VI w7] [(.int ((w6 + (1 : Int32)) + (uy - (1 : Int32))))])) (fun _ k => XS.iadd X0.here hx rfl (hb hby d18_19) rfl k) ?_
            refine own_by (B := s₁.setTop (mkF m 21 #[VR (CA ui), VI ux, VI uy, VI uz, VI (w6 + (1 : Int32)), VI (uy - (1 : Int32)), VI w6, VI w7] [(.int 1), (.int ((w6 + (1 : Int32)) + (uy - (1 : Int32))))])) (fun _ k => XS.iconst X0.here hx rfl (hb hby d18_20) k) ?_
            refine own_by (B := s₁.setTop (mkF m 22 #[VR (CA ui), VI ux, VI uy, VI uz, VI (w6 + (1 : Int32)), VI (uy - (1 : Int32)), VI w6, VI w7] [(.int (XT.ushr ((w6 + (1 : Int32)) + (uy - (1 : Int32))) (1 : Int32)))])) (fun _ k => XT.iushr X0.here hx rfl (hb hby d18_21) rfl k) ?_
            obtain ⟨w10, hw10, hF⟩ := own_bind hF
            rw [Option.some.inj hw10]
            refine own_by (B := s₁.setTop (mkF m 24 #[VR (CA ui), VI ux, VI uy, VI uz, VI (w6 + (1 : Int32)), VI (uy - (1 : Int32)), VI w10, VI w7] [])) (fun _ k => XS.istore X0.here hx rfl (hb hby d18_22) rfl (l' := #[VR (CA ui), VI ux, VI uy, VI uz, VI (w6 + (1 : Int32)), VI (uy - (1 : Int32)), VI w10, VI w7]) rfl k) ?_
            refine own_by (B := s₁.setTop (mkF m 25 #[VR (CA ui), VI ux, VI uy, VI uz, VI (w6 + (1 : Int32)), VI (uy - (1 : Int32)), VI w10, VI w7] [(.ref (CA ui))])) (fun _ k => XS.aloadN X0.here hx rfl (hb hby d18_24) rfl rfl  k) ?_
            refine own_by (B := s₁.setTop (mkF m 27 #[VR (CA ui), VI ux, VI uy, VI uz, VI (w6 + (1 : Int32)), VI (uy - (1 : Int32)), VI w10, VI w7] [(.int w10), (.ref (CA ui))])) (fun _ k => XS.iload X0.here hx rfl (hb hby d18_25) rfl  k) ?_
            obtain ⟨w11, hw11, hF⟩ := own_bind hF
            refine own_by (B := s₁.setTop (mkF m 28 #[VR (CA ui), VI ux, VI uy, VI uz, VI (w6 + (1 : Int32)), VI (uy - (1 : Int32)), VI w10, VI w7] [(.int w11)])) (own_ldI X0 hx hZ e0 ((own_PS_cc P0) _ _ hLu).1 hw11 (g := (mkF m 27 #[VR (CA ui), VI ux, VI uy, VI uz, VI (w6 + (1 : Int32)), VI (uy - (1 : Int32)), VI w10, VI w7] [(.int w10), (.ref (CA ui))])) rfl rfl (hb hby d18_27)) ?_
            refine own_by (B := s₁.setTop (mkF m 30 #[VR (CA ui), VI ux, VI uy, VI uz, VI (w6 + (1 : Int32)), VI (uy - (1 : Int32)), VI w10, VI w11] [])) (fun _ k => XS.istore X0.here hx rfl (hb hby d18_28) rfl (l' := #[VR (CA ui), VI ux, VI uy, VI uz, VI (w6 + (1 : Int32)), VI (uy - (1 : Int32)), VI w10, VI w11]) rfl k) ?_
            refine own_by (B := s₁.setTop (mkF m 32 #[VR (CA ui), VI ux, VI uy, VI uz, VI (w6 + (1 : Int32)), VI (uy - (1 : Int32)), VI w10, VI w11] [(.int w11)])) (fun _ k => XS.iload X0.here hx rfl (hb hby d18_30) rfl  k) ?_
            refine own_by (B := s₁.setTop (mkF m 33 #[VR (CA ui), VI ux, VI uy, VI uz, VI (w6 + (1 : Int32)), VI (uy - (1 : Int32)), VI w10, VI w11] [(.int uz), (.int w11)])) (fun _ k => XS.iloadN X0.here hx rfl (hb hby d18_32) rfl  k) ?_
            by_cases hc12 : w11 < uz
            · rw [if_pos hc12] at hF
              refine own_by (B := s₁.setTop (mkF m 36 #[VR (CA ui), VI ux, VI uy, VI uz, VI (w6 + (1 : Int32)), VI (uy - (1 : Int32)), VI w10, VI w11] [])) (fun _ k => XS.icmpNo X0.here hx rfl (hb hby d18_33) rfl (XT.ii_ge_f hc12) k) ?_
              refine own_by (B := s₁.setTop (mkF m 38 #[VR (CA ui), VI ux, VI uy, VI uz, VI (w6 + (1 : Int32)), VI (uy - (1 : Int32)), VI w10, VI w11] [(.int w10)])) (fun _ k => XS.iload X0.here hx rfl (hb hby d18_36) rfl  k) ?_
              refine own_by (B := s₁.setTop (mkF m 39 #[VR (CA ui), VI ux, VI uy, VI uz, VI (w6 + (1 : Int32)), VI (uy - (1 : Int32)), VI w10, VI w11] [(.int 1), (.int w10)])) (fun _ k => XS.iconst X0.here hx rfl (hb hby d18_38) k) ?_
              refine own_by (B := s₁.setTop (mkF m 40 #[VR (CA ui), VI ux, VI uy, VI uz, VI (w6 + (1 : Int32)), VI (uy - (1 : Int32)), VI w10, VI w11] [(.int (w10 + (1 : Int32)))])) (fun _ k => XS.iadd X0.here hx rfl (hb hby d18_39) rfl k) ?_
              refine own_by (B := s₁.setTop (mkF m 42 #[VR (CA ui), VI ux, VI uy, VI uz, VI (w10 + (1 : Int32)), VI (uy - (1 : Int32)), VI w10, VI w11] [])) (fun _ k => XS.istore X0.here hx rfl (hb hby d18_40) rfl (l' := #[VR (CA ui), VI ux, VI uy, VI uz, VI (w10 + (1 : Int32)), VI (uy - (1 : Int32)), VI w10, VI w11]) rfl k) ?_
              refine own_by (B := s₁.setTop (mkF m 63 #[VR (CA ui), VI ux, VI uy, VI uz, VI (w10 + (1 : Int32)), VI (uy - (1 : Int32)), VI w10, VI w11] [])) (fun _ k => XS.goto X0.here hx rfl (pc0 := 42) (pc' := 63) rfl (hb hby d18_42) (by decide) (by decide) k) ?_
              refine own_by (B := s₁.setTop (mkF m 8 #[VR (CA ui), VI ux, VI uy, VI uz, VI (w10 + (1 : Int32)), VI (uy - (1 : Int32)), VI w10, VI w11] [])) (fun _ k => XS.goto X0.here hx rfl (pc0 := 63) (pc' := 8) rfl (hb hby d18_63) (by decide) (by decide) k) ?_
              refine own_by (B := s₁.setTop (mkF m 10 #[VR (CA ui), VI ux, VI uy, VI uz, VI (w10 + (1 : Int32)), VI (uy - (1 : Int32)), VI w10, VI w11] [(.int (w10 + (1 : Int32)))])) (fun _ k => XS.iload X0.here hx rfl (hb hby d18_8) rfl  k) ?_
              refine own_by (B := s₁.setTop (mkF m 12 #[VR (CA ui), VI ux, VI uy, VI uz, VI (w10 + (1 : Int32)), VI (uy - (1 : Int32)), VI w10, VI w11] [(.int (uy - (1 : Int32))), (.int (w10 + (1 : Int32)))])) (fun _ k => XS.iload X0.here hx rfl (hb hby d18_10) rfl  k) ?_
              by_cases hc13 : (uy - (1 : Int32)) < (w10 + (1 : Int32))
              · rw [if_pos hc13] at hF
                refine own_by (B := s₁.setTop (mkF m 66 #[VR (CA ui), VI ux, VI uy, VI uz, VI (w10 + (1 : Int32)), VI (uy - (1 : Int32)), VI w10, VI w11] [])) (fun _ k => XS.icmpYes X0.here hx rfl (pc0 := 12) (pc' := 66) rfl (hb hby d18_12) rfl (XT.ii_gt_t hc13) (by decide) (by decide) k) ?_
                refine own_by (B := s₁.setTop (mkF m 68 #[VR (CA ui), VI ux, VI uy, VI uz, VI (w10 + (1 : Int32)), VI (uy - (1 : Int32)), VI w10, VI w11] [(.int (w10 + (1 : Int32)))])) (fun _ k => XS.iload X0.here hx rfl (hb hby d18_66) rfl  k) ?_
                refine own_by (B := s₁.setTop (mkF m 69 #[VR (CA ui), VI ux, VI uy, VI uz, VI (w10 + (1 : Int32)), VI (uy - (1 : Int32)), VI w10, VI w11] [(.int 1), (.int (w10 + (1 : Int32)))])) (fun _ k => XS.iconst X0.here hx rfl (hb hby d18_68) k) ?_
                refine own_by (B := s₁.setTop (mkF m 70 #[VR (CA ui), VI ux, VI uy, VI uz, VI (w10 + (1 : Int32)), VI (uy - (1 : Int32)), VI w10, VI w11] [(.int ((w10 + (1 : Int32)) + (1 : Int32)))])) (fun _ k => XS.iadd X0.here hx rfl (hb hby d18_69) rfl k) ?_
                refine own_by (B := s₁.setTop (mkF m 71 #[VR (CA ui), VI ux, VI uy, VI uz, VI (w10 + (1 : Int32)), VI (uy - (1 : Int32)), VI w10, VI w11] [(.int (-((w10 + (1 : Int32)) + (1 : Int32))))])) (fun _ k => XS.ineg X0.here hx rfl (hb hby d18_70) rfl k) ?_
                obtain rfl := Option.some.inj hF
                exact own_retI X0 hx hrt hlk (hb hby d18_71) (by decide) (by decide) (by show own_QPr Z (((-((w10 + (1 : Int32)) + (1 : Int32))), u0)) n0 A K zr zc CA CK CL _ s₁.heap _; rw [e0]; exact ⟨rfl, N0, P0⟩)
              · rw [if_neg hc13] at hF
                refine own_by (B := s₁.setTop (mkF m 15 #[VR (CA ui), VI ux, VI uy, VI uz, VI (w10 + (1 : Int32)), VI (uy - (1 : Int32)), VI w10, VI w11] [])) (fun _ k => XS.icmpNo X0.here hx rfl (hb hby d18_12) rfl (XT.ii_gt_f hc13) k) ?_
                cases hF
            · rw [if_neg hc12] at hF
              refine own_by (B := s₁.setTop (mkF m 45 #[VR (CA ui), VI ux, VI uy, VI uz, VI (w6 + (1 : Int32)), VI (uy - (1 : Int32)), VI w10, VI w11] [])) (fun _ k => XS.icmpYes X0.here hx rfl (pc0 := 33) (pc' := 45) rfl (hb hby d18_33) rfl (XT.ii_ge_t hc12) (by decide) (by decide) k) ?_
              refine own_by (B := s₁.setTop (mkF m 47 #[VR (CA ui), VI ux, VI uy, VI uz, VI (w6 + (1 : Int32)), VI (uy - (1 : Int32)), VI w10, VI w11] [(.int w11)])) (fun _ k => XS.iload X0.here hx rfl (hb hby d18_45) rfl  k) ?_
              refine own_by (B := s₁.setTop (mkF m 48 #[VR (CA ui), VI ux, VI uy, VI uz, VI (w6 + (1 : Int32)), VI (uy - (1 : Int32)), VI w10, VI w11] [(.int uz), (.int w11)])) (fun _ k => XS.iloadN X0.here hx rfl (hb hby d18_47) rfl  k) ?_
              by_cases hc14 : uz < w11
              · rw [if_pos hc14] at hF
                refine own_by (B := s₁.setTop (mkF m 51 #[VR (CA ui), VI ux, VI uy, VI uz, VI (w6 + (1 : Int32)), VI (uy - (1 : Int32)), VI w10, VI w11] [])) (fun _ k => XS.icmpNo X0.here hx rfl (hb hby d18_48) rfl (XT.ii_le_f hc14) k) ?_
                refine own_by (B := s₁.setTop (mkF m 53 #[VR (CA ui), VI ux, VI uy, VI uz, VI (w6 + (1 : Int32)), VI (uy - (1 : Int32)), VI w10, VI w11] [(.int w10)])) (fun _ k => XS.iload X0.here hx rfl (hb hby d18_51) rfl  k) ?_
                refine own_by (B := s₁.setTop (mkF m 54 #[VR (CA ui), VI ux, VI uy, VI uz, VI (w6 + (1 : Int32)), VI (uy - (1 : Int32)), VI w10, VI w11] [(.int 1), (.int w10)])) (fun _ k => XS.iconst X0.here hx rfl (hb hby d18_53) k) ?_
                refine own_by (B := s₁.setTop (mkF m 55 #[VR (CA ui), VI ux, VI uy, VI uz, VI (w6 + (1 : Int32)), VI (uy - (1 : Int32)), VI w10, VI w11] [(.int (w10 - (1 : Int32)))])) (fun _ k => XS.isub X0.here hx rfl (hb hby d18_54) rfl k) ?_
                refine own_by (B := s₁.setTop (mkF m 57 #[VR (CA ui), VI ux, VI uy, VI uz, VI (w6 + (1 : Int32)), VI (w10 - (1 : Int32)), VI w10, VI w11] [])) (fun _ k => XS.istore X0.here hx rfl (hb hby d18_55) rfl (l' := #[VR (CA ui), VI ux, VI uy, VI uz, VI (w6 + (1 : Int32)), VI (w10 - (1 : Int32)), VI w10, VI w11]) rfl k) ?_
                refine own_by (B := s₁.setTop (mkF m 63 #[VR (CA ui), VI ux, VI uy, VI uz, VI (w6 + (1 : Int32)), VI (w10 - (1 : Int32)), VI w10, VI w11] [])) (fun _ k => XS.goto X0.here hx rfl (pc0 := 57) (pc' := 63) rfl (hb hby d18_57) (by decide) (by decide) k) ?_
                refine own_by (B := s₁.setTop (mkF m 8 #[VR (CA ui), VI ux, VI uy, VI uz, VI (w6 + (1 : Int32)), VI (w10 - (1 : Int32)), VI w10, VI w11] [])) (fun _ k => XS.goto X0.here hx rfl (pc0 := 63) (pc' := 8) rfl (hb hby d18_63) (by decide) (by decide) k) ?_
                refine own_by (B := s₁.setTop (mkF m 10 #[VR (CA ui), VI ux, VI uy, VI uz, VI (w6 + (1 : Int32)), VI (w10 - (1 : Int32)), VI w10, VI w11] [(.int (w6 + (1 : Int32)))])) (fun _ k => XS.iload X0.here hx rfl (hb hby d18_8) rfl  k) ?_
                refine own_by (B := s₁.setTop (mkF m 12 #[VR (CA ui), VI ux, VI uy, VI uz, VI (w6 + (1 : Int32)), VI (w10 - (1 : Int32)), VI w10, VI w11] [(.int (w10 - (1 : Int32))), (.int (w6 + (1 : Int32)))])) (fun _ k => XS.iload X0.here hx rfl (hb hby d18_10) rfl  k) ?_
                by_cases hc15 : (w10 - (1 : Int32)) < (w6 + (1 : Int32))
                · rw [if_pos hc15] at hF
                  refine own_by (B := s₁.setTop (mkF m 66 #[VR (CA ui), VI ux, VI uy, VI uz, VI (w6 + (1 : Int32)), VI (w10 - (1 : Int32)), VI w10, VI w11] [])) (fun _ k => XS.icmpYes X0.here hx rfl (pc0 := 12) (pc' := 66) rfl (hb hby d18_12) rfl (XT.ii_gt_t hc15) (by decide) (by decide) k) ?_
                  refine own_by (B := s₁.setTop (mkF m 68 #[VR (CA ui), VI ux, VI uy, VI uz, VI (w6 + (1 : Int32)), VI (w10 - (1 : Int32)), VI w10, VI w11] [(.int (w6 + (1 : Int32)))])) (fun _ k => XS.iload X0.here hx rfl (hb hby d18_66) rfl  k) ?_
                  refine own_by (B := s₁.setTop (mkF m 69 #[VR (CA ui), VI ux, VI uy, VI uz, VI (w6 + (1 : Int32)), VI (w10 - (1 : Int32)), VI w10, VI w11] [(.int 1), (.int (w6 + (1 : Int32)))])) (fun _ k => XS.iconst X0.here hx rfl (hb hby d18_68) k) ?_
                  refine own_by (B := s₁.setTop (mkF m 70 #[VR (CA ui), VI ux, VI uy, VI uz, VI (w6 + (1 : Int32)), VI (w10 - (1 : Int32)), VI w10, VI w11] [(.int ((w6 + (1 : Int32)) + (1 : Int32)))])) (fun _ k => XS.iadd X0.here hx rfl (hb hby d18_69) rfl k) ?_
                  refine own_by (B := s₁.setTop (mkF m 71 #[VR (CA ui), VI ux, VI uy, VI uz, VI (w6 + (1 : Int32)), VI (w10 - (1 : Int32)), VI w10, VI w11] [(.int (-((w6 + (1 : Int32)) + (1 : Int32))))])) (fun _ k => XS.ineg X0.here hx rfl (hb hby d18_70) rfl k) ?_
                  obtain rfl := Option.some.inj hF
                  exact own_retI X0 hx hrt hlk (hb hby d18_71) (by decide) (by decide) (by show own_QPr Z (((-((w6 + (1 : Int32)) + (1 : Int32))), u0)) n0 A K zr zc CA CK CL _ s₁.heap _; rw [e0]; exact ⟨rfl, N0, P0⟩)
                · rw [if_neg hc15] at hF
                  refine own_by (B := s₁.setTop (mkF m 15 #[VR (CA ui), VI ux, VI uy, VI uz, VI (w6 + (1 : Int32)), VI (w10 - (1 : Int32)), VI w10, VI w11] [])) (fun _ k => XS.icmpNo X0.here hx rfl (hb hby d18_12) rfl (XT.ii_gt_f hc15) k) ?_
                  cases hF
              · rw [if_neg hc14] at hF
                refine own_by (B := s₁.setTop (mkF m 60 #[VR (CA ui), VI ux, VI uy, VI uz, VI (w6 + (1 : Int32)), VI (uy - (1 : Int32)), VI w10, VI w11] [])) (fun _ k => XS.icmpYes X0.here hx rfl (pc0 := 48) (pc' := 60) rfl (hb hby d18_48) rfl (XT.ii_le_t hc14) (by decide) (by decide) k) ?_
                refine own_by (B := s₁.setTop (mkF m 62 #[VR (CA ui), VI ux, VI uy, VI uz, VI (w6 + (1 : Int32)), VI (uy - (1 : Int32)), VI w10, VI w11] [(.int w10)])) (fun _ k => XS.iload X0.here hx rfl (hb hby d18_60) rfl  k) ?_
                obtain rfl := Option.some.inj hF
                exact own_retI X0 hx hrt hlk (hb hby d18_62) (by decide) (by decide) (by show own_QPr Z ((w10, u0)) n0 A K zr zc CA CK CL _ s₁.heap _; rw [e0]; exact ⟨rfl, N0, P0⟩)
        · rw [if_neg hc8] at hF
          refine own_by (B := s₁.setTop (mkF m 45 #[VR (CA ui), VI ux, VI uy, VI uz, VI (w2 + (1 : Int32)), VI (uy - (1 : Int32)), VI w6, VI w7] [])) (fun _ k => XS.icmpYes X0.here hx rfl (pc0 := 33) (pc' := 45) rfl (hb hby d18_33) rfl (XT.ii_ge_t hc8) (by decide) (by decide) k) ?_
          refine own_by (B := s₁.setTop (mkF m 47 #[VR (CA ui), VI ux, VI uy, VI uz, VI (w2 + (1 : Int32)), VI (uy - (1 : Int32)), VI w6, VI w7] [(.int w7)])) (fun _ k => XS.iload X0.here hx rfl (hb hby d18_45) rfl  k) ?_
          refine own_by (B := s₁.setTop (mkF m 48 #[VR (CA ui), VI ux, VI uy, VI uz, VI (w2 + (1 : Int32)), VI (uy - (1 : Int32)), VI w6, VI w7] [(.int uz), (.int w7)])) (fun _ k => XS.iloadN X0.here hx rfl (hb hby d18_47) rfl  k) ?_
          by_cases hc16 : uz < w7
          · rw [if_pos hc16] at hF
            refine own_by (B := s₁.setTop (mkF m 51 #[VR (CA ui), VI ux, VI uy, VI uz, VI (w2 + (1 : Int32)), VI (uy - (1 : Int32)), VI w6, VI w7] [])) (fun _ k => XS.icmpNo X0.here hx rfl (hb hby d18_48) rfl (XT.ii_le_f hc16) k) ?_
            refine own_by (B := s₁.setTop (mkF m 53 #[VR (CA ui), VI ux, VI uy, VI uz, VI (w2 + (1 : Int32)), VI (uy - (1 : Int32)), VI w6, VI w7] [(.int w6)])) (fun _ k => XS.iload X0.here hx rfl (hb hby d18_51) rfl  k) ?_
            refine own_by (B := s₁.setTop (mkF m 54 #[VR (CA ui), VI ux, VI uy, VI uz, VI (w2 + (1 : Int32)), VI (uy - (1 : Int32)), VI w6, VI w7] [(.int 1), (.int w6)])) (fun _ k => XS.iconst X0.here hx rfl (hb hby d18_53) k) ?_
            refine own_by (B := s₁.setTop (mkF m 55 #[VR (CA ui), VI ux, VI uy, VI uz, VI (w2 + (1 : Int32)), VI (uy - (1 : Int32)), VI w6, VI w7] [(.int (w6 - (1 : Int32)))])) (fun _ k => XS.isub X0.here hx rfl (hb hby d18_54) rfl k) ?_
            refine own_by (B := s₁.setTop (mkF m 57 #[VR (CA ui), VI ux, VI uy, VI uz, VI (w2 + (1 : Int32)), VI (w6 - (1 : Int32)), VI w6, VI w7] [])) (fun _ k => XS.istore X0.here hx rfl (hb hby d18_55) rfl (l' := #[VR (CA ui), VI ux, VI uy, VI uz, VI (w2 + (1 : Int32)), VI (w6 - (1 : Int32)), VI w6, VI w7]) rfl k) ?_
            refine own_by (B := s₁.setTop (mkF m 63 #[VR (CA ui), VI ux, VI uy, VI uz, VI (w2 + (1 : Int32)), VI (w6 - (1 : Int32)), VI w6, VI w7] [])) (fun _ k => XS.goto X0.here hx rfl (pc0 := 57) (pc' := 63) rfl (hb hby d18_57) (by decide) (by decide) k) ?_
            refine own_by (B := s₁.setTop (mkF m 8 #[VR (CA ui), VI ux, VI uy, VI uz, VI (w2 + (1 : Int32)), VI (w6 - (1 : Int32)), VI w6, VI w7] [])) (fun _ k => XS.goto X0.here hx rfl (pc0 := 63) (pc' := 8) rfl (hb hby d18_63) (by decide) (by decide) k) ?_
            refine own_by (B := s₁.setTop (mkF m 10 #[VR (CA ui), VI ux, VI uy, VI uz, VI (w2 + (1 : Int32)), VI (w6 - (1 : Int32)), VI w6, VI w7] [(.int (w2 + (1 : Int32)))])) (fun _ k => XS.iload X0.here hx rfl (hb hby d18_8) rfl  k) ?_
            refine own_by (B := s₁.setTop (mkF m 12 #[VR (CA ui), VI ux, VI uy, VI uz, VI (w2 + (1 : Int32)), VI (w6 - (1 : Int32)), VI w6, VI w7] [(.int (w6 - (1 : Int32))), (.int (w2 + (1 : Int32)))])) (fun _ k => XS.iload X0.here hx rfl (hb hby d18_10) rfl  k) ?_
            by_cases hc17 : (w6 - (1 : Int32)) < (w2 + (1 : Int32))
            · rw [if_pos hc17] at hF
              refine own_by (B := s₁.setTop (mkF m 66 #[VR (CA ui), VI ux, VI uy, VI uz, VI (w2 + (1 : Int32)), VI (w6 - (1 : Int32)), VI w6, VI w7] [])) (fun _ k => XS.icmpYes X0.here hx rfl (pc0 := 12) (pc' := 66) rfl (hb hby d18_12) rfl (XT.ii_gt_t hc17) (by decide) (by decide) k) ?_
              refine own_by (B := s₁.setTop (mkF m 68 #[VR (CA ui), VI ux, VI uy, VI uz, VI (w2 + (1 : Int32)), VI (w6 - (1 : Int32)), VI w6, VI w7] [(.int (w2 + (1 : Int32)))])) (fun _ k => XS.iload X0.here hx rfl (hb hby d18_66) rfl  k) ?_
              refine own_by (B := s₁.setTop (mkF m 69 #[VR (CA ui), VI ux, VI uy, VI uz, VI (w2 + (1 : Int32)), VI (w6 - (1 : Int32)), VI w6, VI w7] [(.int 1), (.int (w2 + (1 : Int32)))])) (fun _ k => XS.iconst X0.here hx rfl (hb hby d18_68) k) ?_
              refine own_by (B := s₁.setTop (mkF m 70 #[VR (CA ui), VI ux, VI uy, VI uz, VI (w2 + (1 : Int32)), VI (w6 - (1 : Int32)), VI w6, VI w7] [(.int ((w2 + (1 : Int32)) + (1 : Int32)))])) (fun _ k => XS.iadd X0.here hx rfl (hb hby d18_69) rfl k) ?_
              refine own_by (B := s₁.setTop (mkF m 71 #[VR (CA ui), VI ux, VI uy, VI uz, VI (w2 + (1 : Int32)), VI (w6 - (1 : Int32)), VI w6, VI w7] [(.int (-((w2 + (1 : Int32)) + (1 : Int32))))])) (fun _ k => XS.ineg X0.here hx rfl (hb hby d18_70) rfl k) ?_
              obtain rfl := Option.some.inj hF
              exact own_retI X0 hx hrt hlk (hb hby d18_71) (by decide) (by decide) (by show own_QPr Z (((-((w2 + (1 : Int32)) + (1 : Int32))), u0)) n0 A K zr zc CA CK CL _ s₁.heap _; rw [e0]; exact ⟨rfl, N0, P0⟩)
            · rw [if_neg hc17] at hF
              refine own_by (B := s₁.setTop (mkF m 15 #[VR (CA ui), VI ux, VI uy, VI uz, VI (w2 + (1 : Int32)), VI (w6 - (1 : Int32)), VI w6, VI w7] [])) (fun _ k => XS.icmpNo X0.here hx rfl (hb hby d18_12) rfl (XT.ii_gt_f hc17) k) ?_
              refine own_by (B := s₁.setTop (mkF m 17 #[VR (CA ui), VI ux, VI uy, VI uz, VI (w2 + (1 : Int32)), VI (w6 - (1 : Int32)), VI w6, VI w7] [(.int (w2 + (1 : Int32)))])) (fun _ k => XS.iload X0.here hx rfl (hb hby d18_15) rfl  k) ?_
              refine own_by (B := s₁.setTop (mkF m 19 #[VR (CA ui), VI ux, VI uy, VI uz, VI (w2 + (1 : Int32)), VI (w6 - (1 : Int32)), VI w6, VI w7] [(.int (w6 - (1 : Int32))), (.int (w2 + (1 : Int32)))])) (fun _ k => XS.iload X0.here hx rfl (hb hby d18_17) rfl  k) ?_
              refine own_by (B := s₁.setTop (mkF m 20 #[VR (CA ui), VI ux, VI uy, VI uz, VI (w2 + (1 : Int32)), VI (w6 - (1 : Int32)), VI w6, VI w7] [(.int ((w2 + (1 : Int32)) + (w6 - (1 : Int32))))])) (fun _ k => XS.iadd X0.here hx rfl (hb hby d18_19) rfl k) ?_
              refine own_by (B := s₁.setTop (mkF m 21 #[VR (CA ui), VI ux, VI uy, VI uz, VI (w2 + (1 : Int32)), VI (w6 - (1 : Int32)), VI w6, VI w7] [(.int 1), (.int ((w2 + (1 : Int32)) + (w6 - (1 : Int32))))])) (fun _ k => XS.iconst X0.here hx rfl (hb hby d18_20) k) ?_
              refine own_by (B := s₁.setTop (mkF m 22 #[VR (CA ui), VI ux, VI uy, VI uz, VI (w2 + (1 : Int32)), VI (w6 - (1 : Int32)), VI w6, VI w7] [(.int (XT.ushr ((w2 + (1 : Int32)) + (w6 - (1 : Int32))) (1 : Int32)))])) (fun _ k => XT.iushr X0.here hx rfl (hb hby d18_21) rfl k) ?_
              obtain ⟨w18, hw18, hF⟩ := own_bind hF
              rw [Option.some.inj hw18]
              refine own_by (B := s₁.setTop (mkF m 24 #[VR (CA ui), VI ux, VI uy, VI uz, VI (w2 + (1 : Int32)), VI (w6 - (1 : Int32)), VI w18, VI w7] [])) (fun _ k => XS.istore X0.here hx rfl (hb hby d18_22) rfl (l' := #[VR (CA ui), VI ux, VI uy, VI uz, VI (w2 + (1 : Int32)), VI (w6 - (1 : Int32)), VI w18, VI w7]) rfl k) ?_
              refine own_by (B := s₁.setTop (mkF m 25 #[VR (CA ui), VI ux, VI uy, VI uz, VI (w2 + (1 : Int32)), VI (w6 - (1 : Int32)), VI w18, VI w7] [(.ref (CA ui))])) (fun _ k => XS.aloadN X0.here hx rfl (hb hby d18_24) rfl rfl  k) ?_
              refine own_by (B := s₁.setTop (mkF m 27 #[VR (CA ui), VI ux, VI uy, VI uz, VI (w2 + (1 : Int32)), VI (w6 - (1 : Int32)), VI w18, VI w7] [(.int w18), (.ref (CA ui))])) (fun _ k => XS.iload X0.here hx rfl (hb hby d18_25) rfl  k) ?_
              obtain ⟨w19, hw19, hF⟩ := own_bind hF
              refine own_by (B := s₁.setTop (mkF m 28 #[VR (CA ui), VI ux, VI uy, VI uz, VI (w2 + (1 : Int32)), VI (w6 - (1 : Int32)), VI w18, VI w7] [(.int w19)])) (own_ldI X0 hx hZ e0 ((own_PS_cc P0) _ _ hLu).1 hw19 (g := (mkF m 27 #[VR (CA ui), VI ux, VI uy, VI uz, VI (w2 + (1 : Int32)), VI (w6 - (1 : Int32)), VI w18, VI w7] [(.int w18), (.ref (CA ui))])) rfl rfl (hb hby d18_27)) ?_
              refine own_by (B := s₁.setTop (mkF m 30 #[VR (CA ui), VI ux, VI uy, VI uz, VI (w2 + (1 : Int32)), VI (w6 - (1 : Int32)), VI w18, VI w19] [])) (fun _ k => XS.istore X0.here hx rfl (hb hby d18_28) rfl (l' := #[VR (CA ui), VI ux, VI uy, VI uz, VI (w2 + (1 : Int32)), VI (w6 - (1 : Int32)), VI w18, VI w19]) rfl k) ?_
              refine own_by (B := s₁.setTop (mkF m 32 #[VR (CA ui), VI ux, VI uy, VI uz, VI (w2 + (1 : Int32)), VI (w6 - (1 : Int32)), VI w18, VI w19] [(.int w19)])) (fun _ k => XS.iload X0.here hx rfl (hb hby d18_30) rfl  k) ?_
              refine own_by (B := s₁.setTop (mkF m 33 #[VR (CA ui), VI ux, VI uy, VI uz, VI (w2 + (1 : Int32)), VI (w6 - (1 : Int32)), VI w18, VI w19] [(.int uz), (.int w19)])) (fun _ k => XS.iloadN X0.here hx rfl (hb hby d18_32) rfl  k) ?_
              by_cases hc20 : w19 < uz
              · rw [if_pos hc20] at hF
                refine own_by (B := s₁.setTop (mkF m 36 #[VR (CA ui), VI ux, VI uy, VI uz, VI (w2 + (1 : Int32)), VI (w6 - (1 : Int32)), VI w18, VI w19] [])) (fun _ k => XS.icmpNo X0.here hx rfl (hb hby d18_33) rfl (XT.ii_ge_f hc20) k) ?_
                refine own_by (B := s₁.setTop (mkF m 38 #[VR (CA ui), VI ux, VI uy, VI uz, VI (w2 + (1 : Int32)), VI (w6 - (1 : Int32)), VI w18, VI w19] [(.int w18)])) (fun _ k => XS.iload X0.here hx rfl (hb hby d18_36) rfl  k) ?_
                refine own_by (B := s₁.setTop (mkF m 39 #[VR (CA ui), VI ux, VI uy, VI uz, VI (w2 + (1 : Int32)), VI (w6 - (1 : Int32)), VI w18, VI w19] [(.int 1), (.int w18)])) (fun _ k => XS.iconst X0.here hx rfl (hb hby d18_38) k) ?_
                refine own_by (B := s₁.setTop (mkF m 40 #[VR (CA ui), VI ux, VI uy, VI uz, VI (w2 + (1 : Int32)), VI (w6 - (1 : Int32)), VI w18, VI w19] [(.int (w18 + (1 : Int32)))])) (fun _ k => XS.iadd X0.here hx rfl (hb hby d18_39) rfl k) ?_
                refine own_by (B := s₁.setTop (mkF m 42 #[VR (CA ui), VI ux, VI uy, VI uz, VI (w18 + (1 : Int32)), VI (w6 - (1 : Int32)), VI w18, VI w19] [])) (fun _ k => XS.istore X0.here hx rfl (hb hby d18_40) rfl (l' := #[VR (CA ui), VI ux, VI uy, VI uz, VI (w18 + (1 : Int32)), VI (w6 - (1 : Int32)), VI w18, VI w19]) rfl k) ?_
                refine own_by (B := s₁.setTop (mkF m 63 #[VR (CA ui), VI ux, VI uy, VI uz, VI (w18 + (1 : Int32)), VI (w6 - (1 : Int32)), VI w18, VI w19] [])) (fun _ k => XS.goto X0.here hx rfl (pc0 := 42) (pc' := 63) rfl (hb hby d18_42) (by decide) (by decide) k) ?_
                refine own_by (B := s₁.setTop (mkF m 8 #[VR (CA ui), VI ux, VI uy, VI uz, VI (w18 + (1 : Int32)), VI (w6 - (1 : Int32)), VI w18, VI w19] [])) (fun _ k => XS.goto X0.here hx rfl (pc0 := 63) (pc' := 8) rfl (hb hby d18_63) (by decide) (by decide) k) ?_
                refine own_by (B := s₁.setTop (mkF m 10 #[VR (CA ui), VI ux, VI uy, VI uz, VI (w18 + (1 : Int32)), VI (w6 - (1 : Int32)), VI w18, VI w19] [(.int (w18 + (1 : Int32)))])) (fun _ k => XS.iload X0.here hx rfl (hb hby d18_8) rfl  k) ?_
                refine own_by (B := s₁.setTop (mkF m 12 #[VR (CA ui), VI ux, VI uy, VI uz, VI (w18 + (1 : Int32)), VI (w6 - (1 : Int32)), VI w18, VI w19] [(.int (w6 - (1 : Int32))), (.int (w18 + (1 : Int32)))])) (fun _ k => XS.iload X0.here hx rfl (hb hby d18_10) rfl  k) ?_
                by_cases hc21 : (w6 - (1 : Int32)) < (w18 + (1 : Int32))
                · rw [if_pos hc21] at hF
                  refine own_by (B := s₁.setTop (mkF m 66 #[VR (CA ui), VI ux, VI uy, VI uz, VI (w18 + (1 : Int32)), VI (w6 - (1 : Int32)), VI w18, VI w19] [])) (fun _ k => XS.icmpYes X0.here hx rfl (pc0 := 12) (pc' := 66) rfl (hb hby d18_12) rfl (XT.ii_gt_t hc21) (by decide) (by decide) k) ?_
                  refine own_by (B := s₁.setTop (mkF m 68 #[VR (CA ui), VI ux, VI uy, VI uz, VI (w18 + (1 : Int32)), VI (w6 - (1 : Int32)), VI w18, VI w19] [(.int (w18 + (1 : Int32)))])) (fun _ k => XS.iload X0.here hx rfl (hb hby d18_66) rfl  k) ?_
                  refine own_by (B := s₁.setTop (mkF m 69 #[VR (CA ui), VI ux, VI uy, VI uz, VI (w18 + (1 : Int32)), VI (w6 - (1 : Int32)), VI w18, VI w19] [(.int 1), (.int (w18 + (1 : Int32)))])) (fun _ k => XS.iconst X0.here hx rfl (hb hby d18_68) k) ?_
                  refine own_by (B := s₁.setTop (mkF m 70 #[VR (CA ui), VI ux, VI uy, VI uz, VI (w18 + (1 : Int32)), VI (w6 - (1 : Int32)), VI w18, VI w19] [(.int ((w18 + (1 : Int32)) + (1 : Int32)))])) (fun _ k => XS.iadd X0.here hx rfl (hb hby d18_69) rfl k) ?_
                  refine own_by (B := s₁.setTop (mkF m 71 #[VR (CA ui), VI ux, VI uy, VI uz, VI (w18 + (1 : Int32)), VI (w6 - (1 : Int32)), VI w18, VI w19] [(.int (-((w18 + (1 : Int32)) + (1 : Int32))))])) (fun _ k => XS.ineg X0.here hx rfl (hb hby d18_70) rfl k) ?_
                  obtain rfl := Option.some.inj hF
                  exact own_retI X0 hx hrt hlk (hb hby d18_71) (by decide) (by decide) (by show own_QPr Z (((-((w18 + (1 : Int32)) + (1 : Int32))), u0)) n0 A K zr zc CA CK CL _ s₁.heap _; rw [e0]; exact ⟨rfl, N0, P0⟩)
                · rw [if_neg hc21] at hF
                  refine own_by (B := s₁.setTop (mkF m 15 #[VR (CA ui), VI ux, VI uy, VI uz, VI (w18 + (1 : Int32)), VI (w6 - (1 : Int32)), VI w18, VI w19] [])) (fun _ k => XS.icmpNo X0.here hx rfl (hb hby d18_12) rfl (XT.ii_gt_f hc21) k) ?_
                  cases hF
              · rw [if_neg hc20] at hF
                refine own_by (B := s₁.setTop (mkF m 45 #[VR (CA ui), VI ux, VI uy, VI uz, VI (w2 + (1 : Int32)), VI (w6 - (1 : Int32)), VI w18, VI w19] [])) (fun _ k => XS.icmpYes X0.here hx rfl (pc0 := 33) (pc' := 45) rfl (hb hby d18_33) rfl (XT.ii_ge_t hc20) (by decide) (by decide) k) ?_
                refine own_by (B := s₁.setTop (mkF m 47 #[VR (CA ui), VI ux, VI uy, VI uz, VI (w2 + (1 : Int32)), VI (w6 - (1 : Int32)), VI w18, VI w19] [(.int w19)])) (fun _ k => XS.iload X0.here hx rfl (hb hby d18_45) rfl  k) ?_
                refine own_by (B := s₁.setTop (mkF m 48 #[VR (CA ui), VI ux, VI uy, VI uz, VI (w2 + (1 : Int32)), VI (w6 - (1 : Int32)), VI w18, VI w19] [(.int uz), (.int w19)])) (fun _ k => XS.iloadN X0.here hx rfl (hb hby d18_47) rfl  k) ?_
                by_cases hc22 : uz < w19
                · rw [if_pos hc22] at hF
                  refine own_by (B := s₁.setTop (mkF m 51 #[VR (CA ui), VI ux, VI uy, VI uz, VI (w2 + (1 : Int32)), VI (w6 - (1 : Int32)), VI w18, VI w19] [])) (fun _ k => XS.icmpNo X0.here hx rfl (hb hby d18_48) rfl (XT.ii_le_f hc22) k) ?_
                  refine own_by (B := s₁.setTop (mkF m 53 #[VR (CA ui), VI ux, VI uy, VI uz, VI (w2 + (1 : Int32)), VI (w6 - (1 : Int32)), VI w18, VI w19] [(.int w18)])) (fun _ k => XS.iload X0.here hx rfl (hb hby d18_51) rfl  k) ?_
                  refine own_by (B := s₁.setTop (mkF m 54 #[VR (CA ui), VI ux, VI uy, VI uz, VI (w2 + (1 : Int32)), VI (w6 - (1 : Int32)), VI w18, VI w19] [(.int 1), (.int w18)])) (fun _ k => XS.iconst X0.here hx rfl (hb hby d18_53) k) ?_
                  refine own_by (B := s₁.setTop (mkF m 55 #[VR (CA ui), VI ux, VI uy, VI uz, VI (w2 + (1 : Int32)), VI (w6 - (1 : Int32)), VI w18, VI w19] [(.int (w18 - (1 : Int32)))])) (fun _ k => XS.isub X0.here hx rfl (hb hby d18_54) rfl k) ?_
                  refine own_by (B := s₁.setTop (mkF m 57 #[VR (CA ui), VI ux, VI uy, VI uz, VI (w2 + (1 : Int32)), VI (w18 - (1 : Int32)), VI w18, VI w19] [])) (fun _ k => XS.istore X0.here hx rfl (hb hby d18_55) rfl (l' := #[VR (CA ui), VI ux, VI uy, VI uz, VI (w2 + (1 : Int32)), VI (w18 - (1 : Int32)), VI w18, VI w19]) rfl k) ?_
                  refine own_by (B := s₁.setTop (mkF m 63 #[VR (CA ui), VI ux, VI uy, VI uz, VI (w2 + (1 : Int32)), VI (w18 - (1 : Int32)), VI w18, VI w19] [])) (fun _ k => XS.goto X0.here hx rfl (pc0 := 57) (pc' := 63) rfl (hb hby d18_57) (by decide) (by decide) k) ?_
                  refine own_by (B := s₁.setTop (mkF m 8 #[VR (CA ui), VI ux, VI uy, VI uz, VI (w2 + (1 : Int32)), VI (w18 - (1 : Int32)), VI w18, VI w19] [])) (fun _ k => XS.goto X0.here hx rfl (pc0 := 63) (pc' := 8) rfl (hb hby d18_63) (by decide) (by decide) k) ?_
                  refine own_by (B := s₁.setTop (mkF m 10 #[VR (CA ui), VI ux, VI uy, VI uz, VI (w2 + (1 : Int32)), VI (w18 - (1 : Int32)), VI w18, VI w19] [(.int (w2 + (1 : Int32)))])) (fun _ k => XS.iload X0.here hx rfl (hb hby d18_8) rfl  k) ?_
                  refine own_by (B := s₁.setTop (mkF m 12 #[VR (CA ui), VI ux, VI uy, VI uz, VI (w2 + (1 : Int32)), VI (w18 - (1 : Int32)), VI w18, VI w19] [(.int (w18 - (1 : Int32))), (.int (w2 + (1 : Int32)))])) (fun _ k => XS.iload X0.here hx rfl (hb hby d18_10) rfl  k) ?_
                  by_cases hc23 : (w18 - (1 : Int32)) < (w2 + (1 : Int32))
                  · rw [if_pos hc23] at hF
                    refine own_by (B := s₁.setTop (mkF m 66 #[VR (CA ui), VI ux, VI uy, VI uz, VI (w2 + (1 : Int32)), VI (w18 - (1 : Int32)), VI w18, VI w19] [])) (fun _ k => XS.icmpYes X0.here hx rfl (pc0 := 12) (pc' := 66) rfl (hb hby d18_12) rfl (XT.ii_gt_t hc23) (by decide) (by decide) k) ?_
                    refine own_by (B := s₁.setTop (mkF m 68 #[VR (CA ui), VI ux, VI uy, VI uz, VI (w2 + (1 : Int32)), VI (w18 - (1 : Int32)), VI w18, VI w19] [(.int (w2 + (1 : Int32)))])) (fun _ k => XS.iload X0.here hx rfl (hb hby d18_66) rfl  k) ?_
                    refine own_by (B := s₁.setTop (mkF m 69 #[VR (CA ui), VI ux, VI uy, VI uz, VI (w2 + (1 : Int32)), VI (w18 - (1 : Int32)), VI w18, VI w19] [(.int 1), (.int (w2 + (1 : Int32)))])) (fun _ k => XS.iconst X0.here hx rfl (hb hby d18_68) k) ?_
                    refine own_by (B := s₁.setTop (mkF m 70 #[VR (CA ui), VI ux, VI uy, VI uz, VI (w2 + (1 : Int32)), VI (w18 - (1 : Int32)), VI w18, VI w19] [(.int ((w2 + (1 : Int32)) + (1 : Int32)))])) (fun _ k => XS.iadd X0.here hx rfl (hb hby d18_69) rfl k) ?_
                    refine own_by (B := s₁.setTop (mkF m 71 #[VR (CA ui), VI ux, VI uy, VI uz, VI (w2 + (1 : Int32)), VI (w18 - (1 : Int32)), VI w18, VI w19] [(.int (-((w2 + (1 : Int32)) + (1 : Int32))))])) (fun _ k => XS.ineg X0.here hx rfl (hb hby d18_70) rfl k) ?_
                    obtain rfl := Option.some.inj hF
                    exact own_retI X0 hx hrt hlk (hb hby d18_71) (by decide) (by decide) (by show own_QPr Z (((-((w2 + (1 : Int32)) + (1 : Int32))), u0)) n0 A K zr zc CA CK CL _ s₁.heap _; rw [e0]; exact ⟨rfl, N0, P0⟩)
                  · rw [if_neg hc23] at hF
                    refine own_by (B := s₁.setTop (mkF m 15 #[VR (CA ui), VI ux, VI uy, VI uz, VI (w2 + (1 : Int32)), VI (w18 - (1 : Int32)), VI w18, VI w19] [])) (fun _ k => XS.icmpNo X0.here hx rfl (hb hby d18_12) rfl (XT.ii_gt_f hc23) k) ?_
                    cases hF
                · rw [if_neg hc22] at hF
                  refine own_by (B := s₁.setTop (mkF m 60 #[VR (CA ui), VI ux, VI uy, VI uz, VI (w2 + (1 : Int32)), VI (w6 - (1 : Int32)), VI w18, VI w19] [])) (fun _ k => XS.icmpYes X0.here hx rfl (pc0 := 48) (pc' := 60) rfl (hb hby d18_48) rfl (XT.ii_le_t hc22) (by decide) (by decide) k) ?_
                  refine own_by (B := s₁.setTop (mkF m 62 #[VR (CA ui), VI ux, VI uy, VI uz, VI (w2 + (1 : Int32)), VI (w6 - (1 : Int32)), VI w18, VI w19] [(.int w18)])) (fun _ k => XS.iload X0.here hx rfl (hb hby d18_60) rfl  k) ?_
                  obtain rfl := Option.some.inj hF
                  exact own_retI X0 hx hrt hlk (hb hby d18_62) (by decide) (by decide) (by show own_QPr Z ((w18, u0)) n0 A K zr zc CA CK CL _ s₁.heap _; rw [e0]; exact ⟨rfl, N0, P0⟩)
          · rw [if_neg hc16] at hF
            refine own_by (B := s₁.setTop (mkF m 60 #[VR (CA ui), VI ux, VI uy, VI uz, VI (w2 + (1 : Int32)), VI (uy - (1 : Int32)), VI w6, VI w7] [])) (fun _ k => XS.icmpYes X0.here hx rfl (pc0 := 48) (pc' := 60) rfl (hb hby d18_48) rfl (XT.ii_le_t hc16) (by decide) (by decide) k) ?_
            refine own_by (B := s₁.setTop (mkF m 62 #[VR (CA ui), VI ux, VI uy, VI uz, VI (w2 + (1 : Int32)), VI (uy - (1 : Int32)), VI w6, VI w7] [(.int w6)])) (fun _ k => XS.iload X0.here hx rfl (hb hby d18_60) rfl  k) ?_
            obtain rfl := Option.some.inj hF
            exact own_retI X0 hx hrt hlk (hb hby d18_62) (by decide) (by decide) (by show own_QPr Z ((w6, u0)) n0 A K zr zc CA CK CL _ s₁.heap _; rw [e0]; exact ⟨rfl, N0, P0⟩)
    · rw [if_neg hc4] at hF
      refine own_by (B := s₁.setTop (mkF m 45 #[VR (CA ui), VI ux, VI uy, VI uz, VI ux, VI (uy - (1 : Int32)), VI w2, VI w3] [])) (fun _ k => XS.icmpYes X0.here hx rfl (pc0 := 33) (pc' := 45) rfl (hb hby d18_33) rfl (XT.ii_ge_t hc4) (by decide) (by decide) k) ?_
      refine own_by (B := s₁.setTop (mkF m 47 #[VR (CA ui), VI ux, VI uy, VI uz, VI ux, VI (uy - (1 : Int32)), VI w2, VI w3] [(.int w3)])) (fun _ k => XS.iload X0.here hx rfl (hb hby d18_45) rfl  k) ?_
      refine own_by (B := s₁.setTop (mkF m 48 #[VR (CA ui), VI ux, VI uy, VI uz, VI ux, VI (uy - (1 : Int32)), VI w2, VI w3] [(.int uz), (.int w3)])) (fun _ k => XS.iloadN X0.here hx rfl (hb hby d18_47) rfl  k) ?_
      by_cases hc24 : uz < w3
      · rw [if_pos hc24] at hF
        refine own_by (B := s₁.setTop (mkF m 51 #[VR (CA ui), VI ux, VI uy, VI uz, VI ux, VI (uy - (1 : Int32)), VI w2, VI w3] [])) (fun _ k => XS.icmpNo X0.here hx rfl (hb hby d18_48) rfl (XT.ii_le_f hc24) k) ?_
        refine own_by (B := s₁.setTop (mkF m 53 #[VR (CA ui), VI ux, VI uy, VI uz, VI ux, VI (uy - (1 : Int32)), VI w2, VI w3] [(.int w2)])) (fun _ k => XS.iload X0.here hx rfl (hb hby d18_51) rfl  k) ?_
        refine own_by (B := s₁.setTop (mkF m 54 #[VR (CA ui), VI ux, VI uy, VI uz, VI ux, VI (uy - (1 : Int32)), VI w2, VI w3] [(.int 1), (.int w2)])) (fun _ k => XS.iconst X0.here hx rfl (hb hby d18_53) k) ?_
        refine own_by (B := s₁.setTop (mkF m 55 #[VR (CA ui), VI ux, VI uy, VI uz, VI ux, VI (uy - (1 : Int32)), VI w2, VI w3] [(.int (w2 - (1 : Int32)))])) (fun _ k => XS.isub X0.here hx rfl (hb hby d18_54) rfl k) ?_
        refine own_by (B := s₁.setTop (mkF m 57 #[VR (CA ui), VI ux, VI uy, VI uz, VI ux, VI (w2 - (1 : Int32)), VI w2, VI w3] [])) (fun _ k => XS.istore X0.here hx rfl (hb hby d18_55) rfl (l' := #[VR (CA ui), VI ux, VI uy, VI uz, VI ux, VI (w2 - (1 : Int32)), VI w2, VI w3]) rfl k) ?_
        refine own_by (B := s₁.setTop (mkF m 63 #[VR (CA ui), VI ux, VI uy, VI uz, VI ux, VI (w2 - (1 : Int32)), VI w2, VI w3] [])) (fun _ k => XS.goto X0.here hx rfl (pc0 := 57) (pc' := 63) rfl (hb hby d18_57) (by decide) (by decide) k) ?_
        refine own_by (B := s₁.setTop (mkF m 8 #[VR (CA ui), VI ux, VI uy, VI uz, VI ux, VI (w2 - (1 : Int32)), VI w2, VI w3] [])) (fun _ k => XS.goto X0.here hx rfl (pc0 := 63) (pc' := 8) rfl (hb hby d18_63) (by decide) (by decide) k) ?_
        refine own_by (B := s₁.setTop (mkF m 10 #[VR (CA ui), VI ux, VI uy, VI uz, VI ux, VI (w2 - (1 : Int32)), VI w2, VI w3] [(.int ux)])) (fun _ k => XS.iload X0.here hx rfl (hb hby d18_8) rfl  k) ?_
        refine own_by (B := s₁.setTop (mkF m 12 #[VR (CA ui), VI ux, VI uy, VI uz, VI ux, VI (w2 - (1 : Int32)), VI w2, VI w3] [(.int (w2 - (1 : Int32))), (.int ux)])) (fun _ k => XS.iload X0.here hx rfl (hb hby d18_10) rfl  k) ?_
        by_cases hc25 : (w2 - (1 : Int32)) < ux
        · rw [if_pos hc25] at hF
          refine own_by (B := s₁.setTop (mkF m 66 #[VR (CA ui), VI ux, VI uy, VI uz, VI ux, VI (w2 - (1 : Int32)), VI w2, VI w3] [])) (fun _ k => XS.icmpYes X0.here hx rfl (pc0 := 12) (pc' := 66) rfl (hb hby d18_12) rfl (XT.ii_gt_t hc25) (by decide) (by decide) k) ?_
          refine own_by (B := s₁.setTop (mkF m 68 #[VR (CA ui), VI ux, VI uy, VI uz, VI ux, VI (w2 - (1 : Int32)), VI w2, VI w3] [(.int ux)])) (fun _ k => XS.iload X0.here hx rfl (hb hby d18_66) rfl  k) ?_
          refine own_by (B := s₁.setTop (mkF m 69 #[VR (CA ui), VI ux, VI uy, VI uz, VI ux, VI (w2 - (1 : Int32)), VI w2, VI w3] [(.int 1), (.int ux)])) (fun _ k => XS.iconst X0.here hx rfl (hb hby d18_68) k) ?_
          refine own_by (B := s₁.setTop (mkF m 70 #[VR (CA ui), VI ux, VI uy, VI uz, VI ux, VI (w2 - (1 : Int32)), VI w2, VI w3] [(.int (ux + (1 : Int32)))])) (fun _ k => XS.iadd X0.here hx rfl (hb hby d18_69) rfl k) ?_
          refine own_by (B := s₁.setTop (mkF m 71 #[VR (CA ui), VI ux, VI uy, VI uz, VI ux, VI (w2 - (1 : Int32)), VI w2, VI w3] [(.int (-(ux + (1 : Int32))))])) (fun _ k => XS.ineg X0.here hx rfl (hb hby d18_70) rfl k) ?_
          obtain rfl := Option.some.inj hF
          exact own_retI X0 hx hrt hlk (hb hby d18_71) (by decide) (by decide) (by show own_QPr Z (((-(ux + (1 : Int32))), u0)) n0 A K zr zc CA CK CL _ s₁.heap _; rw [e0]; exact ⟨rfl, N0, P0⟩)
        · rw [if_neg hc25] at hF
          refine own_by (B := s₁.setTop (mkF m 15 #[VR (CA ui), VI ux, VI uy, VI uz, VI ux, VI (w2 - (1 : Int32)), VI w2, VI w3] [])) (fun _ k => XS.icmpNo X0.here hx rfl (hb hby d18_12) rfl (XT.ii_gt_f hc25) k) ?_
          refine own_by (B := s₁.setTop (mkF m 17 #[VR (CA ui), VI ux, VI uy, VI uz, VI ux, VI (w2 - (1 : Int32)), VI w2, VI w3] [(.int ux)])) (fun _ k => XS.iload X0.here hx rfl (hb hby d18_15) rfl  k) ?_
          refine own_by (B := s₁.setTop (mkF m 19 #[VR (CA ui), VI ux, VI uy, VI uz, VI ux, VI (w2 - (1 : Int32)), VI w2, VI w3] [(.int (w2 - (1 : Int32))), (.int ux)])) (fun _ k => XS.iload X0.here hx rfl (hb hby d18_17) rfl  k) ?_
          refine own_by (B := s₁.setTop (mkF m 20 #[VR (CA ui), VI ux, VI uy, VI uz, VI ux, VI (w2 - (1 : Int32)), VI w2, VI w3] [(.int (ux + (w2 - (1 : Int32))))])) (fun _ k => XS.iadd X0.here hx rfl (hb hby d18_19) rfl k) ?_
          refine own_by (B := s₁.setTop (mkF m 21 #[VR (CA ui), VI ux, VI uy, VI uz, VI ux, VI (w2 - (1 : Int32)), VI w2, VI w3] [(.int 1), (.int (ux + (w2 - (1 : Int32))))])) (fun _ k => XS.iconst X0.here hx rfl (hb hby d18_20) k) ?_
          refine own_by (B := s₁.setTop (mkF m 22 #[VR (CA ui), VI ux, VI uy, VI uz, VI ux, VI (w2 - (1 : Int32)), VI w2, VI w3] [(.int (XT.ushr (ux + (w2 - (1 : Int32))) (1 : Int32)))])) (fun _ k => XT.iushr X0.here hx rfl (hb hby d18_21) rfl k) ?_
          obtain ⟨w26, hw26, hF⟩ := own_bind hF
          rw [Option.some.inj hw26]
          refine own_by (B := s₁.setTop (mkF m 24 #[VR (CA ui), VI ux, VI uy, VI uz, VI ux, VI (w2 - (1 : Int32)), VI w26, VI w3] [])) (fun _ k => XS.istore X0.here hx rfl (hb hby d18_22) rfl (l' := #[VR (CA ui), VI ux, VI uy, VI uz, VI ux, VI (w2 - (1 : Int32)), VI w26, VI w3]) rfl k) ?_
          refine own_by (B := s₁.setTop (mkF m 25 #[VR (CA ui), VI ux, VI uy, VI uz, VI ux, VI (w2 - (1 : Int32)), VI w26, VI w3] [(.ref (CA ui))])) (fun _ k => XS.aloadN X0.here hx rfl (hb hby d18_24) rfl rfl  k) ?_
          refine own_by (B := s₁.setTop (mkF m 27 #[VR (CA ui), VI ux, VI uy, VI uz, VI ux, VI (w2 - (1 : Int32)), VI w26, VI w3] [(.int w26), (.ref (CA ui))])) (fun _ k => XS.iload X0.here hx rfl (hb hby d18_25) rfl  k) ?_
          obtain ⟨w27, hw27, hF⟩ := own_bind hF
          refine own_by (B := s₁.setTop (mkF m 28 #[VR (CA ui), VI ux, VI uy, VI uz, VI ux, VI (w2 - (1 : Int32)), VI w26, VI w3] [(.int w27)])) (own_ldI X0 hx hZ e0 ((own_PS_cc P0) _ _ hLu).1 hw27 (g := (mkF m 27 #[VR (CA ui), VI ux, VI uy, VI uz, VI ux, VI (w2 - (1 : Int32)), VI w26, VI w3] [(.int w26), (.ref (CA ui))])) rfl rfl (hb hby d18_27)) ?_
          refine own_by (B := s₁.setTop (mkF m 30 #[VR (CA ui), VI ux, VI uy, VI uz, VI ux, VI (w2 - (1 : Int32)), VI w26, VI w27] [])) (fun _ k => XS.istore X0.here hx rfl (hb hby d18_28) rfl (l' := #[VR (CA ui), VI ux, VI uy, VI uz, VI ux, VI (w2 - (1 : Int32)), VI w26, VI w27]) rfl k) ?_
          refine own_by (B := s₁.setTop (mkF m 32 #[VR (CA ui), VI ux, VI uy, VI uz, VI ux, VI (w2 - (1 : Int32)), VI w26, VI w27] [(.int w27)])) (fun _ k => XS.iload X0.here hx rfl (hb hby d18_30) rfl  k) ?_
          refine own_by (B := s₁.setTop (mkF m 33 #[VR (CA ui), VI ux, VI uy, VI uz, VI ux, VI (w2 - (1 : Int32)), VI w26, VI w27] [(.int uz), (.int w27)])) (fun _ k => XS.iloadN X0.here hx rfl (hb hby d18_32) rfl  k) ?_
          by_cases hc28 : w27 < uz
          · rw [if_pos hc28] at hF
            refine own_by (B := s₁.setTop (mkF m 36 #[VR (CA ui), VI ux, VI uy, VI uz, VI ux, VI (w2 - (1 : Int32)), VI w26, VI w27] [])) (fun _ k => XS.icmpNo X0.here hx rfl (hb hby d18_33) rfl (XT.ii_ge_f hc28) k) ?_
            refine own_by (B := s₁.setTop (mkF m 38 #[VR (CA ui), VI ux, VI uy, VI uz, VI ux, VI (w2 - (1 : Int32)), VI w26, VI w27] [(.int w26)])) (fun _ k => XS.iload X0.here hx rfl (hb hby d18_36) rfl  k) ?_
            refine own_by (B := s₁.setTop (mkF m 39 #[VR (CA ui), VI ux, VI uy, VI uz, VI ux, VI (w2 - (1 : Int32)), VI w26, VI w27] [(.int 1), (.int w26)])) (fun _ k => XS.iconst X0.here hx rfl (hb hby d18_38) k) ?_
            refine own_by (B := s₁.setTop (mkF m 40 #[VR (CA ui), VI ux, VI uy, VI uz, VI ux, VI (w2 - (1 : Int32)), VI w26, VI w27] [(.int (w26 + (1 : Int32)))])) (fun _ k => XS.iadd X0.here hx rfl (hb hby d18_39) rfl k) ?_
            refine own_by (B := s₁.setTop (mkF m 42 #[VR (CA ui), VI ux, VI uy, VI uz, VI (w26 + (1 : Int32)), VI (w2 - (1 : Int32)), VI w26, VI w27] [])) (fun _ k => XS.istore X0.here hx rfl (hb hby d18_40) rfl (l' := #[VR (CA ui), VI ux, VI uy, VI uz, VI (w26 + (1 : Int32)), VI (w2 - (1 : Int32)), VI w26, VI w27]) rfl k) ?_
            refine own_by (B := s₁.setTop (mkF m 63 #[VR (CA ui), VI ux, VI uy, VI uz, VI (w26 + (1 : Int32)), VI (w2 - (1 : Int32)), VI w26, VI w27] [])) (fun _ k => XS.goto X0.here hx rfl (pc0 := 42) (pc' := 63) rfl (hb hby d18_42) (by decide) (by decide) k) ?_
            refine own_by (B := s₁.setTop (mkF m 8 #[VR (CA ui), VI ux, VI uy, VI uz, VI (w26 + (1 : Int32)), VI (w2 - (1 : Int32)), VI w26, VI w27] [])) (fun _ k => XS.goto X0.here hx rfl (pc0 := 63) (pc' := 8) rfl (hb hby d18_63) (by decide) (by decide) k) ?_
            refine own_by (B := s₁.setTop (mkF m 10 #[VR (CA ui), VI ux, VI uy, VI uz, VI (w26 + (1 : Int32)), VI (w2 - (1 : Int32)), VI w26, VI w27] [(.int (w26 + (1 : Int32)))])) (fun _ k => XS.iload X0.here hx rfl (hb hby d18_8) rfl  k) ?_
            refine own_by (B := s₁.setTop (mkF m 12 #[VR (CA ui), VI ux, VI uy, VI uz, VI (w26 + (1 : Int32)), VI (w2 - (1 : Int32)), VI w26, VI w27] [(.int (w2 - (1 : Int32))), (.int (w26 + (1 : Int32)))])) (fun _ k => XS.iload X0.here hx rfl (hb hby d18_10) rfl  k) ?_
            by_cases hc29 : (w2 - (1 : Int32)) < (w26 + (1 : Int32))
            · rw [if_pos hc29] at hF
              refine own_by (B := s₁.setTop (mkF m 66 #[VR (CA ui), VI ux, VI uy, VI uz, VI (w26 + (1 : Int32)), VI (w2 - (1 : Int32)), VI w26, VI w27] [])) (fun _ k => XS.icmpYes X0.here hx rfl (pc0 := 12) (pc' := 66) rfl (hb hby d18_12) rfl (XT.ii_gt_t hc29) (by decide) (by decide) k) ?_
              refine own_by (B := s₁.setTop (mkF m 68 #[VR (CA ui), VI ux, VI uy, VI uz, VI (w26 + (1 : Int32)), VI (w2 - (1 : Int32)), VI w26, VI w27] [(.int (w26 + (1 : Int32)))])) (fun _ k => XS.iload X0.here hx rfl (hb hby d18_66) rfl  k) ?_
              refine own_by (B := s₁.setTop (mkF m 69 #[VR (CA ui), VI ux, VI uy, VI uz, VI (w26 + (1 : Int32)), VI (w2 - (1 : Int32)), VI w26, VI w27] [(.int 1), (.int (w26 + (1 : Int32)))])) (fun _ k => XS.iconst X0.here hx rfl (hb hby d18_68) k) ?_
              refine own_by (B := s₁.setTop (mkF m 70 #[VR (CA ui), VI ux, VI uy, VI uz, VI (w26 + (1 : Int32)), VI (w2 - (1 : Int32)), VI w26, VI w27] [(.int ((w26 + (1 : Int32)) + (1 : Int32)))])) (fun _ k => XS.iadd X0.here hx rfl (hb hby d18_69) rfl k) ?_
              refine own_by (B := s₁.setTop (mkF m 71 #[VR (CA ui), VI ux, VI uy, VI uz, VI (w26 + (1 : Int32)), VI (w2 - (1 : Int32)), VI w26, VI w27] [(.int (-((w26 + (1 : Int32)) + (1 : Int32))))])) (fun _ k => XS.ineg X0.here hx rfl (hb hby d18_70) rfl k) ?_
              obtain rfl := Option.some.inj hF
              exact own_retI X0 hx hrt hlk (hb hby d18_71) (by decide) (by decide) (by show own_QPr Z (((-((w26 + (1 : Int32)) + (1 : Int32))), u0)) n0 A K zr zc CA CK CL _ s₁.heap _; rw [e0]; exact ⟨rfl, N0, P0⟩)
            · rw [if_neg hc29] at hF
              refine own_by (B := s₁.setTop (mkF m 15 #[VR (CA ui), VI ux, VI uy, VI uz, VI (w26 + (1 : Int32)), VI (w2 - (1 : Int32)), VI w26, VI w27] [])) (fun _ k => XS.icmpNo X0.here hx rfl (hb hby d18_12) rfl (XT.ii_gt_f hc29) k) ?_
              refine own_by (B := s₁.setTop (mkF m 17 #[VR (CA ui), VI ux, VI uy, VI uz, VI (w26 + (1 : Int32)), VI (w2 - (1 : Int32)), VI w26, VI w27] [(.int (w26 + (1 : Int32)))])) (fun _ k => XS.iload X0.here hx rfl (hb hby d18_15) rfl  k) ?_
              refine own_by (B := s₁.setTop (mkF m 19 #[VR (CA ui), VI ux, VI uy, VI uz, VI (w26 + (1 : Int32)), VI (w2 - (1 : Int32)), VI w26, VI w27] [(.int (w2 - (1 : Int32))), (.int (w26 + (1 : Int32)))])) (fun _ k => XS.iload X0.here hx rfl (hb hby d18_17) rfl  k) ?_
              refine own_by (B := s₁.setTop (mkF m 20 #[VR (CA ui), VI ux, VI uy, VI uz, VI (w26 + (1 : Int32)), VI (w2 - (1 : Int32)), VI w26, VI w27] [(.int ((w26 + (1 : Int32)) + (w2 - (1 : Int32))))])) (fun _ k => XS.iadd X0.here hx rfl (hb hby d18_19) rfl k) ?_
              refine own_by (B := s₁.setTop (mkF m 21 #[VR (CA ui), VI ux, VI uy, VI uz, VI (w26 + (1 : Int32)), VI (w2 - (1 : Int32)), VI w26, VI w27] [(.int 1), (.int ((w26 + (1 : Int32)) + (w2 - (1 : Int32))))])) (fun _ k => XS.iconst X0.here hx rfl (hb hby d18_20) k) ?_
              refine own_by (B := s₁.setTop (mkF m 22 #[VR (CA ui), VI ux, VI uy, VI uz, VI (w26 + (1 : Int32)), VI (w2 - (1 : Int32)), VI w26, VI w27] [(.int (XT.ushr ((w26 + (1 : Int32)) + (w2 - (1 : Int32))) (1 : Int32)))])) (fun _ k => XT.iushr X0.here hx rfl (hb hby d18_21) rfl k) ?_
              obtain ⟨w30, hw30, hF⟩ := own_bind hF
              rw [Option.some.inj hw30]
              refine own_by (B := s₁.setTop (mkF m 24 #[VR (CA ui), VI ux, VI uy, VI uz, VI (w26 + (1 : Int32)), VI (w2 - (1 : Int32)), VI w30, VI w27] [])) (fun _ k => XS.istore X0.here hx rfl (hb hby d18_22) rfl (l' := #[VR (CA ui), VI ux, VI uy, VI uz, VI (w26 + (1 : Int32)), VI (w2 - (1 : Int32)), VI w30, VI w27]) rfl k) ?_
              refine own_by (B := s₁.setTop (mkF m 25 #[VR (CA ui), VI ux, VI uy, VI uz, VI (w26 + (1 : Int32)), VI (w2 - (1 : Int32)), VI w30, VI w27] [(.ref (CA ui))])) (fun _ k => XS.aloadN X0.here hx rfl (hb hby d18_24) rfl rfl  k) ?_
              refine own_by (B := s₁.setTop (mkF m 27 #[VR (CA ui), VI ux, VI uy, VI uz, VI (w26 + (1 : Int32)), VI (w2 - (1 : Int32)), VI w30, VI w27] [(.int w30), (.ref (CA ui))])) (fun _ k => XS.iload X0.here hx rfl (hb hby d18_25) rfl  k) ?_
              obtain ⟨w31, hw31, hF⟩ := own_bind hF
              refine own_by (B := s₁.setTop (mkF m 28 #[VR (CA ui), VI ux, VI uy, VI uz, VI (w26 + (1 : Int32)), VI (w2 - (1 : Int32)), VI w30, VI w27] [(.int w31)])) (own_ldI X0 hx hZ e0 ((own_PS_cc P0) _ _ hLu).1 hw31 (g := (mkF m 27 #[VR (CA ui), VI ux, VI uy, VI uz, VI (w26 + (1 : Int32)), VI (w2 - (1 : Int32)), VI w30, VI w27] [(.int w30), (.ref (CA ui))])) rfl rfl (hb hby d18_27)) ?_
              refine own_by (B := s₁.setTop (mkF m 30 #[VR (CA ui), VI ux, VI uy, VI uz, VI (w26 + (1 : Int32)), VI (w2 - (1 : Int32)), VI w30, VI w31] [])) (fun _ k => XS.istore X0.here hx rfl (hb hby d18_28) rfl (l' := #[VR (CA ui), VI ux, VI uy, VI uz, VI (w26 + (1 : Int32)), VI (w2 - (1 : Int32)), VI w30, VI w31]) rfl k) ?_
              refine own_by (B := s₁.setTop (mkF m 32 #[VR (CA ui), VI ux, VI uy, VI uz, VI (w26 + (1 : Int32)), VI (w2 - (1 : Int32)), VI w30, VI w31] [(.int w31)])) (fun _ k => XS.iload X0.here hx rfl (hb hby d18_30) rfl  k) ?_
              refine own_by (B := s₁.setTop (mkF m 33 #[VR (CA ui), VI ux, VI uy, VI uz, VI (w26 + (1 : Int32)), VI (w2 - (1 : Int32)), VI w30, VI w31] [(.int uz), (.int w31)])) (fun _ k => XS.iloadN X0.here hx rfl (hb hby d18_32) rfl  k) ?_
              by_cases hc32 : w31 < uz
              · rw [if_pos hc32] at hF
                refine own_by (B := s₁.setTop (mkF m 36 #[VR (CA ui), VI ux, VI uy, VI uz, VI (w26 + (1 : Int32)), VI (w2 - (1 : Int32)), VI w30, VI w31] [])) (fun _ k => XS.icmpNo X0.here hx rfl (hb hby d18_33) rfl (XT.ii_ge_f hc32) k) ?_
                refine own_by (B := s₁.setTop (mkF m 38 #[VR (CA ui), VI ux, VI uy, VI uz, VI (w26 + (1 : Int32)), VI (w2 - (1 : Int32)), VI w30, VI w31] [(.int w30)])) (fun _ k => XS.iload X0.here hx rfl (hb hby d18_36) rfl  k) ?_
                refine own_by (B := s₁.setTop (mkF m 39 #[VR (CA ui), VI ux, VI uy, VI uz, VI (w26 + (1 : Int32)), VI (w2 - (1 : Int32)), VI w30, VI w31] [(.int 1), (.int w30)])) (fun _ k => XS.iconst X0.here hx rfl (hb hby d18_38) k) ?_
                refine own_by (B := s₁.setTop (mkF m 40 #[VR (CA ui), VI ux, VI uy, VI uz, VI (w26 + (1 : Int32)), VI (w2 - (1 : Int32)), VI w30, VI w31] [(.int (w30 + (1 : Int32)))])) (fun _ k => XS.iadd X0.here hx rfl (hb hby d18_39) rfl k) ?_
                refine own_by (B := s₁.setTop (mkF m 42 #[VR (CA ui), VI ux, VI uy, VI uz, VI (w30 + (1 : Int32)), VI (w2 - (1 : Int32)), VI w30, VI w31] [])) (fun _ k => XS.istore X0.here hx rfl (hb hby d18_40) rfl (l' := #[VR (CA ui), VI ux, VI uy, VI uz, VI (w30 + (1 : Int32)), VI (w2 - (1 : Int32)), VI w30, VI w31]) rfl k) ?_
                refine own_by (B := s₁.setTop (mkF m 63 #[VR (CA ui), VI ux, VI uy, VI uz, VI (w30 + (1 : Int32)), VI (w2 - (1 : Int32)), VI w30, VI w31] [])) (fun _ k => XS.goto X0.here hx rfl (pc0 := 42) (pc' := 63) rfl (hb hby d18_42) (by decide) (by decide) k) ?_
                refine own_by (B := s₁.setTop (mkF m 8 #[VR (CA ui), VI ux, VI uy, VI uz, VI (w30 + (1 : Int32)), VI (w2 - (1 : Int32)), VI w30, VI w31] [])) (fun _ k => XS.goto X0.here hx rfl (pc0 := 63) (pc' := 8) rfl (hb hby d18_63) (by decide) (by decide) k) ?_
                refine own_by (B := s₁.setTop (mkF m 10 #[VR (CA ui), VI ux, VI uy, VI uz, VI (w30 + (1 : Int32)), VI (w2 - (1 : Int32)), VI w30, VI w31] [(.int (w30 + (1 : Int32)))])) (fun _ k => XS.iload X0.here hx rfl (hb hby d18_8) rfl  k) ?_
                refine own_by (B := s₁.setTop (mkF m 12 #[VR (CA ui), VI ux, VI uy, VI uz, VI (w30 + (1 : Int32)), VI (w2 - (1 : Int32)), VI w30, VI w31] [(.int (w2 - (1 : Int32))), (.int (w30 + (1 : Int32)))])) (fun _ k => XS.iload X0.here hx rfl (hb hby d18_10) rfl  k) ?_
                by_cases hc33 : (w2 - (1 : Int32)) < (w30 + (1 : Int32))
                · rw [if_pos hc33] at hF
                  refine own_by (B := s₁.setTop (mkF m 66 #[VR (CA ui), VI ux, VI uy, VI uz, VI (w30 + (1 : Int32)), VI (w2 - (1 : Int32)), VI w30, VI w31] [])) (fun _ k => XS.icmpYes X0.here hx rfl (pc0 := 12) (pc' := 66) rfl (hb hby d18_12) rfl (XT.ii_gt_t hc33) (by decide) (by decide) k) ?_
                  refine own_by (B := s₁.setTop (mkF m 68 #[VR (CA ui), VI ux, VI uy, VI uz, VI (w30 + (1 : Int32)), VI (w2 - (1 : Int32)), VI w30, VI w31] [(.int (w30 + (1 : Int32)))])) (fun _ k => XS.iload X0.here hx rfl (hb hby d18_66) rfl  k) ?_
                  refine own_by (B := s₁.setTop (mkF m 69 #[VR (CA ui), VI ux, VI uy, VI uz, VI (w30 + (1 : Int32)), VI (w2 - (1 : Int32)), VI w30, VI w31] [(.int 1), (.int (w30 + (1 : Int32)))])) (fun _ k => XS.iconst X0.here hx rfl (hb hby d18_68) k) ?_
                  refine own_by (B := s₁.setTop (mkF m 70 #[VR (CA ui), VI ux, VI uy, VI uz, VI (w30 + (1 : Int32)), VI (w2 - (1 : Int32)), VI w30, VI w31] [(.int ((w30 + (1 : Int32)) + (1 : Int32)))])) (fun _ k => XS.iadd X0.here hx rfl (hb hby d18_69) rfl k) ?_
                  refine own_by (B := s₁.setTop (mkF m 71 #[VR (CA ui), VI ux, VI uy, VI uz, VI (w30 + (1 : Int32)), VI (w2 - (1 : Int32)), VI w30, VI w31] [(.int (-((w30 + (1 : Int32)) + (1 : Int32))))])) (fun _ k => XS.ineg X0.here hx rfl (hb hby d18_70) rfl k) ?_
                  obtain rfl := Option.some.inj hF
                  exact own_retI X0 hx hrt hlk (hb hby d18_71) (by decide) (by decide) (by show own_QPr Z (((-((w30 + (1 : Int32)) + (1 : Int32))), u0)) n0 A K zr zc CA CK CL _ s₁.heap _; rw [e0]; exact ⟨rfl, N0, P0⟩)
                · rw [if_neg hc33] at hF
                  refine own_by (B := s₁.setTop (mkF m 15 #[VR (CA ui), VI ux, VI uy, VI uz, VI (w30 + (1 : Int32)), VI (w2 - (1 : Int32)), VI w30, VI w31] [])) (fun _ k => XS.icmpNo X0.here hx rfl (hb hby d18_12) rfl (XT.ii_gt_f hc33) k) ?_
                  cases hF
              · rw [if_neg hc32] at hF
                refine own_by (B := s₁.setTop (mkF m 45 #[VR (CA ui), VI ux, VI uy, VI uz, VI (w26 + (1 : Int32)), VI (w2 - (1 : Int32)), VI w30, VI w31] [])) (fun _ k => XS.icmpYes X0.here hx rfl (pc0 := 33) (pc' := 45) rfl (hb hby d18_33) rfl (XT.ii_ge_t hc32) (by decide) (by decide) k) ?_
                refine own_by (B := s₁.setTop (mkF m 47 #[VR (CA ui), VI ux, VI uy, VI uz, VI (w26 + (1 : Int32)), VI (w2 - (1 : Int32)), VI w30, VI w31] [(.int w31)])) (fun _ k => XS.iload X0.here hx rfl (hb hby d18_45) rfl  k) ?_
                refine own_by (B := s₁.setTop (mkF m 48 #[VR (CA ui), VI ux, VI uy, VI uz, VI (w26 + (1 : Int32)), VI (w2 - (1 : Int32)), VI w30, VI w31] [(.int uz), (.int w31)])) (fun _ k => XS.iloadN X0.here hx rfl (hb hby d18_47) rfl  k) ?_
                by_cases hc34 : uz < w31
                · rw [if_pos hc34] at hF
                  refine own_by (B := s₁.setTop (mkF m 51 #[VR (CA ui), VI ux, VI uy, VI uz, VI (w26 + (1 : Int32)), VI (w2 - (1 : Int32)), VI w30, VI w31] [])) (fun _ k => XS.icmpNo X0.here hx rfl (hb hby d18_48) rfl (XT.ii_le_f hc34) k) ?_
                  refine own_by (B := s₁.setTop (mkF m 53 #[VR (CA ui), VI ux, VI uy, VI uz, VI (w26 + (1 : Int32)), VI (w2 - (1 : Int32)), VI w30, VI w31] [(.int w30)])) (fun _ k => XS.iload X0.here hx rfl (hb hby d18_51) rfl  k) ?_
                  refine own_by (B := s₁.setTop (mkF m 54 #[VR (CA ui), VI ux, VI uy, VI uz, VI (w26 + (1 : Int32)), VI (w2 - (1 : Int32)), VI w30, VI w31] [(.int 1), (.int w30)])) (fun _ k => XS.iconst X0.here hx rfl (hb hby d18_53) k) ?_
                  refine own_by (B := s₁.setTop (mkF m 55 #[VR (CA ui), VI ux, VI uy, VI uz, VI (w26 + (1 : Int32)), VI (w2 - (1 : Int32)), VI w30, VI w31] [(.int (w30 - (1 : Int32)))])) (fun _ k => XS.isub X0.here hx rfl (hb hby d18_54) rfl k) ?_
                  refine own_by (B := s₁.setTop (mkF m 57 #[VR (CA ui), VI ux, VI uy, VI uz, VI (w26 + (1 : Int32)), VI (w30 - (1 : Int32)), VI w30, VI w31] [])) (fun _ k => XS.istore X0.here hx rfl (hb hby d18_55) rfl (l' := #[VR (CA ui), VI ux, VI uy, VI uz, VI (w26 + (1 : Int32)), VI (w30 - (1 : Int32)), VI w30, VI w31]) rfl k) ?_
                  refine own_by (B := s₁.setTop (mkF m 63 #[VR (CA ui), VI ux, VI uy, VI uz, VI (w26 + (1 : Int32)), VI (w30 - (1 : Int32)), VI w30, VI w31] [])) (fun _ k => XS.goto X0.here hx rfl (pc0 := 57) (pc' := 63) rfl (hb hby d18_57) (by decide) (by decide) k) ?_
                  refine own_by (B := s₁.setTop (mkF m 8 #[VR (CA ui), VI ux, VI uy, VI uz, VI (w26 + (1 : Int32)), VI (w30 - (1 : Int32)), VI w30, VI w31] [])) (fun _ k => XS.goto X0.here hx rfl (pc0 := 63) (pc' := 8) rfl (hb hby d18_63) (by decide) (by decide) k) ?_
                  refine own_by (B := s₁.setTop (mkF m 10 #[VR (CA ui), VI ux, VI uy, VI uz, VI (w26 + (1 : Int32)), VI (w30 - (1 : Int32)), VI w30, VI w31] [(.int (w26 + (1 : Int32)))])) (fun _ k => XS.iload X0.here hx rfl (hb hby d18_8) rfl  k) ?_
                  refine own_by (B := s₁.setTop (mkF m 12 #[VR (CA ui), VI ux, VI uy, VI uz, VI (w26 + (1 : Int32)), VI (w30 - (1 : Int32)), VI w30, VI w31] [(.int (w30 - (1 : Int32))), (.int (w26 + (1 : Int32)))])) (fun _ k => XS.iload X0.here hx rfl (hb hby d18_10) rfl  k) ?_
                  by_cases hc35 : (w30 - (1 : Int32)) < (w26 + (1 : Int32))
                  · rw [if_pos hc35] at hF
                    refine own_by (B := s₁.setTop (mkF m 66 #[VR (CA ui), VI ux, VI uy, VI uz, VI (w26 + (1 : Int32)), VI (w30 - (1 : Int32)), VI w30, VI w31] [])) (fun _ k => XS.icmpYes X0.here hx rfl (pc0 := 12) (pc' := 66) rfl (hb hby d18_12) rfl (XT.ii_gt_t hc35) (by decide) (by decide) k) ?_
                    refine own_by (B := s₁.setTop (mkF m 68 #[VR (CA ui), VI ux, VI uy, VI uz, VI (w26 + (1 : Int32)), VI (w30 - (1 : Int32)), VI w30, VI w31] [(.int (w26 + (1 : Int32)))])) (fun _ k => XS.iload X0.here hx rfl (hb hby d18_66) rfl  k) ?_
                    refine own_by (B := s₁.setTop (mkF m 69 #[VR (CA ui), VI ux, VI uy, VI uz, VI (w26 + (1 : Int32)), VI (w30 - (1 : Int32)), VI w30, VI w31] [(.int 1), (.int (w26 + (1 : Int32)))])) (fun _ k => XS.iconst X0.here hx rfl (hb hby d18_68) k) ?_
                    refine own_by (B := s₁.setTop (mkF m 70 #[VR (CA ui), VI ux, VI uy, VI uz, VI (w26 + (1 : Int32)), VI (w30 - (1 : Int32)), VI w30, VI w31] [(.int ((w26 + (1 : Int32)) + (1 : Int32)))])) (fun _ k => XS.iadd X0.here hx rfl (hb hby d18_69) rfl k) ?_
                    refine own_by (B := s₁.setTop (mkF m 71 #[VR (CA ui), VI ux, VI uy, VI uz, VI (w26 + (1 : Int32)), VI (w30 - (1 : Int32)), VI w30, VI w31] [(.int (-((w26 + (1 : Int32)) + (1 : Int32))))])) (fun _ k => XS.ineg X0.here hx rfl (hb hby d18_70) rfl k) ?_
                    obtain rfl := Option.some.inj hF
                    exact own_retI X0 hx hrt hlk (hb hby d18_71) (by decide) (by decide) (by show own_QPr Z (((-((w26 + (1 : Int32)) + (1 : Int32))), u0)) n0 A K zr zc CA CK CL _ s₁.heap _; rw [e0]; exact ⟨rfl, N0, P0⟩)
                  · rw [if_neg hc35] at hF
                    refine own_by (B := s₁.setTop (mkF m 15 #[VR (CA ui), VI ux, VI uy, VI uz, VI (w26 + (1 : Int32)), VI (w30 - (1 : Int32)), VI w30, VI w31] [])) (fun _ k => XS.icmpNo X0.here hx rfl (hb hby d18_12) rfl (XT.ii_gt_f hc35) k) ?_
                    cases hF
                · rw [if_neg hc34] at hF
                  refine own_by (B := s₁.setTop (mkF m 60 #[VR (CA ui), VI ux, VI uy, VI uz, VI (w26 + (1 : Int32)), VI (w2 - (1 : Int32)), VI w30, VI w31] [])) (fun _ k => XS.icmpYes X0.here hx rfl (pc0 := 48) (pc' := 60) rfl (hb hby d18_48) rfl (XT.ii_le_t hc34) (by decide) (by decide) k) ?_
                  refine own_by (B := s₁.setTop (mkF m 62 #[VR (CA ui), VI ux, VI uy, VI uz, VI (w26 + (1 : Int32)), VI (w2 - (1 : Int32)), VI w30, VI w31] [(.int w30)])) (fun _ k => XS.iload X0.here hx rfl (hb hby d18_60) rfl  k) ?_
                  obtain rfl := Option.some.inj hF
                  exact own_retI X0 hx hrt hlk (hb hby d18_62) (by decide) (by decide) (by show own_QPr Z ((w30, u0)) n0 A K zr zc CA CK CL _ s₁.heap _; rw [e0]; exact ⟨rfl, N0, P0⟩)
          · rw [if_neg hc28] at hF
            refine own_by (B := s₁.setTop (mkF m 45 #[VR (CA ui), VI ux, VI uy, VI uz, VI ux, VI (w2 - (1 : Int32)), VI w26, VI w27] [])) (fun _ k => XS.icmpYes X0.here hx rfl (pc0 := 33) (pc' := 45) rfl (hb hby d18_33) rfl (XT.ii_ge_t hc28) (by decide) (by decide) k) ?_
            refine own_by (B := s₁.setTop (mkF m 47 #[VR (CA ui), VI ux, VI uy, VI uz, VI ux, VI (w2 - (1 : Int32)), VI w26, VI w27] [(.int w27)])) (fun _ k => XS.iload X0.here hx rfl (hb hby d18_45) rfl  k) ?_
            refine own_by (B := s₁.setTop (mkF m 48 #[VR (CA ui), VI ux, VI uy, VI uz, VI ux, VI (w2 - (1 : Int32)), VI w26, VI w27] [(.int uz), (.int w27)])) (fun _ k => XS.iloadN X0.here hx rfl (hb hby d18_47) rfl  k) ?_
            by_cases hc36 : uz < w27
            · rw [if_pos hc36] at hF
              refine own_by (B := s₁.setTop (mkF m 51 #[VR (CA ui), VI ux, VI uy, VI uz, VI ux, VI (w2 - (1 : Int32)), VI w26, VI w27] [])) (fun _ k => XS.icmpNo X0.here hx rfl (hb hby d18_48) rfl (XT.ii_le_f hc36) k) ?_
              refine own_by (B := s₁.setTop (mkF m 53 #[VR (CA ui), VI ux, VI uy, VI uz, VI ux, VI (w2 - (1 : Int32)), VI w26, VI w27] [(.int w26)])) (fun _ k => XS.iload X0.here hx rfl (hb hby d18_51) rfl  k) ?_
              refine own_by (B := s₁.setTop (mkF m 54 #[VR (CA ui), VI ux, VI uy, VI uz, VI ux, VI (w2 - (1 : Int32)), VI w26, VI w27] [(.int 1), (.int w26)])) (fun _ k => XS.iconst X0.here hx rfl (hb hby d18_53) k) ?_
              refine own_by (B := s₁.setTop (mkF m 55 #[VR (CA ui), VI ux, VI uy, VI uz, VI ux, VI (w2 - (1 : Int32)), VI w26, VI w27] [(.int (w26 - (1 : Int32)))])) (fun _ k => XS.isub X0.here hx rfl (hb hby d18_54) rfl k) ?_
              refine own_by (B := s₁.setTop (mkF m 57 #[VR (CA ui), VI ux, VI uy, VI uz, VI ux, VI (w26 - (1 : Int32)), VI w26, VI w27] [])) (fun _ k => XS.istore X0.here hx rfl (hb hby d18_55) rfl (l' := #[VR (CA ui), VI ux, VI uy, VI uz, VI ux, VI (w26 - (1 : Int32)), VI w26, VI w27]) rfl k) ?_
              refine own_by (B := s₁.setTop (mkF m 63 #[VR (CA ui), VI ux, VI uy, VI uz, VI ux, VI (w26 - (1 : Int32)), VI w26, VI w27] [])) (fun _ k => XS.goto X0.here hx rfl (pc0 := 57) (pc' := 63) rfl (hb hby d18_57) (by decide) (by decide) k) ?_
              refine own_by (B := s₁.setTop (mkF m 8 #[VR (CA ui), VI ux, VI uy, VI uz, VI ux, VI (w26 - (1 : Int32)), VI w26, VI w27] [])) (fun _ k => XS.goto X0.here hx rfl (pc0 := 63) (pc' := 8) rfl (hb hby d18_63) (by decide) (by decide) k) ?_
              refine own_by (B := s₁.setTop (mkF m 10 #[VR (CA ui), VI ux, VI uy, VI uz, VI ux, VI (w26 - (1 : Int32)), VI w26, VI w27] [(.int ux)])) (fun _ k => XS.iload X0.here hx rfl (hb hby d18_8) rfl  k) ?_
              refine own_by (B := s₁.setTop (mkF m 12 #[VR (CA ui), VI ux, VI uy, VI uz, VI ux, VI (w26 - (1 : Int32)), VI w26, VI w27] [(.int (w26 - (1 : Int32))), (.int ux)])) (fun _ k => XS.iload X0.here hx rfl (hb hby d18_10) rfl  k) ?_
              by_cases hc37 : (w26 - (1 : Int32)) < ux
              · rw [if_pos hc37] at hF
                refine own_by (B := s₁.setTop (mkF m 66 #[VR (CA ui), VI ux, VI uy, VI uz, VI ux, VI (w26 - (1 : Int32)), VI w26, VI w27] [])) (fun _ k => XS.icmpYes X0.here hx rfl (pc0 := 12) (pc' := 66) rfl (hb hby d18_12) rfl (XT.ii_gt_t hc37) (by decide) (by decide) k) ?_
                refine own_by (B := s₁.setTop (mkF m 68 #[VR (CA ui), VI ux, VI uy, VI uz, VI ux, VI (w26 - (1 : Int32)), VI w26, VI w27] [(.int ux)])) (fun _ k => XS.iload X0.here hx rfl (hb hby d18_66) rfl  k) ?_
                refine own_by (B := s₁.setTop (mkF m 69 #[VR (CA ui), VI ux, VI uy, VI uz, VI ux, VI (w26 - (1 : Int32)), VI w26, VI w27] [(.int 1), (.int ux)])) (fun _ k => XS.iconst X0.here hx rfl (hb hby d18_68) k) ?_
                refine own_by (B := s₁.setTop (mkF m 70 #[VR (CA ui), VI ux, VI uy, VI uz, VI ux, VI (w26 - (1 : Int32)), VI w26, VI w27] [(.int (ux + (1 : Int32)))])) (fun _ k => XS.iadd X0.here hx rfl (hb hby d18_69) rfl k) ?_
                refine own_by (B := s₁.setTop (mkF m 71 #[VR (CA ui), VI ux, VI uy, VI uz, VI ux, VI (w26 - (1 : Int32)), VI w26, VI w27] [(.int (-(ux + (1 : Int32))))])) (fun _ k => XS.ineg X0.here hx rfl (hb hby d18_70) rfl k) ?_
                obtain rfl := Option.some.inj hF
                exact own_retI X0 hx hrt hlk (hb hby d18_71) (by decide) (by decide) (by show own_QPr Z (((-(ux + (1 : Int32))), u0)) n0 A K zr zc CA CK CL _ s₁.heap _; rw [e0]; exact ⟨rfl, N0, P0⟩)
              · rw [if_neg hc37] at hF
                refine own_by (B := s₁.setTop (mkF m 15 #[VR (CA ui), VI ux, VI uy, VI uz, VI ux, VI (w26 - (1 : Int32)), VI w26, VI w27] [])) (fun _ k => XS.icmpNo X0.here hx rfl (hb hby d18_12) rfl (XT.ii_gt_f hc37) k) ?_
                refine own_by (B := s₁.setTop (mkF m 17 #[VR (CA ui), VI ux, VI uy, VI uz, VI ux, VI (w26 - (1 : Int32)), VI w26, VI w27] [(.int ux)])) (fun _ k => XS.iload X0.here hx rfl (hb hby d18_15) rfl  k) ?_
                refine own_by (B := s₁.setTop (mkF m 19 #[VR (CA ui), VI ux, VI uy, VI uz, VI ux, VI (w26 - (1 : Int32)), VI w26, VI w27] [(.int (w26 - (1 : Int32))), (.int ux)])) (fun _ k => XS.iload X0.here hx rfl (hb hby d18_17) rfl  k) ?_
                refine own_by (B := s₁.setTop (mkF m 20 #[VR (CA ui), VI ux, VI uy, VI uz, VI ux, VI (w26 - (1 : Int32)), VI w26, VI w27] [(.int (ux + (w26 - (1 : Int32))))])) (fun _ k => XS.iadd X0.here hx rfl (hb hby d18_19) rfl k) ?_
                refine own_by (B := s₁.setTop (mkF m 21 #[VR (CA ui), VI ux, VI uy, VI uz, VI ux, VI (w26 - (1 : Int32)), VI w26, VI w27] [(.int 1), (.int (ux + (w26 - (1 : Int32))))])) (fun _ k => XS.iconst X0.here hx rfl (hb hby d18_20) k) ?_
                refine own_by (B := s₁.setTop (mkF m 22 #[VR (CA ui), VI ux, VI uy, VI uz, VI ux, VI (w26 - (1 : Int32)), VI w26, VI w27] [(.int (XT.ushr (ux + (w26 - (1 : Int32))) (1 : Int32)))])) (fun _ k => XT.iushr X0.here hx rfl (hb hby d18_21) rfl k) ?_
                obtain ⟨w38, hw38, hF⟩ := own_bind hF
                rw [Option.some.inj hw38]
                refine own_by (B := s₁.setTop (mkF m 24 #[VR (CA ui), VI ux, VI uy, VI uz, VI ux, VI (w26 - (1 : Int32)), VI w38, VI w27] [])) (fun _ k => XS.istore X0.here hx rfl (hb hby d18_22) rfl (l' := #[VR (CA ui), VI ux, VI uy, VI uz, VI ux, VI (w26 - (1 : Int32)), VI w38, VI w27]) rfl k) ?_
                refine own_by (B := s₁.setTop (mkF m 25 #[VR (CA ui), VI ux, VI uy, VI uz, VI ux, VI (w26 - (1 : Int32)), VI w38, VI w27] [(.ref (CA ui))])) (fun _ k => XS.aloadN X0.here hx rfl (hb hby d18_24) rfl rfl  k) ?_
                refine own_by (B := s₁.setTop (mkF m 27 #[VR (CA ui), VI ux, VI uy, VI uz, VI ux, VI (w26 - (1 : Int32)), VI w38, VI w27] [(.int w38), (.ref (CA ui))])) (fun _ k => XS.iload X0.here hx rfl (hb hby d18_25) rfl  k) ?_
                obtain ⟨w39, hw39, hF⟩ := own_bind hF
                refine own_by (B := s₁.setTop (mkF m 28 #[VR (CA ui), VI ux, VI uy, VI uz, VI ux, VI (w26 - (1 : Int32)), VI w38, VI w27] [(.int w39)])) (own_ldI X0 hx hZ e0 ((own_PS_cc P0) _ _ hLu).1 hw39 (g := (mkF m 27 #[VR (CA ui), VI ux, VI uy, VI uz, VI ux, VI (w26 - (1 : Int32)), VI w38, VI w27] [(.int w38), (.ref (CA ui))])) rfl rfl (hb hby d18_27)) ?_
                refine own_by (B := s₁.setTop (mkF m 30 #[VR (CA ui), VI ux, VI uy, VI uz, VI ux, VI (w26 - (1 : Int32)), VI w38, VI w39] [])) (fun _ k => XS.istore X0.here hx rfl (hb hby d18_28) rfl (l' := #[VR (CA ui), VI ux, VI uy, VI uz, VI ux, VI (w26 - (1 : Int32)), VI w38, VI w39]) rfl k) ?_
                refine own_by (B := s₁.setTop (mkF m 32 #[VR (CA ui), VI ux, VI uy, VI uz, VI ux, VI (w26 - (1 : Int32)), VI w38, VI w39] [(.int w39)])) (fun _ k => XS.iload X0.here hx rfl (hb hby d18_30) rfl  k) ?_
                refine own_by (B := s₁.setTop (mkF m 33 #[VR (CA ui), VI ux, VI uy, VI uz, VI ux, VI (w26 - (1 : Int32)), VI w38, VI w39] [(.int uz), (.int w39)])) (fun _ k => XS.iloadN X0.here hx rfl (hb hby d18_32) rfl  k) ?_
                by_cases hc40 : w39 < uz
                · rw [if_pos hc40] at hF
                  refine own_by (B := s₁.setTop (mkF m 36 #[VR (CA ui), VI ux, VI uy, VI uz, VI ux, VI (w26 - (1 : Int32)), VI w38, VI w39] [])) (fun _ k => XS.icmpNo X0.here hx rfl (hb hby d18_33) rfl (XT.ii_ge_f hc40) k) ?_
                  refine own_by (B := s₁.setTop (mkF m 38 #[VR (CA ui), VI ux, VI uy, VI uz, VI ux, VI (w26 - (1 : Int32)), VI w38, VI w39] [(.int w38)])) (fun _ k => XS.iload X0.here hx rfl (hb hby d18_36) rfl  k) ?_
                  refine own_by (B := s₁.setTop (mkF m 39 #[VR (CA ui), VI ux, VI uy, VI uz, VI ux, VI (w26 - (1 : Int32)), VI w38, VI w39] [(.int 1), (.int w38)])) (fun _ k => XS.iconst X0.here hx rfl (hb hby d18_38) k) ?_
                  refine own_by (B := s₁.setTop (mkF m 40 #[VR (CA ui), VI ux, VI uy, VI uz, VI ux, VI (w26 - (1 : Int32)), VI w38, VI w39] [(.int (w38 + (1 : Int32)))])) (fun _ k => XS.iadd X0.here hx rfl (hb hby d18_39) rfl k) ?_
                  refine own_by (B := s₁.setTop (mkF m 42 #[VR (CA ui), VI ux, VI uy, VI uz, VI (w38 + (1 : Int32)), VI (w26 - (1 : Int32)), VI w38, VI w39] [])) (fun _ k => XS.istore X0.here hx rfl (hb hby d18_40) rfl (l' := #[VR (CA ui), VI ux, VI uy, VI uz, VI (w38 + (1 : Int32)), VI (w26 - (1 : Int32)), VI w38, VI w39]) rfl k) ?_
                  refine own_by (B := s₁.setTop (mkF m 63 #[VR (CA ui), VI ux, VI uy, VI uz, VI (w38 + (1 : Int32)), VI (w26 - (1 : Int32)), VI w38, VI w39] [])) (fun _ k => XS.goto X0.here hx rfl (pc0 := 42) (pc' := 63) rfl (hb hby d18_42) (by decide) (by decide) k) ?_
                  refine own_by (B := s₁.setTop (mkF m 8 #[VR (CA ui), VI ux, VI uy, VI uz, VI (w38 + (1 : Int32)), VI (w26 - (1 : Int32)), VI w38, VI w39] [])) (fun _ k => XS.goto X0.here hx rfl (pc0 := 63) (pc' := 8) rfl (hb hby d18_63) (by decide) (by decide) k) ?_
                  refine own_by (B := s₁.setTop (mkF m 10 #[VR (CA ui), VI ux, VI uy, VI uz, VI (w38 + (1 : Int32)), VI (w26 - (1 : Int32)), VI w38, VI w39] [(.int (w38 + (1 : Int32)))])) (fun _ k => XS.iload X0.here hx rfl (hb hby d18_8) rfl  k) ?_
                  refine own_by (B := s₁.setTop (mkF m 12 #[VR (CA ui), VI ux, VI uy, VI uz, VI (w38 + (1 : Int32)), VI (w26 - (1 : Int32)), VI w38, VI w39] [(.int (w26 - (1 : Int32))), (.int (w38 + (1 : Int32)))])) (fun _ k => XS.iload X0.here hx rfl (hb hby d18_10) rfl  k) ?_
                  by_cases hc41 : (w26 - (1 : Int32)) < (w38 + (1 : Int32))
                  · rw [if_pos hc41] at hF
                    refine own_by (B := s₁.setTop (mkF m 66 #[VR (CA ui), VI ux, VI uy, VI uz, VI (w38 + (1 : Int32)), VI (w26 - (1 : Int32)), VI w38, VI w39] [])) (fun _ k => XS.icmpYes X0.here hx rfl (pc0 := 12) (pc' := 66) rfl (hb hby d18_12) rfl (XT.ii_gt_t hc41) (by decide) (by decide) k) ?_
                    refine own_by (B := s₁.setTop (mkF m 68 #[VR (CA ui), VI ux, VI uy, VI uz, VI (w38 + (1 : Int32)), VI (w26 - (1 : Int32)), VI w38, VI w39] [(.int (w38 + (1 : Int32)))])) (fun _ k => XS.iload X0.here hx rfl (hb hby d18_66) rfl  k) ?_
                    refine own_by (B := s₁.setTop (mkF m 69 #[VR (CA ui), VI ux, VI uy, VI uz, VI (w38 + (1 : Int32)), VI (w26 - (1 : Int32)), VI w38, VI w39] [(.int 1), (.int (w38 + (1 : Int32)))])) (fun _ k => XS.iconst X0.here hx rfl (hb hby d18_68) k) ?_
                    refine own_by (B := s₁.setTop (mkF m 70 #[VR (CA ui), VI ux, VI uy, VI uz, VI (w38 + (1 : Int32)), VI (w26 - (1 : Int32)), VI w38, VI w39] [(.int ((w38 + (1 : Int32)) + (1 : Int32)))])) (fun _ k => XS.iadd X0.here hx rfl (hb hby d18_69) rfl k) ?_
                    refine own_by (B := s₁.setTop (mkF m 71 #[VR (CA ui), VI ux, VI uy, VI uz, VI (w38 + (1 : Int32)), VI (w26 - (1 : Int32)), VI w38, VI w39] [(.int (-((w38 + (1 : Int32)) + (1 : Int32))))])) (fun _ k => XS.ineg X0.here hx rfl (hb hby d18_70) rfl k) ?_
                    obtain rfl := Option.some.inj hF
                    exact own_retI X0 hx hrt hlk (hb hby d18_71) (by decide) (by decide) (by show own_QPr Z (((-((w38 + (1 : Int32)) + (1 : Int32))), u0)) n0 A K zr zc CA CK CL _ s₁.heap _; rw [e0]; exact ⟨rfl, N0, P0⟩)
                  · rw [if_neg hc41] at hF
                    refine own_by (B := s₁.setTop (mkF m 15 #[VR (CA ui), VI ux, VI uy, VI uz, VI (w38 + (1 : Int32)), VI (w26 - (1 : Int32)), VI w38, VI w39] [])) (fun _ k => XS.icmpNo X0.here hx rfl (hb hby d18_12) rfl (XT.ii_gt_f hc41) k) ?_
                    cases hF
                · rw [if_neg hc40] at hF
                  refine own_by (B := s₁.setTop (mkF m 45 #[VR (CA ui), VI ux, VI uy, VI uz, VI ux, VI (w26 - (1 : Int32)), VI w38, VI w39] [])) (fun _ k => XS.icmpYes X0.here hx rfl (pc0 := 33) (pc' := 45) rfl (hb hby d18_33) rfl (XT.ii_ge_t hc40) (by decide) (by decide) k) ?_
                  refine own_by (B := s₁.setTop (mkF m 47 #[VR (CA ui), VI ux, VI uy, VI uz, VI ux, VI (w26 - (1 : Int32)), VI w38, VI w39] [(.int w39)])) (fun _ k => XS.iload X0.here hx rfl (hb hby d18_45) rfl  k) ?_
                  refine own_by (B := s₁.setTop (mkF m 48 #[VR (CA ui), VI ux, VI uy, VI uz, VI ux, VI (w26 - (1 : Int32)), VI w38, VI w39] [(.int uz), (.int w39)])) (fun _ k => XS.iloadN X0.here hx rfl (hb hby d18_47) rfl  k) ?_
                  by_cases hc42 : uz < w39
                  · rw [if_pos hc42] at hF
                    refine own_by (B := s₁.setTop (mkF m 51 #[VR (CA ui), VI ux, VI uy, VI uz, VI ux, VI (w26 - (1 : Int32)), VI w38, VI w39] [])) (fun _ k => XS.icmpNo X0.here hx rfl (hb hby d18_48) rfl (XT.ii_le_f hc42) k) ?_
                    refine own_by (B := s₁.setTop (mkF m 53 #[VR (CA ui), VI ux, VI uy, VI uz, VI ux, VI (w26 - (1 : Int32)), VI w38, VI w39] [(.int w38)])) (fun _ k => XS.iload X0.here hx rfl (hb hby d18_51) rfl  k) ?_
                    refine own_by (B := s₁.setTop (mkF m 54 #[VR (CA ui), VI ux, VI uy, VI uz, VI ux, VI (w26 - (1 : Int32)), VI w38, VI w39] [(.int 1), (.int w38)])) (fun _ k => XS.iconst X0.here hx rfl (hb hby d18_53) k) ?_
                    refine own_by (B := s₁.setTop (mkF m 55 #[VR (CA ui), VI ux, VI uy, VI uz, VI ux, VI (w26 - (1 : Int32)), VI w38, VI w39] [(.int (w38 - (1 : Int32)))])) (fun _ k => XS.isub X0.here hx rfl (hb hby d18_54) rfl k) ?_
                    refine own_by (B := s₁.setTop (mkF m 57 #[VR (CA ui), VI ux, VI uy, VI uz, VI ux, VI (w38 - (1 : Int32)), VI w38, VI w39] [])) (fun _ k => XS.istore X0.here hx rfl (hb hby d18_55) rfl (l' := #[VR (CA ui), VI ux, VI uy, VI uz, VI ux, VI (w38 - (1 : Int32)), VI w38, VI w39]) rfl k) ?_
                    refine own_by (B := s₁.setTop (mkF m 63 #[VR (CA ui), VI ux, VI uy, VI uz, VI ux, VI (w38 - (1 : Int32)), VI w38, VI w39] [])) (fun _ k => XS.goto X0.here hx rfl (pc0 := 57) (pc' := 63) rfl (hb hby d18_57) (by decide) (by decide) k) ?_
                    refine own_by (B := s₁.setTop (mkF m 8 #[VR (CA ui), VI ux, VI uy, VI uz, VI ux, VI (w38 - (1 : Int32)), VI w38, VI w39] [])) (fun _ k => XS.goto X0.here hx rfl (pc0 := 63) (pc' := 8) rfl (hb hby d18_63) (by decide) (by decide) k) ?_
                    refine own_by (B := s₁.setTop (mkF m 10 #[VR (CA ui), VI ux, VI uy, VI uz, VI ux, VI (w38 - (1 : Int32)), VI w38, VI w39] [(.int ux)])) (fun _ k => XS.iload X0.here hx rfl (hb hby d18_8) rfl  k) ?_
                    refine own_by (B := s₁.setTop (mkF m 12 #[VR (CA ui), VI ux, VI uy, VI uz, VI ux, VI (w38 - (1 : Int32)), VI w38, VI w39] [(.int (w38 - (1 : Int32))), (.int ux)])) (fun _ k => XS.iload X0.here hx rfl (hb hby d18_10) rfl  k) ?_
                    by_cases hc43 : (w38 - (1 : Int32)) < ux
                    · rw [if_pos hc43] at hF
                      refine own_by (B := s₁.setTop (mkF m 66 #[VR (CA ui), VI ux, VI uy, VI uz, VI ux, VI (w38 - (1 : Int32)), VI w38, VI w39] [])) (fun _ k => XS.icmpYes X0.here hx rfl (pc0 := 12) (pc' := 66) rfl (hb hby d18_12) rfl (XT.ii_gt_t hc43) (by decide) (by decide) k) ?_
                      refine own_by (B := s₁.setTop (mkF m 68 #[VR (CA ui), VI ux, VI uy, VI uz, VI ux, VI (w38 - (1 : Int32)), VI w38, VI w39] [(.int ux)])) (fun _ k => XS.iload X0.here hx rfl (hb hby d18_66) rfl  k) ?_
                      refine own_by (B := s₁.setTop (mkF m 69 #[VR (CA ui), VI ux, VI uy, VI uz, VI ux, VI (w38 - (1 : Int32)), VI w38, VI w39] [(.int 1), (.int ux)])) (fun _ k => XS.iconst X0.here hx rfl (hb hby d18_68) k) ?_
                      refine own_by (B := s₁.setTop (mkF m 70 #[VR (CA ui), VI ux, VI uy, VI uz, VI ux, VI (w38 - (1 : Int32)), VI w38, VI w39] [(.int (ux + (1 : Int32)))])) (fun _ k => XS.iadd X0.here hx rfl (hb hby d18_69) rfl k) ?_
                      refine own_by (B := s₁.setTop (mkF m 71 #[VR (CA ui), VI ux, VI uy, VI uz, VI ux, VI (w38 - (1 : Int32)), VI w38, VI w39] [(.int (-(ux + (1 : Int32))))])) (fun _ k => XS.ineg X0.here hx rfl (hb hby d18_70) rfl k) ?_
                      obtain rfl := Option.some.inj hF
                      exact own_retI X0 hx hrt hlk (hb hby d18_71) (by decide) (by decide) (by show own_QPr Z (((-(ux + (1 : Int32))), u0)) n0 A K zr zc CA CK CL _ s₁.heap _; rw [e0]; exact ⟨rfl, N0, P0⟩)
                    · rw [if_neg hc43] at hF
                      refine own_by (B := s₁.setTop (mkF m 15 #[VR (CA ui), VI ux, VI uy, VI uz, VI ux, VI (w38 - (1 : Int32)), VI w38, VI w39] [])) (fun _ k => XS.icmpNo X0.here hx rfl (hb hby d18_12) rfl (XT.ii_gt_f hc43) k) ?_
                      cases hF
                  · rw [if_neg hc42] at hF
                    refine own_by (B := s₁.setTop (mkF m 60 #[VR (CA ui), VI ux, VI uy, VI uz, VI ux, VI (w26 - (1 : Int32)), VI w38, VI w39] [])) (fun _ k => XS.icmpYes X0.here hx rfl (pc0 := 48) (pc' := 60) rfl (hb hby d18_48) rfl (XT.ii_le_t hc42) (by decide) (by decide) k) ?_
                    refine own_by (B := s₁.setTop (mkF m 62 #[VR (CA ui), VI ux, VI uy, VI uz, VI ux, VI (w26 - (1 : Int32)), VI w38, VI w39] [(.int w38)])) (fun _ k => XS.iload X0.here hx rfl (hb hby d18_60) rfl  k) ?_
                    obtain rfl := Option.some.inj hF
                    exact own_retI X0 hx hrt hlk (hb hby d18_62) (by decide) (by decide) (by show own_QPr Z ((w38, u0)) n0 A K zr zc CA CK CL _ s₁.heap _; rw [e0]; exact ⟨rfl, N0, P0⟩)
            · rw [if_neg hc36] at hF
              refine own_by (B := s₁.setTop (mkF m 60 #[VR (CA ui), VI ux, VI uy, VI uz, VI ux, VI (w2 - (1 : Int32)), VI w26, VI w27] [])) (fun _ k => XS.icmpYes X0.here hx rfl (pc0 := 48) (pc' := 60) rfl (hb hby d18_48) rfl (XT.ii_le_t hc36) (by decide) (by decide) k) ?_
              refine own_by (B := s₁.setTop (mkF m 62 #[VR (CA ui), VI ux, VI uy, VI uz, VI ux, VI (w2 - (1 : Int32)), VI w26, VI w27] [(.int w26)])) (fun _ k => XS.iload X0.here hx rfl (hb hby d18_60) rfl  k) ?_
              obtain rfl := Option.some.inj hF
              exact own_retI X0 hx hrt hlk (hb hby d18_62) (by decide) (by decide) (by show own_QPr Z ((w26, u0)) n0 A K zr zc CA CK CL _ s₁.heap _; rw [e0]; exact ⟨rfl, N0, P0⟩)
      · rw [if_neg hc24] at hF
        refine own_by (B := s₁.setTop (mkF m 60 #[VR (CA ui), VI ux, VI uy, VI uz, VI ux, VI (uy - (1 : Int32)), VI w2, VI w3] [])) (fun _ k => XS.icmpYes X0.here hx rfl (pc0 := 48) (pc' := 60) rfl (hb hby d18_48) rfl (XT.ii_le_t hc24) (by decide) (by decide) k) ?_
        refine own_by (B := s₁.setTop (mkF m 62 #[VR (CA ui), VI ux, VI uy, VI uz, VI ux, VI (uy - (1 : Int32)), VI w2, VI w3] [(.int w2)])) (fun _ k => XS.iload X0.here hx rfl (hb hby d18_60) rfl  k) ?_
        obtain rfl := Option.some.inj hF
        exact own_retI X0 hx hrt hlk (hb hby d18_62) (by decide) (by decide) (by show own_QPr Z ((w2, u0)) n0 A K zr zc CA CK CL _ s₁.heap _; rw [e0]; exact ⟨rfl, N0, P0⟩)

def own_binarySearch4 (CL : List (List Int32)) (u0 : own_S) (Lu : List Int32) (ux uy uz : Int32) : Option (Int32 × own_S) := (own_rangeCheck CL u0 (Int32.ofNat Lu.length) ux uy).bind fun q1 => (own_binarySearch0 CL q1 Lu ux uy uz).bind fun q3 => some ((q3.1), (q3.2))

theorem d16_0 : decode jdk_65_method_58_code 0 = .ok (.aload_n 0, 1) := by decide +kernel
theorem d16_1 : decode jdk_65_method_58_code 1 = .ok (.arraylength, 1) := by decide +kernel
theorem d16_2 : decode jdk_65_method_58_code 2 = .ok (.iload_n 1, 1) := by decide +kernel
theorem d16_3 : decode jdk_65_method_58_code 3 = .ok (.iload_n 2, 1) := by decide +kernel
theorem d16_4 : decode jdk_65_method_58_code 4 = .ok (.invokestatic 13, 3) := by decide +kernel
theorem d16_7 : decode jdk_65_method_58_code 7 = .ok (.aload_n 0, 1) := by decide +kernel
theorem d16_8 : decode jdk_65_method_58_code 8 = .ok (.iload_n 1, 1) := by decide +kernel
theorem d16_9 : decode jdk_65_method_58_code 9 = .ok (.iload_n 2, 1) := by decide +kernel
theorem d16_10 : decode jdk_65_method_58_code 10 = .ok (.iload_n 3, 1) := by decide +kernel
theorem d16_11 : decode jdk_65_method_58_code 11 = .ok (.invokestatic 209, 3) := by decide +kernel
theorem d16_14 : decode jdk_65_method_58_code 14 = .ok (.ireturn, 1) := by decide +kernel
theorem pd_16__III_V : parseMethodDescriptor "(III)V" = some ⟨[.int, .int, .int], none⟩ := by decide +kernel
theorem pd_16___IIII_I : parseMethodDescriptor "([IIII)I" = some ⟨[(.array .int), .int, .int, .int], some .int⟩ := by decide +kernel
theorem pn_rm_binarySearch4 : plainFor (⟨"java/util/Arrays", "binarySearch", "([IIII)I"⟩ : MethodName) = true := by first | exact plainFor_of_name (by first | (simp [plainName, overriddenIn]; done) | decide +kernel) | exact Jvm.Free.JP.mathPlain rfl (by decide +kernel) | decide +kernel
theorem ef_rm_binarySearch4 (m : MethodId) (x0 : Nat) (x1 : Int32) (x2 : Int32) (x3 : Int32) : entryFrame m #[(.ref x0), (.int x1), (.int x2), (.int x3)] 4 = mkF m 0 #[VR x0, VI x1, VI x2, VI x3] [] := by first | (simp [entryFrame, mkF, argsToLocals, Value.category]; done) | rfl
set_option maxRecDepth 65536 in
set_option maxHeartbeats 40000000 in
theorem rm_binarySearch4 (l : Launch) (Z : State) (a0 : Array Value) (hw : ∀ d ∈ tables_1, d.before a0 Z = true) (ws : List Jvm.Cond) (A : Nat → Nat) (K : Nat → ClassId) (zr zc : Int32) (CA : Nat → Nat) (CK : Nat → ClassId) (CL : List (List Int32)) (u0 : own_S) (ru : Int32 × own_S) (ui : Nat) (Lu : List Int32) (ux uy uz : Int32) (h0 : Heap) (n0 : Nat) (Z0 : n0 ≤ h0.size) (P0 : own_PS Z h0 n0 A K zr zc CA CK CL u0) (hF : own_binarySearch4 CL u0 Lu ux uy uz = some ru) (hLu : CL[ui]? = some Lu) :
    MetFree l (⟨"java/util/Arrays", "binarySearch", "([IIII)I"⟩ : MethodName) (head1 (Jvm.Cond.code (⟨"java/util/Arrays", "binarySearch", "([IIII)I"⟩ : MethodName) jdk_65_method_58_code 4 (some .int) :: ws) ({ frames := 1, cells := 0, slots := 0, locals := 19 } : Room)) (fun a U => a = #[(.ref (CA ui)), (.int ux), (.int uy), (.int uz)] ∧ Z.Warmed39 U.vm ∧ U.heap = h0) (fun _ _ _ _ _ => True) (fun _ U o U' => ∃ v L, o = .returned v ∧ (own_QPr Z ru n0 A K zr zc CA CK CL) v U'.heap L ∧ FrameEnd U o U' L 0 0) := by
  refine MetFree.of_bodySF pn_rm_binarySearch4 hisR ?_
  intro p e s m args below meth c s₁ Bd hml0 hP hK
  obtain ⟨rfl, hZ, hh⟩ := hP
  have hx := Bd.exec
  have hby := Bd.bytes
  have hml : c.maxLocals = 4 := hml0
  have hown : s.vm.findClass "java/util/Arrays" = some m.cls := findClass_of_methodNamed Bd.named
  have hnm := (name_of_methodNamed Bd.named Bd.method).1
  have hrt := Bd.returns
  have hlk := Bd.notSynchronized
  have X0 : Stand p l e ({ frames := 1, cells := 0, slots := 0, locals := 19 } : Room) s m #[(.ref (CA ui)), (.int ux), (.int uy), (.int uz)] below meth c s₁ [] 0 0 := Stand.of_body Bd
  have e0 : s₁.heap = h0 := by rw [← hh, Bd.state]; rfl
  have N0 := Fr.nil n0
  unfold own_binarySearch4 at hF
  refine own_done (B := s₁.setTop (mkF m 0 #[VR (CA ui), VI ux, VI uy, VI uz] [])) (fun t k => castTop (ef_rm_binarySearch4 m (CA ui) ux uy uz) k) ?_
  refine own_by (B := s₁.setTop (mkF m 1 #[VR (CA ui), VI ux, VI uy, VI uz] [(.ref (CA ui))])) (fun _ k => XS.aloadN X0.here hx rfl (hb hby d16_0) rfl rfl  k) ?_
  refine own_by (B := s₁.setTop (mkF m 2 #[VR (CA ui), VI ux, VI uy, VI uz] [(.int (Int32.ofNat Lu.length))])) (own_lenI X0 hx hZ e0 ((own_PS_cc P0) _ _ hLu).1 (g := (mkF m 1 #[VR (CA ui), VI ux, VI uy, VI uz] [(.ref (CA ui))])) rfl rfl (hb hby d16_1)) ?_
  refine own_by (B := s₁.setTop (mkF m 3 #[VR (CA ui), VI ux, VI uy, VI uz] [(.int ux), (.int (Int32.ofNat Lu.length))])) (fun _ k => XS.iloadN X0.here hx rfl (hb hby d16_2) rfl  k) ?_
  refine own_by (B := s₁.setTop (mkF m 4 #[VR (CA ui), VI ux, VI uy, VI uz] [(.int uy), (.int ux), (.int (Int32.ofNat Lu.length))])) (fun _ k => XS.iloadN X0.here hx rfl (hb hby d16_3) rfl  k) ?_
  obtain ⟨q1, hq1, hF⟩ := own_bind hF
  obtain ⟨_, _, ⟨T2, L2, k2, n2⟩, -, X2, ⟨Lc2, hQ2, l2, y2, z2⟩, st2⟩ := Jvm.LawKit.callS X0 hx (y := (⟨"java/util/Arrays", "rangeCheck", "(III)V"⟩ : MethodName)) hown (mvT hZ (own_hw 97 hw rfl)) (mvT hZ (own_hw 98 hw rfl)) (mvT hZ (own_hw 47 hw rfl)) (mvT hZ (own_hw 99 hw rfl)) (by decide) (backOf (W := 0) (rm_rangeCheck l Z a0 hw [] A K zr zc CA CK CL u0 _ (Int32.ofNat Lu.length) ux uy h0 n0 (Nat.le_trans (own_PS_gn P0).1 (Nat.le_of_lt (own_PS_E P0).lt)) P0 hq1) hZ (own_hw 99 hw rfl) (own_hw 47 hw rfl) (by decide) (by decide)) (g := (mkF m 4 #[VR (CA ui), VI ux, VI uy, VI uz] [(.int uy), (.int ux), (.int (Int32.ofNat Lu.length))])) rfl (by rw [hml]; rfl) (argsL := [(.int (Int32.ofNat Lu.length)), (.int ux), (.int uy)]) (rest := []) (lenOf pd_16__III_V rfl) rfl (by show 2 * 0 + _ ≤ _; exact Nat.le_of_eq rfl) (hb hby d16_4) (fun _ _ => ⟨rfl, e0, (by decide : 0 + 0 ≤ _), (by decide : 0 + 0 ≤ _)⟩)
  dsimp only [Pt.U, Pt.locs, Pt.cells, Pt.slots] at X2 l2 y2 z2 st2 hQ2
  subst l2 y2 z2
  obtain ⟨rfl, NC2, PC2⟩ := hQ2
  refine own_by (B := T2.setTop (mkF m 7 #[VR (CA ui), VI ux, VI uy, VI uz] [])) st2 ?_
  obtain ⟨h2, e2⟩ : ∃ z, T2.heap = z := ⟨_, rfl⟩
  rw [e2] at PC2
  have N2 := Fr.app N0 NC2
  refine own_by (B := T2.setTop (mkF m 8 #[VR (CA ui), VI ux, VI uy, VI uz] [(.ref (CA ui))])) (fun _ k => XS.aloadN X2.here hx rfl (hb hby d16_7) rfl rfl  k) ?_
  refine own_by (B := T2.setTop (mkF m 9 #[VR (CA ui), VI ux, VI uy, VI uz] [(.int ux), (.ref (CA ui))])) (fun _ k => XS.iloadN X2.here hx rfl (hb hby d16_8) rfl  k) ?_
  refine own_by (B := T2.setTop (mkF m 10 #[VR (CA ui), VI ux, VI uy, VI uz] [(.int uy), (.int ux), (.ref (CA ui))])) (fun _ k => XS.iloadN X2.here hx rfl (hb hby d16_9) rfl  k) ?_
  refine own_by (B := T2.setTop (mkF m 11 #[VR (CA ui), VI ux, VI uy, VI uz] [(.int uz), (.int uy), (.int ux), (.ref (CA ui))])) (fun _ k => XS.iloadN X2.here hx rfl (hb hby d16_10) rfl  k) ?_
  obtain ⟨q3, hq3, hF⟩ := own_bind hF
  obtain ⟨_, _, ⟨T4, L4, k4, n4⟩, -, X4, ⟨Lc4, hQ4, l4, y4, z4⟩, st4⟩ := Jvm.LawKit.callS X2 hx (y := (⟨"java/util/Arrays", "binarySearch0", "([IIII)I"⟩ : MethodName)) hown (mvT hZ (own_hw 100 hw rfl)) (mvT hZ (own_hw 101 hw rfl)) (mvT hZ (own_hw 47 hw rfl)) (mvT hZ (own_hw 102 hw rfl)) (by decide) (backOf (W := 0) (rm_binarySearch0 l Z a0 hw [] A K zr zc CA CK CL q1 _ ui Lu ux uy uz h2 n0 (Nat.le_trans (own_PS_gn PC2).1 (Nat.le_of_lt (own_PS_E PC2).lt)) PC2 hq3 hLu) hZ (own_hw 102 hw rfl) (own_hw 47 hw rfl) (by decide) (by decide)) (g := (mkF m 11 #[VR (CA ui), VI ux, VI uy, VI uz] [(.int uz), (.int uy), (.int ux), (.ref (CA ui))])) rfl (by rw [hml]; rfl) (argsL := [(.ref (CA ui)), (.int ux), (.int uy), (.int uz)]) (rest := []) (lenOf pd_16___IIII_I rfl) rfl (by show 2 * 0 + _ ≤ _; exact Nat.le_of_eq rfl) (hb hby d16_11) (fun _ _ => ⟨rfl, e2, (by decide : 0 + 0 ≤ _), (by decide : 0 + 0 ≤ _)⟩)
  dsimp only [Pt.U, Pt.locs, Pt.cells, Pt.slots] at X4 l4 y4 z4 st4 hQ4
  subst l4 y4 z4
  obtain ⟨rfl, NC4, PC4⟩ := hQ4
  refine own_by (B := T4.setTop (mkF m 14 #[VR (CA ui), VI ux, VI uy, VI uz] [(.int (q3.1))])) st4 ?_
  obtain ⟨h4, e4⟩ : ∃ z, T4.heap = z := ⟨_, rfl⟩
  rw [e4] at PC4
  have N4 := Fr.app N2 NC4
  obtain rfl := Option.some.inj hF
  exact own_retI X4 hx hrt hlk (hb hby d16_14) (by decide) (by decide) (by show own_QPr Z (((q3.1), (q3.2))) n0 A K zr zc CA CK CL _ T4.heap _; rw [e4]; exact ⟨rfl, N4, PC4⟩)

def own_binarySearch2 (CL : List (List Int32)) (u0 : own_S) (Lu : List Int32) (ux : Int32) : Option (Int32 × own_S) := (own_binarySearch0 CL u0 Lu (0 : Int32) (Int32.ofNat Lu.length) ux).bind fun q1 => some ((q1.1), (q1.2))

theorem d20_0 : decode jdk_65_method_57_code 0 = .ok (.aload_n 0, 1) := by decide +kernel
theorem d20_1 : decode jdk_65_method_57_code 1 = .ok (.iconst 0, 1) := by decide +kernel
theorem d20_2 : decode jdk_65_method_57_code 2 = .ok (.aload_n 0, 1) := by decide +kernel
theorem d20_3 : decode jdk_65_method_57_code 3 = .ok (.arraylength, 1) := by decide +kernel
theorem d20_4 : decode jdk_65_method_57_code 4 = .ok (.iload_n 1, 1) := by decide +kernel
theorem d20_5 : decode jdk_65_method_57_code 5 = .ok (.invokestatic 209, 3) := by decide +kernel
theorem d20_8 : decode jdk_65_method_57_code 8 = .ok (.ireturn, 1) := by decide +kernel
theorem pd_20___IIII_I : parseMethodDescriptor "([IIII)I" = some ⟨[(.array .int), .int, .int, .int], some .int⟩ := by decide +kernel
theorem pn_rm_binarySearch2 : plainFor (⟨"java/util/Arrays", "binarySearch", "([II)I"⟩ : MethodName) = true := by first | exact plainFor_of_name (by first | (simp [plainName, overriddenIn]; done) | decide +kernel) | exact Jvm.Free.JP.mathPlain rfl (by decide +kernel) | decide +kernel
theorem ef_rm_binarySearch2 (m : MethodId) (x0 : Nat) (x1 : Int32) : entryFrame m #[(.ref x0), (.int x1)] 2 = mkF m 0 #[VR x0, VI x1] [] := by first | (simp [entryFrame, mkF, argsToLocals, Value.category]; done) | rfl
set_option maxRecDepth 65536 in
set_option maxHeartbeats 40000000 in
theorem rm_binarySearch2 (l : Launch) (Z : State) (a0 : Array Value) (hw : ∀ d ∈ tables_1, d.before a0 Z = true) (ws : List Jvm.Cond) (A : Nat → Nat) (K : Nat → ClassId) (zr zc : Int32) (CA : Nat → Nat) (CK : Nat → ClassId) (CL : List (List Int32)) (u0 : own_S) (ru : Int32 × own_S) (ui : Nat) (Lu : List Int32) (ux : Int32) (h0 : Heap) (n0 : Nat) (Z0 : n0 ≤ h0.size) (P0 : own_PS Z h0 n0 A K zr zc CA CK CL u0) (hF : own_binarySearch2 CL u0 Lu ux = some ru) (hLu : CL[ui]? = some Lu) :
    MetFree l (⟨"java/util/Arrays", "binarySearch", "([II)I"⟩ : MethodName) (head1 (Jvm.Cond.code (⟨"java/util/Arrays", "binarySearch", "([II)I"⟩ : MethodName) jdk_65_method_57_code 2 (some .int) :: ws) ({ frames := 1, cells := 0, slots := 0, locals := 19 } : Room)) (fun a U => a = #[(.ref (CA ui)), (.int ux)] ∧ Z.Warmed39 U.vm ∧ U.heap = h0) (fun _ _ _ _ _ => True) (fun _ U o U' => ∃ v L, o = .returned v ∧ (own_QPr Z ru n0 A K zr zc CA CK CL) v U'.heap L ∧ FrameEnd U o U' L 0 0) := by
  refine MetFree.of_bodySF pn_rm_binarySearch2 hisR ?_
  intro p e s m args below meth c s₁ Bd hml0 hP hK
  obtain ⟨rfl, hZ, hh⟩ := hP
  have hx := Bd.exec
  have hby := Bd.bytes
  have hml : c.maxLocals = 2 := hml0
  have hown : s.vm.findClass "java/util/Arrays" = some m.cls := findClass_of_methodNamed Bd.named
  have hnm := (name_of_methodNamed Bd.named Bd.method).1
  have hrt := Bd.returns
  have hlk := Bd.notSynchronized
  have X0 : Stand p l e ({ frames := 1, cells := 0, slots := 0, locals := 19 } : Room) s m #[(.ref (CA ui)), (.int ux)] below meth c s₁ [] 0 0 := Stand.of_body Bd
  have e0 : s₁.heap = h0 := by rw [← hh, Bd.state]; rfl
  have N0 := Fr.nil n0
  unfold own_binarySearch2 at hF
  refine own_done (B := s₁.setTop (mkF m 0 #[VR (CA ui), VI ux] [])) (fun t k => castTop (ef_rm_binarySearch2 m (CA ui) ux) k) ?_
  refine own_by (B := s₁.setTop (mkF m 1 #[VR (CA ui), VI ux] [(.ref (CA ui))])) (fun _ k => XS.aloadN X0.here hx rfl (hb hby d20_0) rfl rfl  k) ?_
  refine own_by (B := s₁.setTop (mkF m 2 #[VR (CA ui), VI ux] [(.int 0), (.ref (CA ui))])) (fun _ k => XS.iconst X0.here hx rfl (hb hby d20_1) k) ?_
  refine own_by (B := s₁.setTop (mkF m 3 #[VR (CA ui), VI ux] [(.ref (CA ui)), (.int 0), (.ref (CA ui))])) (fun _ k => XS.aloadN X0.here hx rfl (hb hby d20_2) rfl rfl  k) ?_
  refine own_by (B := s₁.setTop (mkF m 4 #[VR (CA ui), VI ux] [(.int (Int32.ofNat Lu.length)), (.int 0), (.ref (CA ui))])) (own_lenI X0 hx hZ e0 ((own_PS_cc P0) _ _ hLu).1 (g := (mkF m 3 #[VR (CA ui), VI ux] [(.ref (CA ui)), (.int 0), (.ref (CA ui))])) rfl rfl (hb hby d20_3)) ?_
  refine own_by (B := s₁.setTop (mkF m 5 #[VR (CA ui), VI ux] [(.int ux), (.int (Int32.ofNat Lu.length)), (.int 0), (.ref (CA ui))])) (fun _ k => XS.iloadN X0.here hx rfl (hb hby d20_4) rfl  k) ?_
  obtain ⟨q1, hq1, hF⟩ := own_bind hF
  obtain ⟨_, _, ⟨T2, L2, k2, n2⟩, -, X2, ⟨Lc2, hQ2, l2, y2, z2⟩, st2⟩ := Jvm.LawKit.callS X0 hx (y := (⟨"java/util/Arrays", "binarySearch0", "([IIII)I"⟩ : MethodName)) hown (mvT hZ (own_hw 100 hw rfl)) (mvT hZ (own_hw 101 hw rfl)) (mvT hZ (own_hw 47 hw rfl)) (mvT hZ (own_hw 102 hw rfl)) (by decide) (backOf (W := 0) (rm_binarySearch0 l Z a0 hw [] A K zr zc CA CK CL u0 _ ui Lu (0 : Int32) (Int32.ofNat Lu.length) ux h0 n0 (Nat.le_trans (own_PS_gn P0).1 (Nat.le_of_lt (own_PS_E P0).lt)) P0 hq1 hLu) hZ (own_hw 102 hw rfl) (own_hw 47 hw rfl) (by decide) (by decide)) (g := (mkF m 5 #[VR (CA ui), VI ux] [(.int ux), (.int (Int32.ofNat Lu.length)), (.int 0), (.ref (CA ui))])) rfl (by rw [hml]; rfl) (argsL := [(.ref (CA ui)), (.int 0), (.int (Int32.ofNat Lu.length)), (.int ux)]) (rest := []) (lenOf pd_20___IIII_I rfl) rfl (by show 2 * 0 + _ ≤ _; exact Nat.le_of_eq rfl) (hb hby d20_5) (fun _ _ => ⟨rfl, e0, (by decide : 0 + 0 ≤ _), (by decide : 0 + 0 ≤ _)⟩)
  dsimp only [Pt.U, Pt.locs, Pt.cells, Pt.slots] at X2 l2 y2 z2 st2 hQ2
  subst l2 y2 z2
  obtain ⟨rfl, NC2, PC2⟩ := hQ2
  refine own_by (B := T2.setTop (mkF m 8 #[VR (CA ui), VI ux] [(.int (q1.1))])) st2 ?_
  obtain ⟨h2, e2⟩ : ∃ z, T2.heap = z := ⟨_, rfl⟩
  rw [e2] at PC2
  have N2 := Fr.app N0 NC2
  obtain rfl := Option.some.inj hF
  exact own_retI X2 hx hrt hlk (hb hby d20_8) (by decide) (by decide) (by show own_QPr Z (((q1.1), (q1.2))) n0 A K zr zc CA CK CL _ T2.heap _; rw [e2]; exact ⟨rfl, N2, PC2⟩)

def own_leave (CL : List (List Int32)) (u0 : own_S) (ux uy : Int32) : Option own_S := (own_ld_ki u0 ux).bind fun w2 => (own_ld_ow u0 w2).bind fun w4 => if (0 : Int32) < w4 then ((own_ld_F u0 w2).bind fun i7 => ((CL[i7]? : Option (List Int32))).bind fun Lc7 => (own_geti Lc7 (w4 - (1 : Int32))).bind fun w8 => if w8 < uy then (some u0) else ((own_ld_F u0 w2).bind fun i12 => ((CL[i12]? : Option (List Int32))).bind fun Lc12 => (own_binarySearch4 CL u0 Lc12 (0 : Int32) w4 uy).bind fun q13 => (own_st_ow (q13.2) w2 (q13.1)).bind fun u15 => some u15)) else (some u0)

theorem d15_0 : decode prog_77_method_12_code 0 = .ok (.aload_n 0, 1) := by decide +kernel
theorem d15_1 : decode prog_77_method_12_code 1 = .ok (.getfield 15, 3) := by decide +kernel
theorem d15_4 : decode prog_77_method_12_code 4 = .ok (.iload_n 1, 1) := by decide +kernel
theorem d15_5 : decode prog_77_method_12_code 5 = .ok (.iaload, 1) := by decide +kernel
theorem d15_6 : decode prog_77_method_12_code 6 = .ok (.istore_n 3, 1) := by decide +kernel
theorem d15_7 : decode prog_77_method_12_code 7 = .ok (.aload_n 0, 1) := by decide +kernel
theorem d15_8 : decode prog_77_method_12_code 8 = .ok (.getfield 38, 3) := by decide +kernel
theorem d15_11 : decode prog_77_method_12_code 11 = .ok (.iload_n 3, 1) := by decide +kernel
theorem d15_12 : decode prog_77_method_12_code 12 = .ok (.iaload, 1) := by decide +kernel
theorem d15_13 : decode prog_77_method_12_code 13 = .ok (.istore 4, 2) := by decide +kernel
theorem d15_15 : decode prog_77_method_12_code 15 = .ok (.iload 4, 2) := by decide +kernel
theorem d15_17 : decode prog_77_method_12_code 17 = .ok (.ifCond .le 37, 3) := by decide +kernel
theorem d15_20 : decode prog_77_method_12_code 20 = .ok (.iload_n 2, 1) := by decide +kernel
theorem d15_21 : decode prog_77_method_12_code 21 = .ok (.aload_n 0, 1) := by decide +kernel
theorem d15_22 : decode prog_77_method_12_code 22 = .ok (.getfield 9, 3) := by decide +kernel
theorem d15_25 : decode prog_77_method_12_code 25 = .ok (.iload_n 3, 1) := by decide +kernel
theorem d15_26 : decode prog_77_method_12_code 26 = .ok (.aaload, 1) := by decide +kernel
theorem d15_27 : decode prog_77_method_12_code 27 = .ok (.iload 4, 2) := by decide +kernel
theorem d15_29 : decode prog_77_method_12_code 29 = .ok (.iconst 1, 1) := by decide +kernel
theorem d15_30 : decode prog_77_method_12_code 30 = .ok (.isub, 1) := by decide +kernel
theorem d15_31 : decode prog_77_method_12_code 31 = .ok (.iaload, 1) := by decide +kernel
theorem d15_32 : decode prog_77_method_12_code 32 = .ok (.if_icmp .gt 22, 3) := by decide +kernel
theorem d15_35 : decode prog_77_method_12_code 35 = .ok (.aload_n 0, 1) := by decide +kernel
theorem d15_36 : decode prog_77_method_12_code 36 = .ok (.getfield 38, 3) := by decide +kernel
theorem d15_39 : decode prog_77_method_12_code 39 = .ok (.iload_n 3, 1) := by decide +kernel
theorem d15_40 : decode prog_77_method_12_code 40 = .ok (.aload_n 0, 1) := by decide +kernel
theorem d15_41 : decode prog_77_method_12_code 41 = .ok (.getfield 9, 3) := by decide +kernel
theorem d15_44 : decode prog_77_method_12_code 44 = .ok (.iload_n 3, 1) := by decide +kernel
theorem d15_45 : decode prog_77_method_12_code 45 = .ok (.aaload, 1) := by decide +kernel
theorem d15_46 : decode prog_77_method_12_code 46 = .ok (.iconst 0, 1) := by decide +kernel
theorem d15_47 : decode prog_77_method_12_code 47 = .ok (.iload 4, 2) := by decide +kernel
theorem d15_49 : decode prog_77_method_12_code 49 = .ok (.iload_n 2, 1) := by decide +kernel
theorem d15_50 : decode prog_77_method_12_code 50 = .ok (.invokestatic 93, 3) := by decide +kernel
theorem d15_53 : decode prog_77_method_12_code 53 = .ok (.iastore, 1) := by decide +kernel
theorem d15_54 : decode prog_77_method_12_code 54 = .ok (.return_, 1) := by decide +kernel
theorem pd_15___IIII_I : parseMethodDescriptor "([IIII)I" = some ⟨[(.array .int), .int, .int, .int], some .int⟩ := by decide +kernel
theorem pn_rm_leave : plainFor (⟨"com/example/document_pattern_rules/documentpatternrules/pattern/Pairing", "leave", "(II)V"⟩ : MethodName) = true := by first | exact plainFor_of_name (by first | (simp [plainName, overriddenIn]; done) | decide +kernel) | exact Jvm.Free.JP.mathPlain rfl (by decide +kernel) | decide +kernel
theorem ef_rm_leave (m : MethodId) (x0 : Nat) (x1 : Int32) (x2 : Int32) : entryFrame m #[(.ref x0), (.int x1), (.int x2)] 5 = mkF m 0 #[VR x0, VI x1, VI x2, UU, UU] [] := by first | (simp [entryFrame, mkF, argsToLocals, Value.category]; done) | rfl
set_option maxRecDepth 65536 in
set_option maxHeartbeats 40000000 in
theorem rm_leave (l : Launch) (Z : State) (a0 : Array Value) (hw : ∀ d ∈ tables_1, d.before a0 Z = true) (ws : List Jvm.Cond) (A : Nat → Nat) (K : Nat → ClassId) (zr zc : Int32) (CA : Nat → Nat) (CK : Nat → ClassId) (CL : List (List Int32)) (u0 : own_S) (ru : own_S) (ux uy : Int32) (h0 : Heap) (n0 : Nat) (Z0 : n0 ≤ h0.size) (P0 : own_PS Z h0 n0 A K zr zc CA CK CL u0) (hF : own_leave CL u0 ux uy = some ru) :
    MetFree l (⟨"com/example/document_pattern_rules/documentpatternrules/pattern/Pairing", "leave", "(II)V"⟩ : MethodName) (head1 (Jvm.Cond.code (⟨"com/example/document_pattern_rules/documentpatternrules/pattern/Pairing", "leave", "(II)V"⟩ : MethodName) prog_77_method_12_code 5 none :: ws) ({ frames := 2, cells := 0, slots := 0, locals := 36 } : Room)) (fun a U => a = #[(.ref (A 0)), (.int ux), (.int uy)] ∧ Z.Warmed39 U.vm ∧ U.heap = h0) (fun _ _ _ _ _ => True) (fun _ U o U' => ∃ v L, o = .returned v ∧ (own_QPv Z ru n0 A K zr zc CA CK CL) v U'.heap L ∧ FrameEnd U o U' L 0 0) := by
  refine MetFree.of_bodySF pn_rm_leave hisR ?_
  intro p e s m args below meth c s₁ Bd hml0 hP hK
  obtain ⟨rfl, hZ, hh⟩ := hP
  have hx := Bd.exec
  have hby := Bd.bytes
  have hml : c.maxLocals = 5 := hml0
  have hown : s.vm.findClass "com/example/document_pattern_rules/documentpatternrules/pattern/Pairing" = some m.cls := findClass_of_methodNamed Bd.named
  have hnm := (name_of_methodNamed Bd.named Bd.method).1
  have hrt := Bd.returns
  have hlk := Bd.notSynchronized
  have X0 : Stand p l e ({ frames := 2, cells := 0, slots := 0, locals := 36 } : Room) s m #[(.ref (A 0)), (.int ux), (.int uy)] below meth c s₁ [] 0 0 := Stand.of_body Bd
  have e0 : s₁.heap = h0 := by rw [← hh, Bd.state]; rfl
  have N0 := Fr.nil n0
  unfold own_leave at hF
  refine own_done (B := s₁.setTop (mkF m 0 #[VR (A 0), VI ux, VI uy, UU, UU] [])) (fun t k => castTop (ef_rm_leave m (A 0) ux uy) k) ?_
  refine own_by (B := s₁.setTop (mkF m 1 #[VR (A 0), VI ux, VI uy, UU, UU] [(.ref (A 0))])) (fun _ k => XS.aloadN X0.here hx rfl (hb hby d15_0) rfl rfl  k) ?_
  obtain ⟨T1, X1, e1, st1⟩ := getF X0 hx hZ hown (host := "") (Or.inl (own_hw 21 hw rfl)) Via.refl e0 (own_PS_f2 P0) (g := (mkF m 1 #[VR (A 0), VI ux, VI uy, UU, UU] [(.ref (A 0))])) rfl rfl (hb hby d15_1)
  refine own_by (B := T1.setTop (mkF m 4 #[VR (A 0), VI ux, VI uy, UU, UU] [(.ref (A 2))])) st1 ?_
  refine own_by (B := T1.setTop (mkF m 5 #[VR (A 0), VI ux, VI uy, UU, UU] [(.int ux), (.ref (A 2))])) (fun _ k => XS.iloadN X1.here hx rfl (hb hby d15_4) rfl  k) ?_
  obtain ⟨w2, hw2, hF⟩ := own_bind hF
  refine own_by (B := T1.setTop (mkF m 6 #[VR (A 0), VI ux, VI uy, UU, UU] [(.int w2)])) (own_ldI X1 hx hZ e1 (own_PS_v2 P0) hw2 (g := (mkF m 5 #[VR (A 0), VI ux, VI uy, UU, UU] [(.int ux), (.ref (A 2))])) rfl rfl (hb hby d15_5)) ?_
  refine own_by (B := T1.setTop (mkF m 7 #[VR (A 0), VI ux, VI uy, VI w2, UU] [])) (fun _ k => XS.istoreN X1.here hx rfl (hb hby d15_6) rfl (l' := #[VR (A 0), VI ux, VI uy, VI w2, UU]) rfl k) ?_
  refine own_by (B := T1.setTop (mkF m 8 #[VR (A 0), VI ux, VI uy, VI w2, UU] [(.ref (A 0))])) (fun _ k => XS.aloadN X1.here hx rfl (hb hby d15_7) rfl rfl  k) ?_
  obtain ⟨T3, X3, e3, st3⟩ := getF X1 hx hZ hown (host := "") (Or.inl (own_hw 37 hw rfl)) Via.refl e1 (own_PS_f9 P0) (g := (mkF m 8 #[VR (A 0), VI ux, VI uy, VI w2, UU] [(.ref (A 0))])) rfl rfl (hb hby d15_8)
  refine own_by (B := T3.setTop (mkF m 11 #[VR (A 0), VI ux, VI uy, VI w2, UU] [(.ref (A 9))])) st3 ?_
  refine own_by (B := T3.setTop (mkF m 12 #[VR (A 0), VI ux, VI uy, VI w2, UU] [(.int w2), (.ref (A 9))])) (fun _ k => XS.iloadN X3.here hx rfl (hb hby d15_11) rfl  k) ?_
  obtain ⟨w4, hw4, hF⟩ := own_bind hF
  refine own_by (B := T3.setTop (mkF m 13 #[VR (A 0), VI ux, VI uy, VI w2, UU] [(.int w4)])) (own_ldI X3 hx hZ e3 (own_PS_v9 P0) hw4 (g := (mkF m 12 #[VR (A 0), VI ux, VI uy, VI w2, UU] [(.int w2), (.ref (A 9))])) rfl rfl (hb hby d15_12)) ?_
  refine own_by (B := T3.setTop (mkF m 15 #[VR (A 0), VI ux, VI uy, VI w2, VI w4] [])) (fun _ k => XS.istore X3.here hx rfl (hb hby d15_13) rfl (l' := #[VR (A 0), VI ux, VI uy, VI w2, VI w4]) rfl k) ?_
  refine own_by (B := T3.setTop (mkF m 17 #[VR (A 0), VI ux, VI uy, VI w2, VI w4] [(.int w4)])) (fun _ k => XS.iload X3.here hx rfl (hb hby d15_15) rfl  k) ?_
  by_cases hc5 : (0 : Int32) < w4
  · rw [if_pos hc5] at hF
    refine own_by (B := T3.setTop (mkF m 20 #[VR (A 0), VI ux, VI uy, VI w2, VI w4] [])) (fun _ k => XS.ifNo X3.here hx rfl (hb hby d15_17) rfl (XT.i0_le_f hc5) k) ?_
    refine own_by (B := T3.setTop (mkF m 21 #[VR (A 0), VI ux, VI uy, VI w2, VI w4] [(.int uy)])) (fun _ k => XS.iloadN X3.here hx rfl (hb hby d15_20) rfl  k) ?_
    refine own_by (B := T3.setTop (mkF m 22 #[VR (A 0), VI ux, VI uy, VI w2, VI w4] [(.ref (A 0)), (.int uy)])) (fun _ k => XS.aloadN X3.here hx rfl (hb hby d15_21) rfl rfl  k) ?_
    obtain ⟨T6, X6, e6, st6⟩ := getF X3 hx hZ hown (host := "") (Or.inl (own_hw 19 hw rfl)) Via.refl e3 (own_PS_f1 P0) (g := (mkF m 22 #[VR (A 0), VI ux, VI uy, VI w2, VI w4] [(.ref (A 0)), (.int uy)])) rfl rfl (hb hby d15_22)
    refine own_by (B := T6.setTop (mkF m 25 #[VR (A 0), VI ux, VI uy, VI w2, VI w4] [(.ref (A 1)), (.int uy)])) st6 ?_
    refine own_by (B := T6.setTop (mkF m 26 #[VR (A 0), VI ux, VI uy, VI w2, VI w4] [(.int w2), (.ref (A 1)), (.int uy)])) (fun _ k => XS.iloadN X6.here hx rfl (hb hby d15_25) rfl  k) ?_
    obtain ⟨i7, hi7, hF⟩ := own_bind hF
    obtain ⟨Lc7, hLc7, hF⟩ := own_bind hF
    refine own_by (B := T6.setTop (mkF m 27 #[VR (A 0), VI ux, VI uy, VI w2, VI w4] [(.ref (CA i7)), (.int uy)])) (own_ldF X6 hx hZ e6 (own_PS_v1 P0) hi7 (g := (mkF m 26 #[VR (A 0), VI ux, VI uy, VI w2, VI w4] [(.int w2), (.ref (A 1)), (.int uy)])) rfl rfl (hb hby d15_26)) ?_
    refine own_by (B := T6.setTop (mkF m 29 #[VR (A 0), VI ux, VI uy, VI w2, VI w4] [(.int w4), (.ref (CA i7)), (.int uy)])) (fun _ k => XS.iload X6.here hx rfl (hb hby d15_27) rfl  k) ?_
    refine own_by (B := T6.setTop (mkF m 30 #[VR (A 0), VI ux, VI uy, VI w2, VI w4] [(.int 1), (.int w4), (.ref (CA i7)), (.int uy)])) (fun _ k => XS.iconst X6.here hx rfl (hb hby d15_29) k) ?_
    refine own_by (B := T6.setTop (mkF m 31 #[VR (A 0), VI ux, VI uy, VI w2, VI w4] [(.int (w4 - (1 : Int32))), (.ref (CA i7)), (.int uy)])) (fun _ k => XS.isub X6.here hx rfl (hb hby d15_30) rfl k) ?_
    obtain ⟨w8, hw8, hF⟩ := own_bind hF
    refine own_by (B := T6.setTop (mkF m 32 #[VR (A 0), VI ux, VI uy, VI w2, VI w4] [(.int w8), (.int uy)])) (own_ldI X6 hx hZ e6 ((own_PS_cc P0) _ _ hLc7).1 hw8 (g := (mkF m 31 #[VR (A 0), VI ux, VI uy, VI w2, VI w4] [(.int (w4 - (1 : Int32))), (.ref (CA i7)), (.int uy)])) rfl rfl (hb hby d15_31)) ?_
    by_cases hc9 : w8 < uy
    · rw [if_pos hc9] at hF
      refine own_by (B := T6.setTop (mkF m 54 #[VR (A 0), VI ux, VI uy, VI w2, VI w4] [])) (fun _ k => XS.icmpYes X6.here hx rfl (pc0 := 32) (pc' := 54) rfl (hb hby d15_32) rfl (XT.ii_gt_t hc9) (by decide) (by decide) k) ?_
      obtain rfl := Option.some.inj hF
      exact own_retV X6 hx hrt hlk (hb hby d15_54) (by decide) (by decide) (by show own_QPv Z (u0) n0 A K zr zc CA CK CL _ T6.heap _; rw [e6]; exact ⟨rfl, N0, P0⟩)
    · rw [if_neg hc9] at hF
      refine own_by (B := T6.setTop (mkF m 35 #[VR (A 0), VI ux, VI uy, VI w2, VI w4] [])) (fun _ k => XS.icmpNo X6.here hx rfl (hb hby d15_32) rfl (XT.ii_gt_f hc9) k) ?_
      refine own_by (B := T6.setTop (mkF m 36 #[VR (A 0), VI ux, VI uy, VI w2, VI w4] [(.ref (A 0))])) (fun _ k => XS.aloadN X6.here hx rfl (hb hby d15_35) rfl rfl  k) ?_
      obtain ⟨T10, X10, e10, st10⟩ := getF X6 hx hZ hown (host := "") (Or.inl (own_hw 37 hw rfl)) Via.refl e6 (own_PS_f9 P0) (g := (mkF m 36 #[VR (A 0), VI ux, VI uy, VI w2, VI w4] [(.ref (A 0))])) rfl rfl (hb hby d15_36)
      refine own_by (B := T10.setTop (mkF m 39 #[VR (A 0), VI ux, VI uy, VI w2, VI w4] [(.ref (A 9))])) st10 ?_
      refine own_by (B := T10.setTop (mkF m 40 #[VR (A 0), VI ux, VI uy, VI w2, VI w4] [(.int w2), (.ref (A 9))])) (fun _ k => XS.iloadN X10.here hx rfl (hb hby d15_39) rfl  k) ?_
      refine own_by (B := T10.setTop (mkF m 41 #[VR (A 0), VI ux, VI uy, VI w2, VI w4] [(.ref (A 0)), (.int w2), (.ref (A 9))])) (fun _ k => XS.aloadN X10.here hx rfl (hb hby d15_40) rfl rfl  k) ?_
      obtain ⟨T11, X11, e11, st11⟩ := getF X10 hx hZ hown (host := "") (Or.inl (own_hw 19 hw rfl)) Via.refl e10 (own_PS_f1 P0) (g := (mkF m 41 #[VR (A 0), VI ux, VI uy, VI w2, VI w4] [(.ref (A 0)), (.int w2), (.ref (A 9))])) rfl rfl (hb hby d15_41)
      refine own_by (B := T11.setTop (mkF m 44 #[VR (A 0), VI ux, VI uy, VI w2, VI w4] [(.ref (A 1)), (.int w2), (.ref (A 9))])) st11 ?_
      refine own_by (B := T11.setTop (mkF m 45 #[VR (A 0), VI ux, VI uy, VI w2, VI w4] [(.int w2), (.ref (A 1)), (.int w2), (.ref (A 9))])) (fun _ k => XS.iloadN X11.here hx rfl (hb hby d15_44) rfl  k) ?_
      obtain ⟨i12, hi12, hF⟩ := own_bind hF
      obtain ⟨Lc12, hLc12, hF⟩ := own_bind hF
      refine own_by (B := T11.setTop (mkF m 46 #[VR (A 0), VI ux, VI uy, VI w2, VI w4] [(.ref (CA i12)), (.int w2), (.ref (A 9))])) (own_ldF X11 hx hZ e11 (own_PS_v1 P0) hi12 (g := (mkF m 45 #[VR (A 0), VI ux, VI uy, VI w2, VI w4] [(.int w2), (.ref (A 1)), (.int w2), (.ref (A 9))])) rfl rfl (hb hby d15_45)) ?_
      refine own_by (B := T11.setTop (mkF m 47 #[VR (A 0), VI ux, VI uy, VI w2, VI w4] [(.int 0), (.ref (CA i12)), (.int w2), (.ref (A 9))])) (fun _ k => XS.iconst X11.here hx rfl (hb hby d15_46) k) ?_
      refine own_by (B := T11.setTop (mkF m 49 #[VR (A 0), VI ux, VI uy, VI w2, VI w4] [(.int w4), (.int 0), (.ref (CA i12)), (.int w2), (.ref (A 9))])) (fun _ k => XS.iload X11.here hx rfl (hb hby d15_47) rfl  k) ?_
      refine own_by (B := T11.setTop (mkF m 50 #[VR (A 0), VI ux, VI uy, VI w2, VI w4] [(.int uy), (.int w4), (.int 0), (.ref (CA i12)), (.int w2), (.ref (A 9))])) (fun _ k => XS.iloadN X11.here hx rfl (hb hby d15_49) rfl  k) ?_
      obtain ⟨q13, hq13, hF⟩ := own_bind hF
      obtain ⟨_, _, ⟨T14, L14, k14, n14⟩, -, X14, ⟨Lc14, hQ14, l14, y14, z14⟩, st14⟩ := Jvm.LawKit.callS X11 hx (y := (⟨"java/util/Arrays", "binarySearch", "([IIII)I"⟩ : MethodName)) hown (mvT hZ (own_hw 94 hw rfl)) (mvT hZ (own_hw 95 hw rfl)) (mvT hZ (own_hw 47 hw rfl)) (mvT hZ (own_hw 96 hw rfl)) (by decide) (backOf (W := 2) (rm_binarySearch4 l Z a0 hw [] A K zr zc CA CK CL u0 _ i12 Lc12 (0 : Int32) w4 uy h0 n0 (Nat.le_trans (own_PS_gn P0).1 (Nat.le_of_lt (own_PS_E P0).lt)) P0 hq13 hLc12) hZ (own_hw 96 hw rfl) (own_hw 47 hw rfl) (by decide) (by decide)) (g := (mkF m 50 #[VR (A 0), VI ux, VI uy, VI w2, VI w4] [(.int uy), (.int w4), (.int 0), (.ref (CA i12)), (.int w2), (.ref (A 9))])) rfl (by rw [hml]; rfl) (argsL := [(.ref (CA i12)), (.int 0), (.int w4), (.int uy)]) (rest := [(.int w2), (.ref (A 9))]) (lenOf pd_15___IIII_I rfl) rfl (by show 2 * 0 + _ ≤ _; exact Nat.le_of_eq rfl) (hb hby d15_50) (fun _ _ => ⟨rfl, e11, (by decide : 0 + 0 ≤ _), (by decide : 0 + 0 ≤ _)⟩)
      dsimp only [Pt.U, Pt.locs, Pt.cells, Pt.slots] at X14 l14 y14 z14 st14 hQ14
      subst l14 y14 z14
      obtain ⟨rfl, NC14, PC14⟩ := hQ14
      refine own_by (B := T14.setTop (mkF m 53 #[VR (A 0), VI ux, VI uy, VI w2, VI w4] [(.int (q13.1)), (.int w2), (.ref (A 9))])) st14 ?_
      obtain ⟨h14, e14⟩ : ∃ z, T14.heap = z := ⟨_, rfl⟩
      rw [e14] at PC14
      have N14 := Fr.app N0 NC14
      obtain ⟨u15, hu15, hF⟩ := own_bind hF
      obtain ⟨zl15, hz15, hu15'⟩ := Option.map_eq_some_iff.mp hu15
      obtain ⟨T15, h15, X15, e15, W15, V15, st15⟩ := own_stI X14 hx hZ e14 (own_PS_v9 PC14) hz15 (g := (mkF m 53 #[VR (A 0), VI ux, VI uy, VI w2, VI w4] [(.int (q13.1)), (.int w2), (.ref (A 9))])) rfl rfl (hb hby d15_53)
      have P15 : own_PS Z h15 n0 A K zr zc CA CK CL u15 := hu15' ▸ own_w_ow PC14 W15 V15
      have N15 := Fr.snoc X15 N14 (own_PS_gn PC14).2.2.2.2.2.2.2.2.2.1
      refine own_by (B := T15.setTop (mkF m 54 #[VR (A 0), VI ux, VI uy, VI w2, VI w4] [])) st15 ?_
      obtain rfl := Option.some.inj hF
      exact own_retV X15 hx hrt hlk (hb hby d15_54) (by decide) (by decide) (by show own_QPv Z (u15) n0 A K zr zc CA CK CL _ T15.heap _; rw [e15]; exact ⟨rfl, N15, P15⟩)
  · rw [if_neg hc5] at hF
    refine own_by (B := T3.setTop (mkF m 54 #[VR (A 0), VI ux, VI uy, VI w2, VI w4] [])) (fun _ k => XS.ifYes X3.here hx rfl (pc0 := 17) (pc' := 54) rfl (hb hby d15_17) rfl (XT.i0_le_t hc5) (by decide) (by decide) k) ?_
    obtain rfl := Option.some.inj hF
    exact own_retV X3 hx hrt hlk (hb hby d15_54) (by decide) (by decide) (by show own_QPv Z (u0) n0 A K zr zc CA CK CL _ T3.heap _; rw [e3]; exact ⟨rfl, N0, P0⟩)

def own_hold (CL : List (List Int32)) (u0 : own_S) (ux uy : Int32) : Option own_S := (own_ld_ho u0 uy).bind fun w2 => if w2 = (-1 : Int32) then ((own_st_ho u0 uy ux).bind fun u5 => (own_st_pa u5 ux uy).bind fun u7 => some u7) else ((own_ld_ho u0 uy).bind fun w9 => (own_leave CL u0 w9 uy).bind fun q10 => (own_st_ho q10 uy ux).bind fun u13 => (own_st_pa u13 ux uy).bind fun u15 => some u15)

theorem d11_0 : decode prog_77_method_11_code 0 = .ok (.aload_n 0, 1) := by decide +kernel
theorem d11_1 : decode prog_77_method_11_code 1 = .ok (.getfield 21, 3) := by decide +kernel
theorem d11_4 : decode prog_77_method_11_code 4 = .ok (.iload_n 2, 1) := by decide +kernel
theorem d11_5 : decode prog_77_method_11_code 5 = .ok (.iaload, 1) := by decide +kernel
theorem d11_6 : decode prog_77_method_11_code 6 = .ok (.iconst (-1), 1) := by decide +kernel
theorem d11_7 : decode prog_77_method_11_code 7 = .ok (.if_icmp .eq 14, 3) := by decide +kernel
theorem d11_10 : decode prog_77_method_11_code 10 = .ok (.aload_n 0, 1) := by decide +kernel
theorem d11_11 : decode prog_77_method_11_code 11 = .ok (.aload_n 0, 1) := by decide +kernel
theorem d11_12 : decode prog_77_method_11_code 12 = .ok (.getfield 21, 3) := by decide +kernel
theorem d11_15 : decode prog_77_method_11_code 15 = .ok (.iload_n 2, 1) := by decide +kernel
theorem d11_16 : decode prog_77_method_11_code 16 = .ok (.iaload, 1) := by decide +kernel
theorem d11_17 : decode prog_77_method_11_code 17 = .ok (.iload_n 2, 1) := by decide +kernel
theorem d11_18 : decode prog_77_method_11_code 18 = .ok (.invokevirtual 60, 3) := by decide +kernel
theorem d11_21 : decode prog_77_method_11_code 21 = .ok (.aload_n 0, 1) := by decide +kernel
theorem d11_22 : decode prog_77_method_11_code 22 = .ok (.getfield 21, 3) := by decide +kernel
theorem d11_25 : decode prog_77_method_11_code 25 = .ok (.iload_n 2, 1) := by decide +kernel
theorem d11_26 : decode prog_77_method_11_code 26 = .ok (.iload_n 1, 1) := by decide +kernel
theorem d11_27 : decode prog_77_method_11_code 27 = .ok (.iastore, 1) := by decide +kernel
theorem d11_28 : decode prog_77_method_11_code 28 = .ok (.aload_n 0, 1) := by decide +kernel
theorem d11_29 : decode prog_77_method_11_code 29 = .ok (.getfield 18, 3) := by decide +kernel
theorem d11_32 : decode prog_77_method_11_code 32 = .ok (.iload_n 1, 1) := by decide +kernel
theorem d11_33 : decode prog_77_method_11_code 33 = .ok (.iload_n 2, 1) := by decide +kernel
theorem d11_34 : decode prog_77_method_11_code 34 = .ok (.iastore, 1) := by decide +kernel
theorem d11_35 : decode prog_77_method_11_code 35 = .ok (.return_, 1) := by decide +kernel
theorem pd_11__II_V : parseMethodDescriptor "(II)V" = some ⟨[.int, .int], none⟩ := by decide +kernel
theorem pn_rm_hold : plainFor (⟨"com/example/document_pattern_rules/documentpatternrules/pattern/Pairing", "hold", "(II)V"⟩ : MethodName) = true := by first | exact plainFor_of_name (by first | (simp [plainName, overriddenIn]; done) | decide +kernel) | exact Jvm.Free.JP.mathPlain rfl (by decide +kernel) | decide +kernel
theorem ef_rm_hold (m : MethodId) (x0 : Nat) (x1 : Int32) (x2 : Int32) : entryFrame m #[(.ref x0), (.int x1), (.int x2)] 3 = mkF m 0 #[VR x0, VI x1, VI x2] [] := by first | (simp [entryFrame, mkF, argsToLocals, Value.category]; done) | rfl
set_option maxRecDepth 65536 in
set_option maxHeartbeats 40000000 in
theorem rm_hold (l : Launch) (Z : State) (a0 : Array Value) (hw : ∀ d ∈ tables_1, d.before a0 Z = true) (ws : List Jvm.Cond) (A : Nat → Nat) (K : Nat → ClassId) (zr zc : Int32) (CA : Nat → Nat) (CK : Nat → ClassId) (CL : List (List Int32)) (u0 : own_S) (ru : own_S) (ux uy : Int32) (h0 : Heap) (n0 : Nat) (Z0 : n0 ≤ h0.size) (P0 : own_PS Z h0 n0 A K zr zc CA CK CL u0) (hF : own_hold CL u0 ux uy = some ru) :
    MetFree l (⟨"com/example/document_pattern_rules/documentpatternrules/pattern/Pairing", "hold", "(II)V"⟩ : MethodName) (head1 (Jvm.Cond.code (⟨"com/example/document_pattern_rules/documentpatternrules/pattern/Pairing", "hold", "(II)V"⟩ : MethodName) prog_77_method_11_code 3 none :: ws) ({ frames := 3, cells := 0, slots := 0, locals := 52 } : Room)) (fun a U => a = #[(.ref (A 0)), (.int ux), (.int uy)] ∧ Z.Warmed39 U.vm ∧ U.heap = h0) (fun _ _ _ _ _ => True) (fun _ U o U' => ∃ v L, o = .returned v ∧ (own_QPv Z ru n0 A K zr zc CA CK CL) v U'.heap L ∧ FrameEnd U o U' L 0 0) := by
  refine MetFree.of_bodySF pn_rm_hold hisR ?_
  intro p e s m args below meth c s₁ Bd hml0 hP hK
  obtain ⟨rfl, hZ, hh⟩ := hP
  have hx := Bd.exec
  have hby := Bd.bytes
  have hml : c.maxLocals = 3 := hml0
  have hown : s.vm.findClass "com/example/document_pattern_rules/documentpatternrules/pattern/Pairing" = some m.cls := findClass_of_methodNamed Bd.named
  have hnm := (name_of_methodNamed Bd.named Bd.method).1
  have hrt := Bd.returns
  have hlk := Bd.notSynchronized
  have X0 : Stand p l e ({ frames := 3, cells := 0, slots := 0, locals := 52 } : Room) s m #[(.ref (A 0)), (.int ux), (.int uy)] below meth c s₁ [] 0 0 := Stand.of_body Bd
  have e0 : s₁.heap = h0 := by rw [← hh, Bd.state]; rfl
  have N0 := Fr.nil n0
  unfold own_hold at hF
  refine own_done (B := s₁.setTop (mkF m 0 #[VR (A 0), VI ux, VI uy] [])) (fun t k => castTop (ef_rm_hold m (A 0) ux uy) k) ?_
  refine own_by (B := s₁.setTop (mkF m 1 #[VR (A 0), VI ux, VI uy] [(.ref (A 0))])) (fun _ k => XS.aloadN X0.here hx rfl (hb hby d11_0) rfl rfl  k) ?_
  obtain ⟨T1, X1, e1, st1⟩ := getF X0 hx hZ hown (host := "") (Or.inl (own_hw 25 hw rfl)) Via.refl e0 (own_PS_f4 P0) (g := (mkF m 1 #[VR (A 0), VI ux, VI uy] [(.ref (A 0))])) rfl rfl (hb hby d11_1)
  refine own_by (B := T1.setTop (mkF m 4 #[VR (A 0), VI ux, VI uy] [(.ref (A 4))])) st1 ?_
  refine own_by (B := T1.setTop (mkF m 5 #[VR (A 0), VI ux, VI uy] [(.int uy), (.ref (A 4))])) (fun _ k => XS.iloadN X1.here hx rfl (hb hby d11_4) rfl  k) ?_
  obtain ⟨w2, hw2, hF⟩ := own_bind hF
  refine own_by (B := T1.setTop (mkF m 6 #[VR (A 0), VI ux, VI uy] [(.int w2)])) (own_ldI X1 hx hZ e1 (own_PS_v4 P0) hw2 (g := (mkF m 5 #[VR (A 0), VI ux, VI uy] [(.int uy), (.ref (A 4))])) rfl rfl (hb hby d11_5)) ?_
  refine own_by (B := T1.setTop (mkF m 7 #[VR (A 0), VI ux, VI uy] [(.int (-1 : Int32)), (.int w2)])) (fun _ k => XS.iconst X1.here hx rfl (hb hby d11_6) k) ?_
  by_cases hc3 : w2 = (-1 : Int32)
  · rw [if_pos hc3] at hF
    refine own_by (B := T1.setTop (mkF m 21 #[VR (A 0), VI ux, VI uy] [])) (fun _ k => XS.icmpYes X1.here hx rfl (pc0 := 7) (pc' := 21) rfl (hb hby d11_7) rfl (XT.ii_eq_t hc3) (by decide) (by decide) k) ?_
    refine own_by (B := T1.setTop (mkF m 22 #[VR (A 0), VI ux, VI uy] [(.ref (A 0))])) (fun _ k => XS.aloadN X1.here hx rfl (hb hby d11_21) rfl rfl  k) ?_
    obtain ⟨T4, X4, e4, st4⟩ := getF X1 hx hZ hown (host := "") (Or.inl (own_hw 25 hw rfl)) Via.refl e1 (own_PS_f4 P0) (g := (mkF m 22 #[VR (A 0), VI ux, VI uy] [(.ref (A 0))])) rfl rfl (hb hby d11_22)
    refine own_by (B := T4.setTop (mkF m 25 #[VR (A 0), VI ux, VI uy] [(.ref (A 4))])) st4 ?_
    refine own_by (B := T4.setTop (mkF m 26 #[VR (A 0), VI ux, VI uy] [(.int uy), (.ref (A 4))])) (fun _ k => XS.iloadN X4.here hx rfl (hb hby d11_25) rfl  k) ?_
    refine own_by (B := T4.setTop (mkF m 27 #[VR (A 0), VI ux, VI uy] [(.int ux), (.int uy), (.ref (A 4))])) (fun _ k => XS.iloadN X4.here hx rfl (hb hby d11_26) rfl  k) ?_
    obtain ⟨u5, hu5, hF⟩ := own_bind hF
    obtain ⟨zl5, hz5, hu5'⟩ := Option.map_eq_some_iff.mp hu5
    obtain ⟨T5, h5, X5, e5, W5, V5, st5⟩ := own_stI X4 hx hZ e4 (own_PS_v4 P0) hz5 (g := (mkF m 27 #[VR (A 0), VI ux, VI uy] [(.int ux), (.int uy), (.ref (A 4))])) rfl rfl (hb hby d11_27)
    have P5 : own_PS Z h5 n0 A K zr zc CA CK CL u5 := hu5' ▸ own_w_ho P0 W5 V5
    have N5 := Fr.snoc X5 N0 (own_PS_gn P0).2.2.2.2.1
    refine own_by (B := T5.setTop (mkF m 28 #[VR (A 0), VI ux, VI uy] [])) st5 ?_
    refine own_by (B := T5.setTop (mkF m 29 #[VR (A 0), VI ux, VI uy] [(.ref (A 0))])) (fun _ k => XS.aloadN X5.here hx rfl (hb hby d11_28) rfl rfl  k) ?_
    obtain ⟨T6, X6, e6, st6⟩ := getF X5 hx hZ hown (host := "") (Or.inl (own_hw 23 hw rfl)) Via.refl e5 (own_PS_f3 P5) (g := (mkF m 29 #[VR (A 0), VI ux, VI uy] [(.ref (A 0))])) rfl rfl (hb hby d11_29)
    refine own_by (B := T6.setTop (mkF m 32 #[VR (A 0), VI ux, VI uy] [(.ref (A 3))])) st6 ?_
    refine own_by (B := T6.setTop (mkF m 33 #[VR (A 0), VI ux, VI uy] [(.int ux), (.ref (A 3))])) (fun _ k => XS.iloadN X6.here hx rfl (hb hby d11_32) rfl  k) ?_
    refine own_by (B := T6.setTop (mkF m 34 #[VR (A 0), VI ux, VI uy] [(.int uy), (.int ux), (.ref (A 3))])) (fun _ k => XS.iloadN X6.here hx rfl (hb hby d11_33) rfl  k) ?_
    obtain ⟨u7, hu7, hF⟩ := own_bind hF
    obtain ⟨zl7, hz7, hu7'⟩ := Option.map_eq_some_iff.mp hu7
    obtain ⟨T7, h7, X7, e7, W7, V7, st7⟩ := own_stI X6 hx hZ e6 (own_PS_v3 P5) hz7 (g := (mkF m 34 #[VR (A 0), VI ux, VI uy] [(.int uy), (.int ux), (.ref (A 3))])) rfl rfl (hb hby d11_34)
    have P7 : own_PS Z h7 n0 A K zr zc CA CK CL u7 := hu7' ▸ own_w_pa P5 W7 V7
    have N7 := Fr.snoc X7 N5 (own_PS_gn P5).2.2.2.1
    refine own_by (B := T7.setTop (mkF m 35 #[VR (A 0), VI ux, VI uy] [])) st7 ?_
    obtain rfl := Option.some.inj hF
    exact own_retV X7 hx hrt hlk (hb hby d11_35) (by decide) (by decide) (by show own_QPv Z (u7) n0 A K zr zc CA CK CL _ T7.heap _; rw [e7]; exact ⟨rfl, N7, P7⟩)
  · rw [if_neg hc3] at hF
    refine own_by (B := T1.setTop (mkF m 10 #[VR (A 0), VI ux, VI uy] [])) (fun _ k => XS.icmpNo X1.here hx rfl (hb hby d11_7) rfl (XT.ii_eq_f hc3) k) ?_
    refine own_by (B := T1.setTop (mkF m 11 #[VR (A 0), VI ux, VI uy] [(.ref (A 0))])) (fun _ k => XS.aloadN X1.here hx rfl (hb hby d11_10) rfl rfl  k) ?_
    refine own_by (B := T1.setTop (mkF m 12 #[VR (A 0), VI ux, VI uy] [(.ref (A 0)), (.ref (A 0))])) (fun _ k => XS.aloadN X1.here hx rfl (hb hby d11_11) rfl rfl  k) ?_
    obtain ⟨T8, X8, e8, st8⟩ := getF X1 hx hZ hown (host := "") (Or.inl (own_hw 25 hw rfl)) Via.refl e1 (own_PS_f4 P0) (g := (mkF m 12 #[VR (A 0), VI ux, VI uy] [(.ref (A 0)), (.ref (A 0))])) rfl rfl (hb hby d11_12)
    refine own_by (B := T8.setTop (mkF m 15 #[VR (A 0), VI ux, VI uy] [(.ref (A 4)), (.ref (A 0))])) st8 ?_
    refine own_by (B := T8.setTop (mkF m 16 #[VR (A 0), VI ux, VI uy] [(.int uy), (.ref (A 4)), (.ref (A 0))])) (fun _ k => XS.iloadN X8.here hx rfl (hb hby d11_15) rfl  k) ?_
    obtain ⟨w9, hw9, hF⟩ := own_bind hF
    refine own_by (B := T8.setTop (mkF m 17 #[VR (A 0), VI ux, VI uy] [(.int w9), (.ref (A 0))])) (own_ldI X8 hx hZ e8 (own_PS_v4 P0) hw9 (g := (mkF m 16 #[VR (A 0), VI ux, VI uy] [(.int uy), (.ref (A 4)), (.ref (A 0))])) rfl rfl (hb hby d11_16)) ?_
    refine own_by (B := T8.setTop (mkF m 18 #[VR (A 0), VI ux, VI uy] [(.int uy), (.int w9), (.ref (A 0))])) (fun _ k => XS.iloadN X8.here hx rfl (hb hby d11_17) rfl  k) ?_
    obtain ⟨q10, hq10, hF⟩ := own_bind hF
    obtain ⟨cq11, qa11, qc11⟩ := Exa.cell (own_PS_E P0)
    obtain ⟨_, _, ⟨T11, L11, k11, n11⟩, -, X11, ⟨Lc11, hQ11, l11, y11, z11⟩, st11⟩ := X8.privateBack hx (y := (⟨"com/example/document_pattern_rules/documentpatternrules/pattern/Pairing", "leave", "(II)V"⟩ : MethodName)) hown (mvT hZ (own_hw 90 hw rfl)) (mvT hZ (own_hw 91 hw rfl)) (mvT hZ (own_selpriv (y := (⟨"com/example/document_pattern_rules/documentpatternrules/pattern/Pairing", "leave", "(II)V"⟩ : MethodName)) (own_hw 9 hw rfl) (own_hw 92 hw rfl) (own_hw 91 hw rfl) (by decide))) (Cond.privateMethod_at (mvP hZ (own_hw 92 hw rfl) (args := #[]))) (mvT hZ (own_hw 93 hw rfl)) (by decide) (backOf (W := 0) (rm_leave l Z a0 hw [] A K zr zc CA CK CL u0 _ w9 uy h0 n0 (Nat.le_trans (own_PS_gn P0).1 (Nat.le_of_lt (own_PS_E P0).lt)) P0 hq10) hZ (own_hw 93 hw rfl) (own_hw 10 hw rfl) (by decide) (by decide)) (g := (mkF m 18 #[VR (A 0), VI ux, VI uy] [(.int uy), (.int w9), (.ref (A 0))])) rfl (by rw [hml]; rfl) (Steps.refl _) (a := (A 0)) (by rw [e8]; exact qa11) qc11 (argsL := [(.int w9), (.int uy)]) (rest := []) (lenOf pd_11__II_V rfl) rfl (by show 2 * 0 + _ ≤ _; exact Nat.le_of_eq rfl) (hb hby d11_18) (fun _ _ => ⟨rfl, e8, (by decide : 0 + 0 ≤ _), (by decide : 0 + 0 ≤ _)⟩)
    dsimp only [Pt.U, Pt.locs, Pt.cells, Pt.slots] at X11 l11 y11 z11 st11 hQ11
    subst l11 y11 z11
    obtain ⟨rfl, NC11, PC11⟩ := hQ11
    refine own_by (B := T11.setTop (mkF m 21 #[VR (A 0), VI ux, VI uy] [])) (fun _ k => st11.trans k) ?_
    obtain ⟨h11, e11⟩ : ∃ z, T11.heap = z := ⟨_, rfl⟩
    rw [e11] at PC11
    have N11 := Fr.app N0 NC11
    refine own_by (B := T11.setTop (mkF m 22 #[VR (A 0), VI ux, VI uy] [(.ref (A 0))])) (fun _ k => XS.aloadN X11.here hx rfl (hb hby d11_21) rfl rfl  k) ?_
    obtain ⟨T12, X12, e12, st12⟩ := getF X11 hx hZ hown (host := "") (Or.inl (own_hw 25 hw rfl)) Via.refl e11 (own_PS_f4 PC11) (g := (mkF m 22 #[VR (A 0), VI ux, VI uy] [(.ref (A 0))])) rfl rfl (hb hby d11_22)
    refine own_by (B := T12.setTop (mkF m 25 #[VR (A 0), VI ux, VI uy] [(.ref (A 4))])) st12 ?_
    refine own_by (B := T12.setTop (mkF m 26 #[VR (A 0), VI ux, VI uy] [(.int uy), (.ref (A 4))])) (fun _ k => XS.iloadN X12.here hx rfl (hb hby d11_25) rfl  k) ?_
    refine own_by (B := T12.setTop (mkF m 27 #[VR (A 0), VI ux, VI uy] [(.int ux), (.int uy), (.ref (A 4))])) (fun _ k => XS.iloadN X12.here hx rfl (hb hby d11_26) rfl  k) ?_
    obtain ⟨u13, hu13, hF⟩ := own_bind hF
    obtain ⟨zl13, hz13, hu13'⟩ := Option.map_eq_some_iff.mp hu13
    obtain ⟨T13, h13, X13, e13, W13, V13, st13⟩ := own_stI X12 hx hZ e12 (own_PS_v4 PC11) hz13 (g := (mkF m 27 #[VR (A 0), VI ux, VI uy] [(.int ux), (.int uy), (.ref (A 4))])) rfl rfl (hb hby d11_27)
    have P13 : own_PS Z h13 n0 A K zr zc CA CK CL u13 := hu13' ▸ own_w_ho PC11 W13 V13
    have N13 := Fr.snoc X13 N11 (own_PS_gn PC11).2.2.2.2.1
    refine own_by (B := T13.setTop (mkF m 28 #[VR (A 0), VI ux, VI uy] [])) st13 ?_
    refine own_by (B := T13.setTop (mkF m 29 #[VR (A 0), VI ux, VI uy] [(.ref (A 0))])) (fun _ k => XS.aloadN X13.here hx rfl (hb hby d11_28) rfl rfl  k) ?_
    obtain ⟨T14, X14, e14, st14⟩ := getF X13 hx hZ hown (host := "") (Or.inl (own_hw 23 hw rfl)) Via.refl e13 (own_PS_f3 P13) (g := (mkF m 29 #[VR (A 0), VI ux, VI uy] [(.ref (A 0))])) rfl rfl (hb hby d11_29)
    refine own_by (B := T14.setTop (mkF m 32 #[VR (A 0), VI ux, VI uy] [(.ref (A 3))])) st14 ?_
    refine own_by (B := T14.setTop (mkF m 33 #[VR (A 0), VI ux, VI uy] [(.int ux), (.ref (A 3))])) (fun _ k => XS.iloadN X14.here hx rfl (hb hby d11_32) rfl  k) ?_
    refine own_by (B := T14.setTop (mkF m 34 #[VR (A 0), VI ux, VI uy] [(.int uy), (.int ux), (.ref (A 3))])) (fun _ k => XS.iloadN X14.here hx rfl (hb hby d11_33) rfl  k) ?_
    obtain ⟨u15, hu15, hF⟩ := own_bind hF
    obtain ⟨zl15, hz15, hu15'⟩ := Option.map_eq_some_iff.mp hu15
    obtain ⟨T15, h15, X15, e15, W15, V15, st15⟩ := own_stI X14 hx hZ e14 (own_PS_v3 P13) hz15 (g := (mkF m 34 #[VR (A 0), VI ux, VI uy] [(.int uy), (.int ux), (.ref (A 3))])) rfl rfl (hb hby d11_34)
    have P15 : own_PS Z h15 n0 A K zr zc CA CK CL u15 := hu15' ▸ own_w_pa P13 W15 V15
    have N15 := Fr.snoc X15 N13 (own_PS_gn P13).2.2.2.1
    refine own_by (B := T15.setTop (mkF m 35 #[VR (A 0), VI ux, VI uy] [])) st15 ?_
    obtain rfl := Option.some.inj hF
    exact own_retV X15 hx hrt hlk (hb hby d11_35) (by decide) (by decide) (by show own_QPv Z (u15) n0 A K zr zc CA CK CL _ T15.heap _; rw [e15]; exact ⟨rfl, N15, P15⟩)

def own_nextColumn_L28 (CL : List (List Int32)) : Nat → Int32 → List Int32 → Int32 → own_S → Option (Int32 × own_S)
  | 0, _, _, _, _ => none
  | fuel + 1, ux, Lc8, v3, uh11 => if v3 < (Int32.ofNat Lc8.length) then ((own_geti Lc8 v3).bind fun w14 => (own_ld_ho uh11 w14).bind fun w15 => if w15 = (-1 : Int32) then (some (v3, uh11)) else ((own_geti Lc8 v3).bind fun w19 => (own_ld_ho uh11 w19).bind fun w20 => (own_ld_ki uh11 w20).bind fun w21 => if w21 = ux then (own_nextColumn_L28 CL fuel ux Lc8 (v3 + (1 : Int32)) uh11) else (some (v3, uh11)))) else (some (v3, uh11))
def own_nextColumn (CL : List (List Int32)) (u0 : own_S) (ux : Int32) : Option (Int32 × own_S) := (own_ld_sc u0 ux).bind fun w2 => if w2 = (own_se u0) then ((own_ld_nx u0 ux).bind fun w6 => some (w6, u0)) else ((own_ld_F u0 ux).bind fun i8 => ((CL[i8]? : Option (List Int32))).bind fun Lc8 => (own_ld_ow u0 ux).bind fun w10 => (own_nextColumn_L28 CL 6 ux Lc8 w10 u0).bind fun q23 => (own_st_ow (q23.2) ux (q23.1)).bind fun u26 => (own_st_sc u26 ux (own_se u26)).bind fun u29 => (own_st_nx u29 ux (q23.1)).bind fun u31 => (own_ld_nx u31 ux).bind fun w33 => some (w33, u31))

theorem d9_0 : decode prog_77_method_10_code 0 = .ok (.aload_n 0, 1) := by decide +kernel
theorem d9_1 : decode prog_77_method_10_code 1 = .ok (.getfield 41, 3) := by decide +kernel
theorem d9_4 : decode prog_77_method_10_code 4 = .ok (.iload_n 1, 1) := by decide +kernel
theorem d9_5 : decode prog_77_method_10_code 5 = .ok (.laload, 1) := by decide +kernel
theorem d9_6 : decode prog_77_method_10_code 6 = .ok (.aload_n 0, 1) := by decide +kernel
theorem d9_7 : decode prog_77_method_10_code 7 = .ok (.getfield 64, 3) := by decide +kernel
theorem d9_10 : decode prog_77_method_10_code 10 = .ok (.lcmp, 1) := by decide +kernel
theorem d9_11 : decode prog_77_method_10_code 11 = .ok (.ifCond .eq 82, 3) := by decide +kernel
theorem d9_14 : decode prog_77_method_10_code 14 = .ok (.aload_n 0, 1) := by decide +kernel
theorem d9_15 : decode prog_77_method_10_code 15 = .ok (.getfield 9, 3) := by decide +kernel
theorem d9_18 : decode prog_77_method_10_code 18 = .ok (.iload_n 1, 1) := by decide +kernel
theorem d9_19 : decode prog_77_method_10_code 19 = .ok (.aaload, 1) := by decide +kernel
theorem d9_20 : decode prog_77_method_10_code 20 = .ok (.astore_n 2, 1) := by decide +kernel
theorem d9_21 : decode prog_77_method_10_code 21 = .ok (.aload_n 0, 1) := by decide +kernel
theorem d9_22 : decode prog_77_method_10_code 22 = .ok (.getfield 38, 3) := by decide +kernel
theorem d9_25 : decode prog_77_method_10_code 25 = .ok (.iload_n 1, 1) := by decide +kernel
theorem d9_26 : decode prog_77_method_10_code 26 = .ok (.iaload, 1) := by decide +kernel
theorem d9_27 : decode prog_77_method_10_code 27 = .ok (.istore_n 3, 1) := by decide +kernel
theorem d9_28 : decode prog_77_method_10_code 28 = .ok (.iload_n 3, 1) := by decide +kernel
theorem d9_29 : decode prog_77_method_10_code 29 = .ok (.aload_n 2, 1) := by decide +kernel
theorem d9_30 : decode prog_77_method_10_code 30 = .ok (.arraylength, 1) := by decide +kernel
theorem d9_31 : decode prog_77_method_10_code 31 = .ok (.if_icmp .ge 38, 3) := by decide +kernel
theorem d9_34 : decode prog_77_method_10_code 34 = .ok (.aload_n 0, 1) := by decide +kernel
theorem d9_35 : decode prog_77_method_10_code 35 = .ok (.getfield 21, 3) := by decide +kernel
theorem d9_38 : decode prog_77_method_10_code 38 = .ok (.aload_n 2, 1) := by decide +kernel
theorem d9_39 : decode prog_77_method_10_code 39 = .ok (.iload_n 3, 1) := by decide +kernel
theorem d9_40 : decode prog_77_method_10_code 40 = .ok (.iaload, 1) := by decide +kernel
theorem d9_41 : decode prog_77_method_10_code 41 = .ok (.iaload, 1) := by decide +kernel
theorem d9_42 : decode prog_77_method_10_code 42 = .ok (.iconst (-1), 1) := by decide +kernel
theorem d9_43 : decode prog_77_method_10_code 43 = .ok (.if_icmp .eq 26, 3) := by decide +kernel
theorem d9_46 : decode prog_77_method_10_code 46 = .ok (.aload_n 0, 1) := by decide +kernel
theorem d9_47 : decode prog_77_method_10_code 47 = .ok (.getfield 15, 3) := by decide +kernel
theorem d9_50 : decode prog_77_method_10_code 50 = .ok (.aload_n 0, 1) := by decide +kernel
theorem d9_51 : decode prog_77_method_10_code 51 = .ok (.getfield 21, 3) := by decide +kernel
theorem d9_54 : decode prog_77_method_10_code 54 = .ok (.aload_n 2, 1) := by decide +kernel
theorem d9_55 : decode prog_77_method_10_code 55 = .ok (.iload_n 3, 1) := by decide +kernel
theorem d9_56 : decode prog_77_method_10_code 56 = .ok (.iaload, 1) := by decide +kernel
theorem d9_57 : decode prog_77_method_10_code 57 = .ok (.iaload, 1) := by decide +kernel
theorem d9_58 : decode prog_77_method_10_code 58 = .ok (.iaload, 1) := by decide +kernel
theorem d9_59 : decode prog_77_method_10_code 59 = .ok (.iload_n 1, 1) := by decide +kernel
theorem d9_60 : decode prog_77_method_10_code 60 = .ok (.if_icmp .ne 9, 3) := by decide +kernel
theorem d9_63 : decode prog_77_method_10_code 63 = .ok (.iinc 3 1, 3) := by decide +kernel
theorem d9_66 : decode prog_77_method_10_code 66 = .ok (.goto (-38), 3) := by decide +kernel
theorem d9_69 : decode prog_77_method_10_code 69 = .ok (.aload_n 0, 1) := by decide +kernel
theorem d9_70 : decode prog_77_method_10_code 70 = .ok (.getfield 38, 3) := by decide +kernel
theorem d9_73 : decode prog_77_method_10_code 73 = .ok (.iload_n 1, 1) := by decide +kernel
theorem d9_74 : decode prog_77_method_10_code 74 = .ok (.iload_n 3, 1) := by decide +kernel
theorem d9_75 : decode prog_77_method_10_code 75 = .ok (.iastore, 1) := by decide +kernel
theorem d9_76 : decode prog_77_method_10_code 76 = .ok (.aload_n 0, 1) := by decide +kernel
theorem d9_77 : decode prog_77_method_10_code 77 = .ok (.getfield 41, 3) := by decide +kernel
theorem d9_80 : decode prog_77_method_10_code 80 = .ok (.iload_n 1, 1) := by decide +kernel
theorem d9_81 : decode prog_77_method_10_code 81 = .ok (.aload_n 0, 1) := by decide +kernel
theorem d9_82 : decode prog_77_method_10_code 82 = .ok (.getfield 64, 3) := by decide +kernel
theorem d9_85 : decode prog_77_method_10_code 85 = .ok (.lastore, 1) := by decide +kernel
theorem d9_86 : decode prog_77_method_10_code 86 = .ok (.aload_n 0, 1) := by decide +kernel
theorem d9_87 : decode prog_77_method_10_code 87 = .ok (.getfield 44, 3) := by decide +kernel
theorem d9_90 : decode prog_77_method_10_code 90 = .ok (.iload_n 1, 1) := by decide +kernel
theorem d9_91 : decode prog_77_method_10_code 91 = .ok (.iload_n 3, 1) := by decide +kernel
theorem d9_92 : decode prog_77_method_10_code 92 = .ok (.iastore, 1) := by decide +kernel
theorem d9_93 : decode prog_77_method_10_code 93 = .ok (.aload_n 0, 1) := by decide +kernel
theorem d9_94 : decode prog_77_method_10_code 94 = .ok (.getfield 44, 3) := by decide +kernel
theorem d9_97 : decode prog_77_method_10_code 97 = .ok (.iload_n 1, 1) := by decide +kernel
theorem d9_98 : decode prog_77_method_10_code 98 = .ok (.iaload, 1) := by decide +kernel
theorem d9_99 : decode prog_77_method_10_code 99 = .ok (.ireturn, 1) := by decide +kernel
theorem pn_rm_nextColumn : plainFor (⟨"com/example/document_pattern_rules/documentpatternrules/pattern/Pairing", "nextColumn", "(I)I"⟩ : MethodName) = true := by first | exact plainFor_of_name (by first | (simp [plainName, overriddenIn]; done) | decide +kernel) | exact Jvm.Free.JP.mathPlain rfl (by decide +kernel) | decide +kernel
theorem ef_rm_nextColumn (m : MethodId) (x0 : Nat) (x1 : Int32) : entryFrame m #[(.ref x0), (.int x1)] 4 = mkF m 0 #[VR x0, VI x1, UU, UU] [] := by first | (simp [entryFrame, mkF, argsToLocals, Value.category]; done) | rfl
set_option maxRecDepth 65536 in
set_option maxHeartbeats 40000000 in
theorem rm_nextColumn (l : Launch) (Z : State) (a0 : Array Value) (hw : ∀ d ∈ tables_1, d.before a0 Z = true) (ws : List Jvm.Cond) (A : Nat → Nat) (K : Nat → ClassId) (zr zc : Int32) (CA : Nat → Nat) (CK : Nat → ClassId) (CL : List (List Int32)) (u0 : own_S) (ru : Int32 × own_S) (ux : Int32) (h0 : Heap) (n0 : Nat) (Z0 : n0 ≤ h0.size) (P0 : own_PS Z h0 n0 A K zr zc CA CK CL u0) (hF : own_nextColumn CL u0 ux = some ru) :
    MetFree l (⟨"com/example/document_pattern_rules/documentpatternrules/pattern/Pairing", "nextColumn", "(I)I"⟩ : MethodName) (head1 (Jvm.Cond.code (⟨"com/example/document_pattern_rules/documentpatternrules/pattern/Pairing", "nextColumn", "(I)I"⟩ : MethodName) prog_77_method_10_code 4 (some .int) :: ws) ({ frames := 0, cells := 0, slots := 0, locals := 0 } : Room)) (fun a U => a = #[(.ref (A 0)), (.int ux)] ∧ Z.Warmed39 U.vm ∧ U.heap = h0) (fun _ _ _ _ _ => True) (fun _ U o U' => ∃ v L, o = .returned v ∧ (own_QPr Z ru n0 A K zr zc CA CK CL) v U'.heap L ∧ FrameEnd U o U' L 0 0) := by
  refine MetFree.of_bodySF pn_rm_nextColumn hisR ?_
  intro p e s m args below meth c s₁ Bd hml0 hP hK
  obtain ⟨rfl, hZ, hh⟩ := hP
  have hx := Bd.exec
  have hby := Bd.bytes
  have hml : c.maxLocals = 4 := hml0
  have hown : s.vm.findClass "com/example/document_pattern_rules/documentpatternrules/pattern/Pairing" = some m.cls := findClass_of_methodNamed Bd.named
  have hnm := (name_of_methodNamed Bd.named Bd.method).1
  have hrt := Bd.returns
  have hlk := Bd.notSynchronized
  have X0 : Stand p l e ({ frames := 0, cells := 0, slots := 0, locals := 0 } : Room) s m #[(.ref (A 0)), (.int ux)] below meth c s₁ [] 0 0 := Stand.of_body Bd
  have e0 : s₁.heap = h0 := by rw [← hh, Bd.state]; rfl
  have N0 := Fr.nil n0
  unfold own_nextColumn at hF
  refine own_done (B := s₁.setTop (mkF m 0 #[VR (A 0), VI ux, UU, UU] [])) (fun t k => castTop (ef_rm_nextColumn m (A 0) ux) k) ?_
  refine own_by (B := s₁.setTop (mkF m 1 #[VR (A 0), VI ux, UU, UU] [(.ref (A 0))])) (fun _ k => XS.aloadN X0.here hx rfl (hb hby d9_0) rfl rfl  k) ?_
  obtain ⟨T1, X1, e1, st1⟩ := getF X0 hx hZ hown (host := "") (Or.inl (own_hw 39 hw rfl)) Via.refl e0 (own_PS_f10 P0) (g := (mkF m 1 #[VR (A 0), VI ux, UU, UU] [(.ref (A 0))])) rfl rfl (hb hby d9_1)
  refine own_by (B := T1.setTop (mkF m 4 #[VR (A 0), VI ux, UU, UU] [(.ref (A 10))])) st1 ?_
  refine own_by (B := T1.setTop (mkF m 5 #[VR (A 0), VI ux, UU, UU] [(.int ux), (.ref (A 10))])) (fun _ k => XS.iloadN X1.here hx rfl (hb hby d9_4) rfl  k) ?_
  obtain ⟨w2, hw2, hF⟩ := own_bind hF
  refine own_by (B := T1.setTop (mkF m 6 #[VR (A 0), VI ux, UU, UU] [(.long w2)])) (own_ldJ X1 hx hZ e1 (own_PS_v10 P0) hw2 (g := (mkF m 5 #[VR (A 0), VI ux, UU, UU] [(.int ux), (.ref (A 10))])) rfl rfl (hb hby d9_5)) ?_
  refine own_by (B := T1.setTop (mkF m 7 #[VR (A 0), VI ux, UU, UU] [(.ref (A 0)), (.long w2)])) (fun _ k => XS.aloadN X1.here hx rfl (hb hby d9_6) rfl rfl  k) ?_
  obtain ⟨T3, X3, e3, st3⟩ := getF X1 hx hZ hown (host := "") (Or.inl (own_hw 62 hw rfl)) Via.refl e1 (own_PS_fse P0) (g := (mkF m 7 #[VR (A 0), VI ux, UU, UU] [(.ref (A 0)), (.long w2)])) rfl rfl (hb hby d9_7)
  refine own_by (B := T3.setTop (mkF m 10 #[VR (A 0), VI ux, UU, UU] [(.long (own_se u0)), (.long w2)])) st3 ?_
  refine own_by (B := T3.setTop (mkF m 11 #[VR (A 0), VI ux, UU, UU] [(.int (XT.cmpL w2 (own_se u0)))])) (fun _ k => XT.lcmp X3.here hx rfl (hb hby d9_10) rfl k) ?_
  by_cases hc4 : w2 = (own_se u0)
  · rw [if_pos hc4] at hF
    refine own_by (B := T3.setTop (mkF m 93 #[VR (A 0), VI ux, UU, UU] [])) (fun _ k => XS.ifYes X3.here hx rfl (pc0 := 11) (pc' := 93) rfl (hb hby d9_11) rfl (XT.ll_eq_t hc4) (by decide) (by decide) k) ?_
    refine own_by (B := T3.setTop (mkF m 94 #[VR (A 0), VI ux, UU, UU] [(.ref (A 0))])) (fun _ k => XS.aloadN X3.here hx rfl (hb hby d9_93) rfl rfl  k) ?_
    obtain ⟨T5, X5, e5, st5⟩ := getF X3 hx hZ hown (host := "") (Or.inl (own_hw 41 hw rfl)) Via.refl e3 (own_PS_f11 P0) (g := (mkF m 94 #[VR (A 0), VI ux, UU, UU] [(.ref (A 0))])) rfl rfl (hb hby d9_94)
    refine own_by (B := T5.setTop (mkF m 97 #[VR (A 0), VI ux, UU, UU] [(.ref (A 11))])) st5 ?_
    refine own_by (B := T5.setTop (mkF m 98 #[VR (A 0), VI ux, UU, UU] [(.int ux), (.ref (A 11))])) (fun _ k => XS.iloadN X5.here hx rfl (hb hby d9_97) rfl  k) ?_
    obtain ⟨w6, hw6, hF⟩ := own_bind hF
    refine own_by (B := T5.setTop (mkF m 99 #[VR (A 0), VI ux, UU, UU] [(.int w6)])) (own_ldI X5 hx hZ e5 (own_PS_v11 P0) hw6 (g := (mkF m 98 #[VR (A 0), VI ux, UU, UU] [(.int ux), (.ref (A 11))])) rfl rfl (hb hby d9_98)) ?_
    obtain rfl := Option.some.inj hF
    exact own_retI X5 hx hrt hlk (hb hby d9_99) (by decide) (by decide) (by show own_QPr Z ((w6, u0)) n0 A K zr zc CA CK CL _ T5.heap _; rw [e5]; exact ⟨rfl, N0, P0⟩)
  · rw [if_neg hc4] at hF
    refine own_by (B := T3.setTop (mkF m 14 #[VR (A 0), VI ux, UU, UU] [])) (fun _ k => XS.ifNo X3.here hx rfl (hb hby d9_11) rfl (XT.ll_eq_f hc4) k) ?_
    refine own_by (B := T3.setTop (mkF m 15 #[VR (A 0), VI ux, UU, UU] [(.ref (A 0))])) (fun _ k => XS.aloadN X3.here hx rfl (hb hby d9_14) rfl rfl  k) ?_
    obtain ⟨T7, X7, e7, st7⟩ := getF X3 hx hZ hown (host := "") (Or.inl (own_hw 19 hw rfl)) Via.refl e3 (own_PS_f1 P0) (g := (mkF m 15 #[VR (A 0), VI ux, UU, UU] [(.ref (A 0))])) rfl rfl (hb hby d9_15)
    refine own_by (B := T7.setTop (mkF m 18 #[VR (A 0), VI ux, UU, UU] [(.ref (A 1))])) st7 ?_
    refine own_by (B := T7.setTop (mkF m 19 #[VR (A 0), VI ux, UU, UU] [(.int ux), (.ref (A 1))])) (fun _ k => XS.iloadN X7.here hx rfl (hb hby d9_18) rfl  k) ?_
    obtain ⟨i8, hi8, hF⟩ := own_bind hF
    obtain ⟨Lc8, hLc8, hF⟩ := own_bind hF
    refine own_by (B := T7.setTop (mkF m 20 #[VR (A 0), VI ux, UU, UU] [(.ref (CA i8))])) (own_ldF X7 hx hZ e7 (own_PS_v1 P0) hi8 (g := (mkF m 19 #[VR (A 0), VI ux, UU, UU] [(.int ux), (.ref (A 1))])) rfl rfl (hb hby d9_19)) ?_
    refine own_by (B := T7.setTop (mkF m 21 #[VR (A 0), VI ux, VR (CA i8), UU] [])) (fun _ k => XS.astoreN X7.here hx rfl (hb hby d9_20) rfl rfl (l' := #[VR (A 0), VI ux, VR (CA i8), UU]) rfl k) ?_
    refine own_by (B := T7.setTop (mkF m 22 #[VR (A 0), VI ux, VR (CA i8), UU] [(.ref (A 0))])) (fun _ k => XS.aloadN X7.here hx rfl (hb hby d9_21) rfl rfl  k) ?_
    obtain ⟨T9, X9, e9, st9⟩ := getF X7 hx hZ hown (host := "") (Or.inl (own_hw 37 hw rfl)) Via.refl e7 (own_PS_f9 P0) (g := (mkF m 22 #[VR (A 0), VI ux, VR (CA i8), UU] [(.ref (A 0))])) rfl rfl (hb hby d9_22)
    refine own_by (B := T9.setTop (mkF m 25 #[VR (A 0), VI ux, VR (CA i8), UU] [(.ref (A 9))])) st9 ?_
    refine own_by (B := T9.setTop (mkF m 26 #[VR (A 0), VI ux, VR (CA i8), UU] [(.int ux), (.ref (A 9))])) (fun _ k => XS.iloadN X9.here hx rfl (hb hby d9_25) rfl  k) ?_
    obtain ⟨w10, hw10, hF⟩ := own_bind hF
    refine own_by (B := T9.setTop (mkF m 27 #[VR (A 0), VI ux, VR (CA i8), UU] [(.int w10)])) (own_ldI X9 hx hZ e9 (own_PS_v9 P0) hw10 (g := (mkF m 26 #[VR (A 0), VI ux, VR (CA i8), UU] [(.int ux), (.ref (A 9))])) rfl rfl (hb hby d9_26)) ?_
    refine own_by (B := T9.setTop (mkF m 28 #[VR (A 0), VI ux, VR (CA i8), VI w10] [])) (fun _ k => XS.istoreN X9.here hx rfl (hb hby d9_27) rfl (l' := #[VR (A 0), VI ux, VR (CA i8), VI w10]) rfl k) ?_
    have hloop28 : ∀ (fuel : Nat) (v3 : Int32) (uh11 : own_S) (q11 : Int32 × own_S), own_nextColumn_L28 CL fuel ux Lc8 v3 uh11 = some q11 → ∀ (T1 : State) (lc1 : List Loc) (X1 : Stand p l e ({ frames := 0, cells := 0, slots := 0, locals := 0 } : Room) s m #[(.ref (A 0)), (.int ux)] below meth c T1 lc1 0 0) (N1 : Fr n0 lc1) (h1 : Heap) (e1 : T1.heap = h1) (P1 : own_PS Z h1 n0 A K zr zc CA CK CL uh11), (∀ (T2 : State) (lc2 : List Loc) (X2 : Stand p l e ({ frames := 0, cells := 0, slots := 0, locals := 0 } : Room) s m #[(.ref (A 0)), (.int ux)] below meth c T2 lc2 0 0) (N2 : Fr n0 lc2) (h2 : Heap) (e2 : T2.heap = h2) (P2 : own_PS Z h2 n0 A K zr zc CA CK CL (q11.2)), own_Go p.tables e below (own_K s below (own_QPr Z ru n0 A K zr zc CA CK CL) 0 0) (T2.setTop (mkF m 69 #[VR (A 0), VI ux, VR (CA i8), VI (q11.1)] []))) → own_Go p.tables e below (own_K s below (own_QPr Z ru n0 A K zr zc CA CK CL) 0 0) (T1.setTop (mkF m 28 #[VR (A 0), VI ux, VR (CA i8), VI v3] [])) := by
      intro fuel
      induction fuel with
      | zero => intro v3 uh11 q11 hF; cases hF
      | succ fuel ih =>
        intro v3 uh11 q11 hF T1 lc1 X1 N1 h1 e1 P1 kont
        rw [own_nextColumn_L28] at hF
        refine own_by (B := T1.setTop (mkF m 29 #[VR (A 0), VI ux, VR (CA i8), VI v3] [(.int v3)])) (fun _ k => XS.iloadN X1.here hx rfl (hb hby d9_28) rfl  k) ?_
        refine own_by (B := T1.setTop (mkF m 30 #[VR (A 0), VI ux, VR (CA i8), VI v3] [(.ref (CA i8)), (.int v3)])) (fun _ k => XS.aloadN X1.here hx rfl (hb hby d9_29) rfl rfl  k) ?_
        refine own_by (B := T1.setTop (mkF m 31 #[VR (A 0), VI ux, VR (CA i8), VI v3] [(.int (Int32.ofNat Lc8.length)), (.int v3)])) (own_lenI X1 hx hZ e1 ((own_PS_cc P1) _ _ hLc8).1 (g := (mkF m 30 #[VR (A 0), VI ux, VR (CA i8), VI v3] [(.ref (CA i8)), (.int v3)])) rfl rfl (hb hby d9_30)) ?_
        by_cases hc12 : v3 < (Int32.ofNat Lc8.length)
        · rw [if_pos hc12] at hF
          refine own_by (B := T1.setTop (mkF m 34 #[VR (A 0), VI ux, VR (CA i8), VI v3] [])) (fun _ k => XS.icmpNo X1.here hx rfl (hb hby d9_31) rfl (XT.ii_ge_f hc12) k) ?_
          refine own_by (B := T1.setTop (mkF m 35 #[VR (A 0), VI ux, VR (CA i8), VI v3] [(.ref (A 0))])) (fun _ k => XS.aloadN X1.here hx rfl (hb hby d9_34) rfl rfl  k) ?_
          obtain ⟨T13, X13, e13, st13⟩ := getF X1 hx hZ hown (host := "") (Or.inl (own_hw 25 hw rfl)) Via.refl e1 (own_PS_f4 P1) (g := (mkF m 35 #[VR (A 0), VI ux, VR (CA i8), VI v3] [(.ref (A 0))])) rfl rfl (hb hby d9_35)
          refine own_by (B := T13.setTop (mkF m 38 #[VR (A 0), VI ux, VR (CA i8), VI v3] [(.ref (A 4))])) st13 ?_
          refine own_by (B := T13.setTop (mkF m 39 #[VR (A 0), VI ux, VR (CA i8), VI v3] [(.ref (CA i8)), (.ref (A 4))])) (fun _ k => XS.aloadN X13.here hx rfl (hb hby d9_38) rfl rfl  k) ?_
          refine own_by (B := T13.setTop (mkF m 40 #[VR (A 0), VI ux, VR (CA i8), VI v3] [(.int v3), (.ref (CA i8)), (.ref (A 4))])) (fun _ k => XS.iloadN X13.here hx rfl (hb hby d9_39) rfl  k) ?_
          obtain ⟨w14, hw14, hF⟩ := own_bind hF
          refine own_by (B := T13.setTop (mkF m 41 #[VR (A 0), VI ux, VR (CA i8), VI v3] [(.int w14), (.ref (A 4))])) (own_ldI X13 hx hZ e13 ((own_PS_cc P1) _ _ hLc8).1 hw14 (g := (mkF m 40 #[VR (A 0), VI ux, VR (CA i8), VI v3] [(.int v3), (.ref (CA i8)), (.ref (A 4))])) rfl rfl (hb hby d9_40)) ?_
          obtain ⟨w15, hw15, hF⟩ := own_bind hF
          refine own_by (B := T13.setTop (mkF m 42 #[VR (A 0), VI ux, VR (CA i8), VI v3] [(.int w15)])) (own_ldI X13 hx hZ e13 (own_PS_v4 P1) hw15 (g := (mkF m 41 #[VR (A 0), VI ux, VR (CA i8), VI v3] [(.int w14), (.ref (A 4))])) rfl rfl (hb hby d9_41)) ?_
          refine own_by (B := T13.setTop (mkF m 43 #[VR (A 0), VI ux, VR (CA i8), VI v3] [(.int (-1 : Int32)), (.int w15)])) (fun _ k => XS.iconst X13.here hx rfl (hb hby d9_42) k) ?_
          by_cases hc16 : w15 = (-1 : Int32)
          · rw [if_pos hc16] at hF
            refine own_by (B := T13.setTop (mkF m 69 #[VR (A 0), VI ux, VR (CA i8), VI v3] [])) (fun _ k => XS.icmpYes X13.here hx rfl (pc0 := 43) (pc' := 69) rfl (hb hby d9_43) rfl (XT.ii_eq_t hc16) (by decide) (by decide) k) ?_
            obtain rfl := Option.some.inj hF
            exact kont _ _ X13 N1 _ e13 P1
          · rw [if_neg hc16] at hF
            refine own_by (B := T13.setTop (mkF m 46 #[VR (A 0), VI ux, VR (CA i8), VI v3] [])) (fun _ k => XS.icmpNo X13.here hx rfl (hb hby d9_43) rfl (XT.ii_eq_f hc16) k) ?_
            refine own_by (B := T13.setTop (mkF m 47 #[VR (A 0), VI ux, VR (CA i8), VI v3] [(.ref (A 0))])) (fun _ k => XS.aloadN X13.here hx rfl (hb hby d9_46) rfl rfl  k) ?_
            obtain ⟨T17, X17, e17, st17⟩ := getF X13 hx hZ hown (host := "") (Or.inl (own_hw 21 hw rfl)) Via.refl e13 (own_PS_f2 P1) (g := (mkF m 47 #[VR (A 0), VI ux, VR (CA i8), VI v3] [(.ref (A 0))])) rfl rfl (hb hby d9_47)
            refine own_by (B := T17.setTop (mkF m 50 #[VR (A 0), VI ux, VR (CA i8), VI v3] [(.ref (A 2))])) st17 ?_
            refine own_by (B := T17.setTop (mkF m 51 #[VR (A 0), VI ux, VR (CA i8), VI v3] [(.ref (A 0)), (.ref (A 2))])) (fun _ k => XS.aloadN X17.here hx rfl (hb hby d9_50) rfl rfl  k) ?_
            obtain ⟨T18, X18, e18, st18⟩ := getF X17 hx hZ hown (host := "") (Or.inl (own_hw 25 hw rfl)) Via.refl e17 (own_PS_f4 P1) (g := (mkF m 51 #[VR (A 0), VI ux, VR (CA i8), VI v3] [(.ref (A 0)), (.ref (A 2))])) rfl rfl (hb hby d9_51)
            refine own_by (B := T18.setTop (mkF m 54 #[VR (A 0), VI ux, VR (CA i8), VI v3] [(.ref (A 4)), (.ref (A 2))])) st18 ?_
            refine own_by (B := T18.setTop (mkF m 55 #[VR (A 0), VI ux, VR (CA i8), VI v3] [(.ref (CA i8)), (.ref (A 4)), (.ref (A 2))])) (fun _ k => XS.aloadN X18.here hx rfl (hb hby d9_54) rfl rfl  k) ?_
            refine own_by (B := T18.setTop (mkF m 56 #[VR (A 0), VI ux, VR (CA i8), VI v3] [(.int v3), (.ref (CA i8)), (.ref (A 4)), (.ref (A 2))])) (fun _ k => XS.iloadN X18.here hx rfl (hb hby d9_55) rfl  k) ?_
            obtain ⟨w19, hw19, hF⟩ := own_bind hF
            refine own_by (B := T18.setTop (mkF m 57 #[VR (A 0), VI ux, VR (CA i8), VI v3] [(.int w19), (.ref (A 4)), (.ref (A 2))])) (own_ldI X18 hx hZ e18 ((own_PS_cc P1) _ _ hLc8).1 hw19 (g := (mkF m 56 #[VR (A 0), VI ux, VR (CA i8), VI v3] [(.int v3), (.ref (CA i8)), (.ref (A 4)), (.ref (A 2))])) rfl rfl (hb hby d9_56)) ?_
            obtain ⟨w20, hw20, hF⟩ := own_bind hF
            refine own_by (B := T18.setTop (mkF m 58 #[VR (A 0), VI ux, VR (CA i8), VI v3] [(.int w20), (.ref (A 2))])) (own_ldI X18 hx hZ e18 (own_PS_v4 P1) hw20 (g := (mkF m 57 #[VR (A 0), VI ux, VR (CA i8), VI v3] [(.int w19), (.ref (A 4)), (.ref (A 2))])) rfl rfl (hb hby d9_57)) ?_
            obtain ⟨w21, hw21, hF⟩ := own_bind hF
            refine own_by (B := T18.setTop (mkF m 59 #[VR (A 0), VI ux, VR (CA i8), VI v3] [(.int w21)])) (own_ldI X18 hx hZ e18 (own_PS_v2 P1) hw21 (g := (mkF m 58 #[VR (A 0), VI ux, VR (CA i8), VI v3] [(.int w20), (.ref (A 2))])) rfl rfl (hb hby d9_58)) ?_
            refine own_by (B := T18.setTop (mkF m 60 #[VR (A 0), VI ux, VR (CA i8), VI v3] [(.int ux), (.int w21)])) (fun _ k => XS.iloadN X18.here hx rfl (hb hby d9_59) rfl  k) ?_
            by_cases hc22 : w21 = ux
            · rw [if_pos hc22] at hF
              refine own_by (B := T18.setTop (mkF m 63 #[VR (A 0), VI ux, VR (CA i8), VI v3] [])) (fun _ k => XS.icmpNo X18.here hx rfl (hb hby d9_60) rfl (XT.ii_ne_f hc22) k) ?_
              refine own_by (B := T18.setTop (mkF m 66 #[VR (A 0), VI ux, VR (CA i8), VI (v3 + (1 : Int32))] [])) (fun _ k => XS.iinc X18.here hx rfl (hb hby d9_63) rfl (l' := #[VR (A 0), VI ux, VR (CA i8), VI (v3 + (1 : Int32))]) rfl k) ?_
              refine own_by (B := T18.setTop (mkF m 28 #[VR (A 0), VI ux, VR (CA i8), VI (v3 + (1 : Int32))] [])) (fun _ k => XS.goto X18.here hx rfl (pc0 := 66) (pc' := 28) rfl (hb hby d9_66) (by decide) (by decide) k) ?_
              exact ih (v3 + (1 : Int32)) uh11 _ hF _ _ X18 N1 _ e18 P1 kont
            · rw [if_neg hc22] at hF
              refine own_by (B := T18.setTop (mkF m 69 #[VR (A 0), VI ux, VR (CA i8), VI v3] [])) (fun _ k => XS.icmpYes X18.here hx rfl (pc0 := 60) (pc' := 69) rfl (hb hby d9_60) rfl (XT.ii_ne_t hc22) (by decide) (by decide) k) ?_
              obtain rfl := Option.some.inj hF
              exact kont _ _ X18 N1 _ e18 P1
        · rw [if_neg hc12] at hF
          refine own_by (B := T1.setTop (mkF m 69 #[VR (A 0), VI ux, VR (CA i8), VI v3] [])) (fun _ k => XS.icmpYes X1.here hx rfl (pc0 := 31) (pc' := 69) rfl (hb hby d9_31) rfl (XT.ii_ge_t hc12) (by decide) (by decide) k) ?_
          obtain rfl := Option.some.inj hF
          exact kont _ _ X1 N1 _ e1 P1
    obtain ⟨q23, hq23, hF⟩ := own_bind hF
    refine hloop28 6 w10 u0 _ hq23 _ _ X9 N0 _ e9 P0 ?_
    intro T24 lc24 X24 N24 h24 e24 P24
    refine own_by (B := T24.setTop (mkF m 70 #[VR (A 0), VI ux, VR (CA i8), VI (q23.1)] [(.ref (A 0))])) (fun _ k => XS.aloadN X24.here hx rfl (hb hby d9_69) rfl rfl  k) ?_
    obtain ⟨T25, X25, e25, st25⟩ := getF X24 hx hZ hown (host := "") (Or.inl (own_hw 37 hw rfl)) Via.refl e24 (own_PS_f9 P24) (g := (mkF m 70 #[VR (A 0), VI ux, VR (CA i8), VI (q23.1)] [(.ref (A 0))])) rfl rfl (hb hby d9_70)
    refine own_by (B := T25.setTop (mkF m 73 #[VR (A 0), VI ux, VR (CA i8), VI (q23.1)] [(.ref (A 9))])) st25 ?_
    refine own_by (B := T25.setTop (mkF m 74 #[VR (A 0), VI ux, VR (CA i8), VI (q23.1)] [(.int ux), (.ref (A 9))])) (fun _ k => XS.iloadN X25.here hx rfl (hb hby d9_73) rfl  k) ?_
    refine own_by (B := T25.setTop (mkF m 75 #[VR (A 0), VI ux, VR (CA i8), VI (q23.1)] [(.int (q23.1)), (.int ux), (.ref (A 9))])) (fun _ k => XS.iloadN X25.here hx rfl (hb hby d9_74) rfl  k) ?_
    obtain ⟨u26, hu26, hF⟩ := own_bind hF
    obtain ⟨zl26, hz26, hu26'⟩ := Option.map_eq_some_iff.mp hu26
    obtain ⟨T26, h26, X26, e26, W26, V26, st26⟩ := own_stI X25 hx hZ e25 (own_PS_v9 P24) hz26 (g := (mkF m 75 #[VR (A 0), VI ux, VR (CA i8), VI (q23.1)] [(.int (q23.1)), (.int ux), (.ref (A 9))])) rfl rfl (hb hby d9_75)
    have P26 : own_PS Z h26 n0 A K zr zc CA CK CL u26 := hu26' ▸ own_w_ow P24 W26 V26
    have N26 := Fr.snoc X26 N24 (own_PS_gn P24).2.2.2.2.2.2.2.2.2.1
    refine own_by (B := T26.setTop (mkF m 76 #[VR (A 0), VI ux, VR (CA i8), VI (q23.1)] [])) st26 ?_
    refine own_by (B := T26.setTop (mkF m 77 #[VR (A 0), VI ux, VR (CA i8), VI (q23.1)] [(.ref (A 0))])) (fun _ k => XS.aloadN X26.here hx rfl (hb hby d9_76) rfl rfl  k) ?_
    obtain ⟨T27, X27, e27, st27⟩ := getF X26 hx hZ hown (host := "") (Or.inl (own_hw 39 hw rfl)) Via.refl e26 (own_PS_f10 P26) (g := (mkF m 77 #[VR (A 0), VI ux, VR (CA i8), VI (q23.1)] [(.ref (A 0))])) rfl rfl (hb hby d9_77)
    refine own_by (B := T27.setTop (mkF m 80 #[VR (A 0), VI ux, VR (CA i8), VI (q23.1)] [(.ref (A 10))])) st27 ?_
    refine own_by (B := T27.setTop (mkF m 81 #[VR (A 0), VI ux, VR (CA i8), VI (q23.1)] [(.int ux), (.ref (A 10))])) (fun _ k => XS.iloadN X27.here hx rfl (hb hby d9_80) rfl  k) ?_
    refine own_by (B := T27.setTop (mkF m 82 #[VR (A 0), VI ux, VR (CA i8), VI (q23.1)] [(.ref (A 0)), (.int ux), (.ref (A 10))])) (fun _ k => XS.aloadN X27.here hx rfl (hb hby d9_81) rfl rfl  k) ?_
    obtain ⟨T28, X28, e28, st28⟩ := getF X27 hx hZ hown (host := "") (Or.inl (own_hw 62 hw rfl)) Via.refl e27 (own_PS_fse P26) (g := (mkF m 82 #[VR (A 0), VI ux, VR (CA i8), VI (q23.1)] [(.ref (A 0)), (.int ux), (.ref (A 10))])) rfl rfl (hb hby d9_82)
    refine own_by (B := T28.setTop (mkF m 85 #[VR (A 0), VI ux, VR (CA i8), VI (q23.1)] [(.long (own_se u26)), (.int ux), (.ref (A 10))])) st28 ?_
    obtain ⟨u29, hu29, hF⟩ := own_bind hF
    obtain ⟨zl29, hz29, hu29'⟩ := Option.map_eq_some_iff.mp hu29
    obtain ⟨T29, h29, X29, e29, W29, V29, st29⟩ := own_stJ X28 hx hZ e28 (own_PS_v10 P26) hz29 (g := (mkF m 85 #[VR (A 0), VI ux, VR (CA i8), VI (q23.1)] [(.long (own_se u26)), (.int ux), (.ref (A 10))])) rfl rfl (hb hby d9_85)
    have P29 : own_PS Z h29 n0 A K zr zc CA CK CL u29 := hu29' ▸ own_w_sc P26 W29 V29
    have N29 := Fr.snoc X29 N26 (own_PS_gn P26).2.2.2.2.2.2.2.2.2.2.1
    refine own_by (B := T29.setTop (mkF m 86 #[VR (A 0), VI ux, VR (CA i8), VI (q23.1)] [])) st29 ?_
    refine own_by (B := T29.setTop (mkF m 87 #[VR (A 0), VI ux, VR (CA i8), VI (q23.1)] [(.ref (A 0))])) (fun _ k => XS.aloadN X29.here hx rfl (hb hby d9_86) rfl rfl  k) ?_
    obtain ⟨T30, X30, e30, st30⟩ := getF X29 hx hZ hown (host := "") (Or.inl (own_hw 41 hw rfl)) Via.refl e29 (own_PS_f11 P29) (g := (mkF m 87 #[VR (A 0), VI ux, VR (CA i8), VI (q23.1)] [(.ref (A 0))])) rfl rfl (hb hby d9_87)
    refine own_by (B := T30.setTop (mkF m 90 #[VR (A 0), VI ux, VR (CA i8), VI (q23.1)] [(.ref (A 11))])) st30 ?_
    refine own_by (B := T30.setTop (mkF m 91 #[VR (A 0), VI ux, VR (CA i8), VI (q23.1)] [(.int ux), (.ref (A 11))])) (fun _ k => XS.iloadN X30.here hx rfl (hb hby d9_90) rfl  k) ?_
    refine own_by (B := T30.setTop (mkF m 92 #[VR (A 0), VI ux, VR (CA i8), VI (q23.1)] [(.int (q23.1)), (.int ux), (.ref (A 11))])) (fun _ k => XS.iloadN X30.here hx rfl (hb hby d9_91) rfl  k) ?_
    obtain ⟨u31, hu31, hF⟩ := own_bind hF
    obtain ⟨zl31, hz31, hu31'⟩ := Option.map_eq_some_iff.mp hu31
    obtain ⟨T31, h31, X31, e31, W31, V31, st31⟩ := own_stI X30 hx hZ e30 (own_PS_v11 P29) hz31 (g := (mkF m 92 #[VR (A 0), VI ux, VR (CA i8), VI (q23.1)] [(.int (q23.1)), (.int ux), (.ref (A 11))])) rfl rfl (hb hby d9_92)
    have P31 : own_PS Z h31 n0 A K zr zc CA CK CL u31 := hu31' ▸ own_w_nx P29 W31 V31
    have N31 := Fr.snoc X31 N29 (own_PS_gn P29).2.2.2.2.2.2.2.2.2.2.2.1
    refine own_by (B := T31.setTop (mkF m 93 #[VR (A 0), VI ux, VR (CA i8), VI (q23.1)] [])) st31 ?_
    refine own_by (B := T31.setTop (mkF m 94 #[VR (A 0), VI ux, VR (CA i8), VI (q23.1)] [(.ref (A 0))])) (fun _ k => XS.aloadN X31.here hx rfl (hb hby d9_93) rfl rfl  k) ?_
    obtain ⟨T32, X32, e32, st32⟩ := getF X31 hx hZ hown (host := "") (Or.inl (own_hw 41 hw rfl)) Via.refl e31 (own_PS_f11 P31) (g := (mkF m 94 #[VR (A 0), VI ux, VR (CA i8), VI (q23.1)] [(.ref (A 0))])) rfl rfl (hb hby d9_94)
    refine own_by (B := T32.setTop (mkF m 97 #[VR (A 0), VI ux, VR (CA i8), VI (q23.1)] [(.ref (A 11))])) st32 ?_
    refine own_by (B := T32.setTop (mkF m 98 #[VR (A 0), VI ux, VR (CA i8), VI (q23.1)] [(.int ux), (.ref (A 11))])) (fun _ k => XS.iloadN X32.here hx rfl (hb hby d9_97) rfl  k) ?_
    obtain ⟨w33, hw33, hF⟩ := own_bind hF
    refine own_by (B := T32.setTop (mkF m 99 #[VR (A 0), VI ux, VR (CA i8), VI (q23.1)] [(.int w33)])) (own_ldI X32 hx hZ e32 (own_PS_v11 P31) hw33 (g := (mkF m 98 #[VR (A 0), VI ux, VR (CA i8), VI (q23.1)] [(.int ux), (.ref (A 11))])) rfl rfl (hb hby d9_98)) ?_
    obtain rfl := Option.some.inj hF
    exact own_retI X32 hx hrt hlk (hb hby d9_99) (by decide) (by decide) (by show own_QPr Z ((w33, u31)) n0 A K zr zc CA CK CL _ T32.heap _; rw [e32]; exact ⟨rfl, N31, P31⟩)

def own_augment_L55 (CL : List (List Int32)) : Nat → Int32 → List Int32 → Int32 → Int32 → Int32 → own_S → Option (Int32 × Int32 × Int32 × own_S)
  | 0, _, _, _, _, _, _ => none
  | fuel + 1, w9, Lc11, v6, v7, v8, uh14 => if v7 = (-1 : Int32) then (if v6 < (Int32.ofNat Lc11.length) then ((own_geti Lc11 v6).bind fun w17 => (own_ld_vi uh14 w17).bind fun w19 => if w19 = (own_se uh14) then (own_augment_L55 CL fuel w9 Lc11 (v6 + (1 : Int32)) v7 v8 uh14) else ((own_st_vi uh14 w17 (own_se uh14)).bind fun u24 => (own_ld_ho u24 w17).bind fun w26 => if w26 = (-1 : Int32) then (own_augment_L55 CL fuel w9 Lc11 (v6 + (1 : Int32)) w17 w26 u24) else ((own_ld_fi u24 w26).bind fun w29 => if w29 = (0 : Int32) then ((own_ld_ki u24 w26).bind fun w32 => if w32 = w9 then (own_augment_L55 CL fuel w9 Lc11 (v6 + (1 : Int32)) (-1 : Int32) w26 u24) else (own_augment_L55 CL fuel w9 Lc11 (v6 + (1 : Int32)) w17 w26 u24)) else (own_augment_L55 CL fuel w9 Lc11 (v6 + (1 : Int32)) (-1 : Int32) w26 u24)))) else (some (v6, v7, v8, uh14))) else (some (v6, v7, v8, uh14))
def own_augment_L11 (CL : List (List Int32)) : Nat → Int32 → Int32 → own_S → Option (Int32 × Int32 × own_S)
  | 0, _, _, _ => none
  | fuel + 1, v2, v3, uh3 => if v2 < (0 : Int32) then (some (v2, v3, uh3)) else (if v3 = (0 : Int32) then ((own_ld_pt uh3 v2).bind fun w8 => (own_ld_ki uh3 w8).bind fun w9 => (own_ld_F uh3 w9).bind fun i11 => ((CL[i11]? : Option (List Int32))).bind fun Lc11 => (own_nextColumn CL uh3 w9).bind fun q12 => (own_augment_L55 CL 8 w9 Lc11 (q12.1) (-1 : Int32) (-1 : Int32) (q12.2)).bind fun q34 => (own_st_nx (q34.2.2.2) w9 (q34.1)).bind fun u37 => if (q34.2.1) = (-1 : Int32) then (own_augment_L11 CL fuel  (v2 + (-1 : Int32)) v3 u37) else ((own_st_va u37 v2 (q34.2.1)).bind fun u40 => if (q34.2.2.1) = (-1 : Int32) then (own_augment_L11 CL fuel  v2 (1 : Int32) u40) else ((own_st_pt u40 (v2 + (1 : Int32)) (q34.2.2.1)).bind fun u43 => own_augment_L11 CL fuel  (v2 + (1 : Int32)) (0 : Int32) u43))) else (some (v2, v3, uh3)))
def own_augment_L215 (CL : List (List Int32)) : Nat → Int32 → own_S → Option (Int32 × own_S)
  | 0, _, _ => none
  | fuel + 1, v4, uh46 => if v4 < (0 : Int32) then (some (v4, uh46)) else ((own_ld_pt uh46 v4).bind fun w49 => (own_ld_va uh46 v4).bind fun w51 => (own_hold CL uh46 w49 w51).bind fun q52 => own_augment_L215 CL fuel  (v4 + (-1 : Int32)) q52)
def own_augment (CL : List (List Int32)) (u0 : own_S) (ux : Int32) : Option (Int32 × own_S) := (own_st_pt u0 (0 : Int32) ux).bind fun u2 => (own_augment_L11 CL 16  (0 : Int32) (0 : Int32) u2).bind fun q44 => (own_augment_L215 CL 8  (q44.1) (q44.2.2)).bind fun q54 => some (((q44.2.1) &&& (1 : Int32)), (q54.2))

theorem d8_0 : decode prog_77_method_9_code 0 = .ok (.iconst 0, 1) := by decide +kernel
theorem d8_1 : decode prog_77_method_9_code 1 = .ok (.istore_n 2, 1) := by decide +kernel
theorem d8_2 : decode prog_77_method_9_code 2 = .ok (.aload_n 0, 1) := by decide +kernel
theorem d8_3 : decode prog_77_method_9_code 3 = .ok (.getfield 32, 3) := by decide +kernel
theorem d8_6 : decode prog_77_method_9_code 6 = .ok (.iconst 0, 1) := by decide +kernel
theorem d8_7 : decode prog_77_method_9_code 7 = .ok (.iload_n 1, 1) := by decide +kernel
theorem d8_8 : decode prog_77_method_9_code 8 = .ok (.iastore, 1) := by decide +kernel
theorem d8_9 : decode prog_77_method_9_code 9 = .ok (.iconst 0, 1) := by decide +kernel
theorem d8_10 : decode prog_77_method_9_code 10 = .ok (.istore_n 3, 1) := by decide +kernel
theorem d8_11 : decode prog_77_method_9_code 11 = .ok (.iload_n 2, 1) := by decide +kernel
theorem d8_12 : decode prog_77_method_9_code 12 = .ok (.ifCond .lt 200, 3) := by decide +kernel
theorem d8_15 : decode prog_77_method_9_code 15 = .ok (.iload_n 3, 1) := by decide +kernel
theorem d8_16 : decode prog_77_method_9_code 16 = .ok (.ifCond .ne 196, 3) := by decide +kernel
theorem d8_19 : decode prog_77_method_9_code 19 = .ok (.aload_n 0, 1) := by decide +kernel
theorem d8_20 : decode prog_77_method_9_code 20 = .ok (.getfield 15, 3) := by decide +kernel
theorem d8_23 : decode prog_77_method_9_code 23 = .ok (.aload_n 0, 1) := by decide +kernel
theorem d8_24 : decode prog_77_method_9_code 24 = .ok (.getfield 32, 3) := by decide +kernel
theorem d8_27 : decode prog_77_method_9_code 27 = .ok (.iload_n 2, 1) := by decide +kernel
theorem d8_28 : decode prog_77_method_9_code 28 = .ok (.iaload, 1) := by decide +kernel
theorem d8_29 : decode prog_77_method_9_code 29 = .ok (.iaload, 1) := by decide +kernel
theorem d8_30 : decode prog_77_method_9_code 30 = .ok (.istore 4, 2) := by decide +kernel
theorem d8_32 : decode prog_77_method_9_code 32 = .ok (.aload_n 0, 1) := by decide +kernel
theorem d8_33 : decode prog_77_method_9_code 33 = .ok (.getfield 9, 3) := by decide +kernel
theorem d8_36 : decode prog_77_method_9_code 36 = .ok (.iload 4, 2) := by decide +kernel
theorem d8_38 : decode prog_77_method_9_code 38 = .ok (.aaload, 1) := by decide +kernel
theorem d8_39 : decode prog_77_method_9_code 39 = .ok (.astore 5, 2) := by decide +kernel
theorem d8_41 : decode prog_77_method_9_code 41 = .ok (.aload_n 0, 1) := by decide +kernel
theorem d8_42 : decode prog_77_method_9_code 42 = .ok (.iload 4, 2) := by decide +kernel
theorem d8_44 : decode prog_77_method_9_code 44 = .ok (.invokevirtual 89, 3) := by decide +kernel
theorem d8_47 : decode prog_77_method_9_code 47 = .ok (.istore 6, 2) := by decide +kernel
theorem d8_49 : decode prog_77_method_9_code 49 = .ok (.iconst (-1), 1) := by decide +kernel
theorem d8_50 : decode prog_77_method_9_code 50 = .ok (.istore 7, 2) := by decide +kernel
theorem d8_52 : decode prog_77_method_9_code 52 = .ok (.iconst (-1), 1) := by decide +kernel
theorem d8_53 : decode prog_77_method_9_code 53 = .ok (.istore 8, 2) := by decide +kernel
theorem d8_55 : decode prog_77_method_9_code 55 = .ok (.iload 7, 2) := by decide +kernel
theorem d8_57 : decode prog_77_method_9_code 57 = .ok (.iconst (-1), 1) := by decide +kernel
theorem d8_58 : decode prog_77_method_9_code 58 = .ok (.if_icmp .ne 95, 3) := by decide +kernel
theorem d8_61 : decode prog_77_method_9_code 61 = .ok (.iload 6, 2) := by decide +kernel
theorem d8_63 : decode prog_77_method_9_code 63 = .ok (.aload 5, 2) := by decide +kernel
theorem d8_65 : decode prog_77_method_9_code 65 = .ok (.arraylength, 1) := by decide +kernel
theorem d8_66 : decode prog_77_method_9_code 66 = .ok (.if_icmp .ge 87, 3) := by decide +kernel
theorem d8_69 : decode prog_77_method_9_code 69 = .ok (.aload 5, 2) := by decide +kernel
theorem d8_71 : decode prog_77_method_9_code 71 = .ok (.iload 6, 2) := by decide +kernel
theorem d8_73 : decode prog_77_method_9_code 73 = .ok (.iinc 6 1, 3) := by decide +kernel
theorem d8_76 : decode prog_77_method_9_code 76 = .ok (.iaload, 1) := by decide +kernel
theorem d8_77 : decode prog_77_method_9_code 77 = .ok (.istore 9, 2) := by decide +kernel
theorem d8_79 : decode prog_77_method_9_code 79 = .ok (.aload_n 0, 1) := by decide +kernel
theorem d8_80 : decode prog_77_method_9_code 80 = .ok (.getfield 28, 3) := by decide +kernel
theorem d8_83 : decode prog_77_method_9_code 83 = .ok (.iload 9, 2) := by decide +kernel
theorem d8_85 : decode prog_77_method_9_code 85 = .ok (.laload, 1) := by decide +kernel
theorem d8_86 : decode prog_77_method_9_code 86 = .ok (.aload_n 0, 1) := by decide +kernel
theorem d8_87 : decode prog_77_method_9_code 87 = .ok (.getfield 64, 3) := by decide +kernel
theorem d8_90 : decode prog_77_method_9_code 90 = .ok (.lcmp, 1) := by decide +kernel
theorem d8_91 : decode prog_77_method_9_code 91 = .ok (.ifCond .eq 59, 3) := by decide +kernel
theorem d8_94 : decode prog_77_method_9_code 94 = .ok (.aload_n 0, 1) := by decide +kernel
theorem d8_95 : decode prog_77_method_9_code 95 = .ok (.getfield 28, 3) := by decide +kernel
theorem d8_98 : decode prog_77_method_9_code 98 = .ok (.iload 9, 2) := by decide +kernel
theorem d8_100 : decode prog_77_method_9_code 100 = .ok (.aload_n 0, 1) := by decide +kernel
theorem d8_101 : decode prog_77_method_9_code 101 = .ok (.getfield 64, 3) := by decide +kernel
theorem d8_104 : decode prog_77_method_9_code 104 = .ok (.lastore, 1) := by decide +kernel
theorem d8_105 : decode prog_77_method_9_code 105 = .ok (.aload_n 0, 1) := by decide +kernel
theorem d8_106 : decode prog_77_method_9_code 106 = .ok (.getfield 21, 3) := by decide +kernel
theorem d8_109 : decode prog_77_method_9_code 109 = .ok (.iload 9, 2) := by decide +kernel
theorem d8_111 : decode prog_77_method_9_code 111 = .ok (.iaload, 1) := by decide +kernel
theorem d8_112 : decode prog_77_method_9_code 112 = .ok (.istore 8, 2) := by decide +kernel
theorem d8_114 : decode prog_77_method_9_code 114 = .ok (.iload 8, 2) := by decide +kernel
theorem d8_116 : decode prog_77_method_9_code 116 = .ok (.iconst (-1), 1) := by decide +kernel
theorem d8_117 : decode prog_77_method_9_code 117 = .ok (.if_icmp .eq 25, 3) := by decide +kernel
theorem d8_120 : decode prog_77_method_9_code 120 = .ok (.aload_n 0, 1) := by decide +kernel
theorem d8_121 : decode prog_77_method_9_code 121 = .ok (.getfield 24, 3) := by decide +kernel
theorem d8_124 : decode prog_77_method_9_code 124 = .ok (.iload 8, 2) := by decide +kernel
theorem d8_126 : decode prog_77_method_9_code 126 = .ok (.baload, 1) := by decide +kernel
theorem d8_127 : decode prog_77_method_9_code 127 = .ok (.ifCond .ne 20, 3) := by decide +kernel
theorem d8_130 : decode prog_77_method_9_code 130 = .ok (.aload_n 0, 1) := by decide +kernel
theorem d8_131 : decode prog_77_method_9_code 131 = .ok (.getfield 15, 3) := by decide +kernel
theorem d8_134 : decode prog_77_method_9_code 134 = .ok (.iload 8, 2) := by decide +kernel
theorem d8_136 : decode prog_77_method_9_code 136 = .ok (.iaload, 1) := by decide +kernel
theorem d8_137 : decode prog_77_method_9_code 137 = .ok (.iload 4, 2) := by decide +kernel
theorem d8_139 : decode prog_77_method_9_code 139 = .ok (.if_icmp .eq 8, 3) := by decide +kernel
theorem d8_142 : decode prog_77_method_9_code 142 = .ok (.iload 9, 2) := by decide +kernel
theorem d8_144 : decode prog_77_method_9_code 144 = .ok (.goto 4, 3) := by decide +kernel
theorem d8_147 : decode prog_77_method_9_code 147 = .ok (.iconst (-1), 1) := by decide +kernel
theorem d8_148 : decode prog_77_method_9_code 148 = .ok (.istore 7, 2) := by decide +kernel
theorem d8_150 : decode prog_77_method_9_code 150 = .ok (.goto (-95), 3) := by decide +kernel
theorem d8_153 : decode prog_77_method_9_code 153 = .ok (.aload_n 0, 1) := by decide +kernel
theorem d8_154 : decode prog_77_method_9_code 154 = .ok (.getfield 44, 3) := by decide +kernel
theorem d8_157 : decode prog_77_method_9_code 157 = .ok (.iload 4, 2) := by decide +kernel
theorem d8_159 : decode prog_77_method_9_code 159 = .ok (.iload 6, 2) := by decide +kernel
theorem d8_161 : decode prog_77_method_9_code 161 = .ok (.iastore, 1) := by decide +kernel
theorem d8_162 : decode prog_77_method_9_code 162 = .ok (.iload 7, 2) := by decide +kernel
theorem d8_164 : decode prog_77_method_9_code 164 = .ok (.iconst (-1), 1) := by decide +kernel
theorem d8_165 : decode prog_77_method_9_code 165 = .ok (.if_icmp .ne 9, 3) := by decide +kernel
theorem d8_168 : decode prog_77_method_9_code 168 = .ok (.iinc 2 (-1), 3) := by decide +kernel
theorem d8_171 : decode prog_77_method_9_code 171 = .ok (.goto 38, 3) := by decide +kernel
theorem d8_174 : decode prog_77_method_9_code 174 = .ok (.aload_n 0, 1) := by decide +kernel
theorem d8_175 : decode prog_77_method_9_code 175 = .ok (.getfield 35, 3) := by decide +kernel
theorem d8_178 : decode prog_77_method_9_code 178 = .ok (.iload_n 2, 1) := by decide +kernel
theorem d8_179 : decode prog_77_method_9_code 179 = .ok (.iload 7, 2) := by decide +kernel
theorem d8_181 : decode prog_77_method_9_code 181 = .ok (.iastore, 1) := by decide +kernel
theorem d8_182 : decode prog_77_method_9_code 182 = .ok (.iload 8, 2) := by decide +kernel
theorem d8_184 : decode prog_77_method_9_code 184 = .ok (.iconst (-1), 1) := by decide +kernel
theorem d8_185 : decode prog_77_method_9_code 185 = .ok (.if_icmp .ne 7, 3) := by decide +kernel
theorem d8_188 : decode prog_77_method_9_code 188 = .ok (.iconst 1, 1) := by decide +kernel
theorem d8_189 : decode prog_77_method_9_code 189 = .ok (.goto 4, 3) := by decide +kernel
theorem d8_192 : decode prog_77_method_9_code 192 = .ok (.iconst 0, 1) := by decide +kernel
theorem d8_193 : decode prog_77_method_9_code 193 = .ok (.istore_n 3, 1) := by decide +kernel
theorem d8_194 : decode prog_77_method_9_code 194 = .ok (.iload_n 3, 1) := by decide +kernel
theorem d8_195 : decode prog_77_method_9_code 195 = .ok (.ifCond .ne 14, 3) := by decide +kernel
theorem d8_198 : decode prog_77_method_9_code 198 = .ok (.iinc 2 1, 3) := by decide +kernel
theorem d8_201 : decode prog_77_method_9_code 201 = .ok (.aload_n 0, 1) := by decide +kernel
theorem d8_202 : decode prog_77_method_9_code 202 = .ok (.getfield 32, 3) := by decide +kernel
theorem d8_205 : decode prog_77_method_9_code 205 = .ok (.iload_n 2, 1) := by decide +kernel
theorem d8_206 : decode prog_77_method_9_code 206 = .ok (.iload 8, 2) := by decide +kernel
theorem d8_208 : decode prog_77_method_9_code 208 = .ok (.iastore, 1) := by decide +kernel
theorem d8_209 : decode prog_77_method_9_code 209 = .ok (.goto (-198), 3) := by decide +kernel
theorem d8_212 : decode prog_77_method_9_code 212 = .ok (.iload_n 2, 1) := by decide +kernel
theorem d8_213 : decode prog_77_method_9_code 213 = .ok (.istore 4, 2) := by decide +kernel
theorem d8_215 : decode prog_77_method_9_code 215 = .ok (.iload 4, 2) := by decide +kernel
theorem d8_217 : decode prog_77_method_9_code 217 = .ok (.ifCond .lt 27, 3) := by decide +kernel
theorem d8_220 : decode prog_77_method_9_code 220 = .ok (.aload_n 0, 1) := by decide +kernel
theorem d8_221 : decode prog_77_method_9_code 221 = .ok (.aload_n 0, 1) := by decide +kernel
theorem d8_222 : decode prog_77_method_9_code 222 = .ok (.getfield 32, 3) := by decide +kernel
theorem d8_225 : decode prog_77_method_9_code 225 = .ok (.iload 4, 2) := by decide +kernel
theorem d8_227 : decode prog_77_method_9_code 227 = .ok (.iaload, 1) := by decide +kernel
theorem d8_228 : decode prog_77_method_9_code 228 = .ok (.aload_n 0, 1) := by decide +kernel
theorem d8_229 : decode prog_77_method_9_code 229 = .ok (.getfield 35, 3) := by decide +kernel
theorem d8_232 : decode prog_77_method_9_code 232 = .ok (.iload 4, 2) := by decide +kernel
theorem d8_234 : decode prog_77_method_9_code 234 = .ok (.iaload, 1) := by decide +kernel
theorem d8_235 : decode prog_77_method_9_code 235 = .ok (.invokevirtual 82, 3) := by decide +kernel
theorem d8_238 : decode prog_77_method_9_code 238 = .ok (.iinc 4 (-1), 3) := by decide +kernel
theorem d8_241 : decode prog_77_method_9_code 241 = .ok (.goto (-26), 3) := by decide +kernel
theorem d8_244 : decode prog_77_method_9_code 244 = .ok (.iload_n 3, 1) := by decide +kernel
theorem d8_245 : decode prog_77_method_9_code 245 = .ok (.ireturn, 1) := by decide +kernel
theorem pd_8__I_I : parseMethodDescriptor "(I)I" = some ⟨[.int], some .int⟩ := by decide +kernel
theorem pd_8__II_V : parseMethodDescriptor "(II)V" = some ⟨[.int, .int], none⟩ := by decide +kernel
theorem pn_rm_augment : plainFor (⟨"com/example/document_pattern_rules/documentpatternrules/pattern/Pairing", "augment", "(I)Z"⟩ : MethodName) = true := by first | exact plainFor_of_name (by first | (simp [plainName, overriddenIn]; done) | decide +kernel) | exact Jvm.Free.JP.mathPlain rfl (by decide +kernel) | decide +kernel
theorem ef_rm_augment (m : MethodId) (x0 : Nat) (x1 : Int32) : entryFrame m #[(.ref x0), (.int x1)] 10 = mkF m 0 #[VR x0, VI x1, UU, UU, UU, UU, UU, UU, UU, UU] [] := by first | (simp [entryFrame, mkF, argsToLocals, Value.category]; done) | rfl
set_option maxRecDepth 65536 in
set_option maxHeartbeats 40000000 in
theorem rm_augment (l : Launch) (Z : State) (a0 : Array Value) (hw : ∀ d ∈ tables_1, d.before a0 Z = true) (ws : List Jvm.Cond) (A : Nat → Nat) (K : Nat → ClassId) (zr zc : Int32) (CA : Nat → Nat) (CK : Nat → ClassId) (CL : List (List Int32)) (u0 : own_S) (ru : Int32 × own_S) (ux : Int32) (h0 : Heap) (n0 : Nat) (Z0 : n0 ≤ h0.size) (P0 : own_PS Z h0 n0 A K zr zc CA CK CL u0) (hF : own_augment CL u0 ux = some ru) :
    MetFree l (⟨"com/example/document_pattern_rules/documentpatternrules/pattern/Pairing", "augment", "(I)Z"⟩ : MethodName) (head1 (Jvm.Cond.code (⟨"com/example/document_pattern_rules/documentpatternrules/pattern/Pairing", "augment", "(I)Z"⟩ : MethodName) prog_77_method_9_code 10 (some .boolean) :: ws) ({ frames := 4, cells := 0, slots := 0, locals := 66 } : Room)) (fun a U => a = #[(.ref (A 0)), (.int ux)] ∧ Z.Warmed39 U.vm ∧ U.heap = h0) (fun _ _ _ _ _ => True) (fun _ U o U' => ∃ v L, o = .returned v ∧ (own_QPr Z ru n0 A K zr zc CA CK CL) v U'.heap L ∧ FrameEnd U o U' L 0 0) := by
  refine MetFree.of_bodySF pn_rm_augment hisR ?_
  intro p e s m args below meth c s₁ Bd hml0 hP hK
  obtain ⟨rfl, hZ, hh⟩ := hP
  have hx := Bd.exec
  have hby := Bd.bytes
  have hml : c.maxLocals = 10 := hml0
  have hown : s.vm.findClass "com/example/document_pattern_rules/documentpatternrules/pattern/Pairing" = some m.cls := findClass_of_methodNamed Bd.named
  have hnm := (name_of_methodNamed Bd.named Bd.method).1
  have hrt := Bd.returns
  have hlk := Bd.notSynchronized
  have X0 : Stand p l e ({ frames := 4, cells := 0, slots := 0, locals := 66 } : Room) s m #[(.ref (A 0)), (.int ux)] below meth c s₁ [] 0 0 := Stand.of_body Bd
  have e0 : s₁.heap = h0 := by rw [← hh, Bd.state]; rfl
  have N0 := Fr.nil n0
  unfold own_augment at hF
  refine own_done (B := s₁.setTop (mkF m 0 #[VR (A 0), VI ux, UU, UU, UU, UU, UU, UU, UU, UU] [])) (fun t k => castTop (ef_rm_augment m (A 0) ux) k) ?_
  refine own_by (B := s₁.setTop (mkF m 1 #[VR (A 0), VI ux, UU, UU, UU, UU, UU, UU, UU, UU] [(.int 0)])) (fun _ k => XS.iconst X0.here hx rfl (hb hby d8_0) k) ?_
  refine own_by (B := s₁.setTop (mkF m 2 #[VR (A 0), VI ux, VI 0, UU, UU, UU, UU, UU, UU, UU] [])) (fun _ k => XS.istoreN X0.here hx rfl (hb hby d8_1) rfl (l' := #[VR (A 0), VI ux, VI 0, UU, UU, UU, UU, UU, UU, UU]) rfl k) ?_
  refine own_by (B := s₁.setTop (mkF m 3 #[VR (A 0), VI ux, VI 0, UU, UU, UU, UU, UU, UU, UU] [(.ref (A 0))])) (fun _ k => XS.aloadN X0.here hx rfl (hb hby d8_2) rfl rfl  k) ?_
  obtain ⟨T1, X1, e1, st1⟩ := getF X0 hx hZ hown (host := "") (Or.inl (own_hw 33 hw rfl)) Via.refl e0 (own_PS_f7 P0) (g := (mkF m 3 #[VR (A 0), VI ux, VI 0, UU, UU, UU, UU, UU, UU, UU] [(.ref (A 0))])) rfl rfl (hb hby d8_3)
  refine own_by (B := T1.setTop (mkF m 6 #[VR (A 0), VI ux, VI 0, UU, UU, UU, UU, UU, UU, UU] [(.ref (A 7))])) st1 ?_
  refine own_by (B := T1.setTop (mkF m 7 #[VR (A 0), VI ux, VI 0, UU, UU, UU, UU, UU, UU, UU] [(.int 0), (.ref (A 7))])) (fun _ k => XS.iconst X1.here hx rfl (hb hby d8_6) k) ?_
  refine own_by (B := T1.setTop (mkF m 8 #[VR (A 0), VI ux, VI 0, UU, UU, UU, UU, UU, UU, UU] [(.int ux), (.int 0), (.ref (A 7))])) (fun _ k => XS.iloadN X1.here hx rfl (hb hby d8_7) rfl  k) ?_
  obtain ⟨u2, hu2, hF⟩ := own_bind hF
  obtain ⟨zl2, hz2, hu2'⟩ := Option.map_eq_some_iff.mp hu2
  obtain ⟨T2, h2, X2, e2, W2, V2, st2⟩ := own_stI X1 hx hZ e1 (own_PS_v7 P0) hz2 (g := (mkF m 8 #[VR (A 0), VI ux, VI 0, UU, UU, UU, UU, UU, UU, UU] [(.int ux), (.int 0), (.ref (A 7))])) rfl rfl (hb hby d8_8)
  have P2 : own_PS Z h2 n0 A K zr zc CA CK CL u2 := hu2' ▸ own_w_pt P0 W2 V2
  have N2 := Fr.snoc X2 N0 (own_PS_gn P0).2.2.2.2.2.2.2.1
  refine own_by (B := T2.setTop (mkF m 9 #[VR (A 0), VI ux, VI 0, UU, UU, UU, UU, UU, UU, UU] [])) st2 ?_
  refine own_by (B := T2.setTop (mkF m 10 #[VR (A 0), VI ux, VI 0, UU, UU, UU, UU, UU, UU, UU] [(.int 0)])) (fun _ k => XS.iconst X2.here hx rfl (hb hby d8_9) k) ?_
  refine own_by (B := T2.setTop (mkF m 11 #[VR (A 0), VI ux, VI 0, VI 0, UU, UU, UU, UU, UU, UU] [])) (fun _ k => XS.istoreN X2.here hx rfl (hb hby d8_10) rfl (l' := #[VR (A 0), VI ux, VI 0, VI 0, UU, UU, UU, UU, UU, UU]) rfl k) ?_
  have hloop11 : ∀ (fuel : Nat) (v2 : Int32) (v3 : Int32) (uh3 : own_S) (q3 : Int32 × Int32 × own_S), own_augment_L11 CL fuel  v2 v3 uh3 = some q3 → ∀ (T1 : State) (lc1 : List Loc) (X1 : Stand p l e ({ frames := 4, cells := 0, slots := 0, locals := 66 } : Room) s m #[(.ref (A 0)), (.int ux)] below meth c T1 lc1 0 0) (N1 : Fr n0 lc1) (h1 : Heap) (e1 : T1.heap = h1) (P1 : own_PS Z h1 n0 A K zr zc CA CK CL uh3) (sl4 : Slot) (One_sl4 : One sl4) (sl5 : Slot) (One_sl5 : One sl5) (sl6 : Slot) (One_sl6 : One sl6) (sl7 : Slot) (One_sl7 : One sl7) (sl8 : Slot) (One_sl8 : One sl8) (sl9 : Slot) (One_sl9 : One sl9), (∀ (T2 : State) (lc2 : List Loc) (X2 : Stand p l e ({ frames := 4, cells := 0, slots := 0, locals := 66 } : Room) s m #[(.ref (A 0)), (.int ux)] below meth c T2 lc2 0 0) (N2 : Fr n0 lc2) (h2 : Heap) (e2 : T2.heap = h2) (P2 : own_PS Z h2 n0 A K zr zc CA CK CL (q3.2.2)) (sl4 : Slot) (One_sl4 : One sl4) (sl5 : Slot) (One_sl5 : One sl5) (sl6 : Slot) (One_sl6 : One sl6) (sl7 : Slot) (One_sl7 : One sl7) (sl8 : Slot) (One_sl8 : One sl8) (sl9 : Slot) (One_sl9 : One sl9), own_Go p.tables e below (own_K s below (own_QPr Z ru n0 A K zr zc CA CK CL) 0 0) (T2.setTop (mkF m 212 #[VR (A 0), VI ux, VI (q3.1), VI (q3.2.1), sl4, sl5, sl6, sl7, sl8, sl9] []))) → own_Go p.tables e below (own_K s below (own_QPr Z ru n0 A K zr zc CA CK CL) 0 0) (T1.setTop (mkF m 11 #[VR (A 0), VI ux, VI v2, VI v3, sl4, sl5, sl6, sl7, sl8, sl9] [])) := by
    intro fuel
    induction fuel with
    | zero => intro v2 v3 uh3 q3 hF; cases hF
    | succ fuel ih =>
      intro v2 v3 uh3 q3 hF T1 lc1 X1 N1 h1 e1 P1 sl4 One_sl4 sl5 One_sl5 sl6 One_sl6 sl7 One_sl7 sl8 One_sl8 sl9 One_sl9 kont
      rw [own_augment_L11] at hF
      refine own_by (B := T1.setTop (mkF m 12 #[VR (A 0), VI ux, VI v2, VI v3, sl4, sl5, sl6, sl7, sl8, sl9] [(.int v2)])) (fun _ k => XS.iloadN X1.here hx rfl (hb hby d8_11) rfl  k) ?_
      by_cases hc4 : v2 < (0 : Int32)
      · rw [if_pos hc4] at hF
        refine own_by (B := T1.setTop (mkF m 212 #[VR (A 0), VI ux, VI v2, VI v3, sl4, sl5, sl6, sl7, sl8, sl9] [])) (fun _ k => XS.ifYes X1.here hx rfl (pc0 := 12) (pc' := 212) rfl (hb hby d8_12) rfl (XT.i0_lt_t hc4) (by decide) (by decide) k) ?_
        obtain rfl := Option.some.inj hF
        exact kont _ _ X1 N1 _ e1 P1 (sl4) One_sl4 (sl5) One_sl5 (sl6) One_sl6 (sl7) One_sl7 (sl8) One_sl8 (sl9) One_sl9
      · rw [if_neg hc4] at hF
        refine own_by (B := T1.setTop (mkF m 15 #[VR (A 0), VI ux, VI v2, VI v3, sl4, sl5, sl6, sl7, sl8, sl9] [])) (fun _ k => XS.ifNo X1.here hx rfl (hb hby d8_12) rfl (XT.i0_lt_f hc4) k) ?_
        refine own_by (B := T1.setTop (mkF m 16 #[VR (A 0), VI ux, VI v2, VI v3, sl4, sl5, sl6, sl7, sl8, sl9] [(.int v3)])) (fun _ k => XS.iloadN X1.here hx rfl (hb hby d8_15) rfl  k) ?_
        by_cases hc5 : v3 = (0 : Int32)
        · rw [if_pos hc5] at hF
          refine own_by (B := T1.setTop (mkF m 19 #[VR (A 0), VI ux, VI v2, VI v3, sl4, sl5, sl6, sl7, sl8, sl9] [])) (fun _ k => XS.ifNo X1.here hx rfl (hb hby d8_16) rfl (XT.i0_ne_f hc5) k) ?_
          refine own_by (B := T1.setTop (mkF m 20 #[VR (A 0), VI ux, VI v2, VI v3, sl4, sl5, sl6, sl7, sl8, sl9] [(.ref (A 0))])) (fun _ k => XS.aloadN X1.here hx rfl (hb hby d8_19) rfl rfl  k) ?_
          obtain ⟨T6, X6, e6, st6⟩ := getF X1 hx hZ hown (host := "") (Or.inl (own_hw 21 hw rfl)) Via.refl e1 (own_PS_f2 P1) (g := (mkF m 20 #[VR (A 0), VI ux, VI v2, VI v3, sl4, sl5, sl6, sl7, sl8, sl9] [(.ref (A 0))])) rfl rfl (hb hby d8_20)
          refine own_by (B := T6.setTop (mkF m 23 #[VR (A 0), VI ux, VI v2, VI v3, sl4, sl5, sl6, sl7, sl8, sl9] [(.ref (A 2))])) st6 ?_
          refine own_by (B := T6.setTop (mkF m 24 #[VR (A 0), VI ux, VI v2, VI v3, sl4, sl5, sl6, sl7, sl8, sl9] [(.ref (A 0)), (.ref (A 2))])) (fun _ k => XS.aloadN X6.here hx rfl (hb hby d8_23) rfl rfl  k) ?_
          obtain ⟨T7, X7, e7, st7⟩ := getF X6 hx hZ hown (host := "") (Or.inl (own_hw 33 hw rfl)) Via.refl e6 (own_PS_f7 P1) (g := (mkF m 24 #[VR (A 0), VI ux, VI v2, VI v3, sl4, sl5, sl6, sl7, sl8, sl9] [(.ref (A 0)), (.ref (A 2))])) rfl rfl (hb hby d8_24)
          refine own_by (B := T7.setTop (mkF m 27 #[VR (A 0), VI ux, VI v2, VI v3, sl4, sl5, sl6, sl7, sl8, sl9] [(.ref (A 7)), (.ref (A 2))])) st7 ?_
          refine own_by (B := T7.setTop (mkF m 28 #[VR (A 0), VI ux, VI v2, VI v3, sl4, sl5, sl6, sl7, sl8, sl9] [(.int v2), (.ref (A 7)), (.ref (A 2))])) (fun _ k => XS.iloadN X7.here hx rfl (hb hby d8_27) rfl  k) ?_
          obtain ⟨w8, hw8, hF⟩ := own_bind hF
          refine own_by (B := T7.setTop (mkF m 29 #[VR (A 0), VI ux, VI v2, VI v3, sl4, sl5, sl6, sl7, sl8, sl9] [(.int w8), (.ref (A 2))])) (own_ldI X7 hx hZ e7 (own_PS_v7 P1) hw8 (g := (mkF m 28 #[VR (A 0), VI ux, VI v2, VI v3, sl4, sl5, sl6, sl7, sl8, sl9] [(.int v2), (.ref (A 7)), (.ref (A 2))])) rfl rfl (hb hby d8_28)) ?_
          obtain ⟨w9, hw9, hF⟩ := own_bind hF
          refine own_by (B := T7.setTop (mkF m 30 #[VR (A 0), VI ux, VI v2, VI v3, sl4, sl5, sl6, sl7, sl8, sl9] [(.int w9)])) (own_ldI X7 hx hZ e7 (own_PS_v2 P1) hw9 (g := (mkF m 29 #[VR (A 0), VI ux, VI v2, VI v3, sl4, sl5, sl6, sl7, sl8, sl9] [(.int w8), (.ref (A 2))])) rfl rfl (hb hby d8_29)) ?_
          refine own_by (B := T7.setTop (mkF m 32 #[VR (A 0), VI ux, VI v2, VI v3, VI w9, sl5, sl6, sl7, sl8, sl9] [])) (fun _ k => XS.istore X7.here hx rfl (hb hby d8_30) rfl (l' := #[VR (A 0), VI ux, VI v2, VI v3, VI w9, sl5, sl6, sl7, sl8, sl9]) (XS.store1 (o := sl4) rfl One_sl4 rfl) k) ?_
          refine own_by (B := T7.setTop (mkF m 33 #[VR (A 0), VI ux, VI v2, VI v3, VI w9, sl5, sl6, sl7, sl8, sl9] [(.ref (A 0))])) (fun _ k => XS.aloadN X7.here hx rfl (hb hby d8_32) rfl rfl  k) ?_
          obtain ⟨T10, X10, e10, st10⟩ := getF X7 hx hZ hown (host := "") (Or.inl (own_hw 19 hw rfl)) Via.refl e7 (own_PS_f1 P1) (g := (mkF m 33 #[VR (A 0), VI ux, VI v2, VI v3, VI w9, sl5, sl6, sl7, sl8, sl9] [(.ref (A 0))])) rfl rfl (hb hby d8_33)
          refine own_by (B := T10.setTop (mkF m 36 #[VR (A 0), VI ux, VI v2, VI v3, VI w9, sl5, sl6, sl7, sl8, sl9] [(.ref (A 1))])) st10 ?_
          refine own_by (B := T10.setTop (mkF m 38 #[VR (A 0), VI ux, VI v2, VI v3, VI w9, sl5, sl6, sl7, sl8, sl9] [(.int w9), (.ref (A 1))])) (fun _ k => XS.iload X10.here hx rfl (hb hby d8_36) rfl  k) ?_
          obtain ⟨i11, hi11, hF⟩ := own_bind hF
          obtain ⟨Lc11, hLc11, hF⟩ := own_bind hF
          refine own_by (B := T10.setTop (mkF m 39 #[VR (A 0), VI ux, VI v2, VI v3, VI w9, sl5, sl6, sl7, sl8, sl9] [(.ref (CA i11))])) (own_ldF X10 hx hZ e10 (own_PS_v1 P1) hi11 (g := (mkF m 38 #[VR (A 0), VI ux, VI v2, VI v3, VI w9, sl5, sl6, sl7, sl8, sl9] [(.int w9), (.ref (A 1))])) rfl rfl (hb hby d8_38)) ?_
          refine own_by (B := T10.setTop (mkF m 41 #[VR (A 0), VI ux, VI v2, VI v3, VI w9, VR (CA i11), sl6, sl7, sl8, sl9] [])) (fun _ k => XS.astore X10.here hx rfl (hb hby d8_39) rfl rfl (l' := #[VR (A 0), VI ux, VI v2, VI v3, VI w9, VR (CA i11), sl6, sl7, sl8, sl9]) (XS.store1 (o := sl5) rfl One_sl5 rfl) k) ?_
          refine own_by (B := T10.setTop (mkF m 42 #[VR (A 0), VI ux, VI v2, VI v3, VI w9, VR (CA i11), sl6, sl7, sl8, sl9] [(.ref (A 0))])) (fun _ k => XS.aloadN X10.here hx rfl (hb hby d8_41) rfl rfl  k) ?_
          refine own_by (B := T10.setTop (mkF m 44 #[VR (A 0), VI ux, VI v2, VI v3, VI w9, VR (CA i11), sl6, sl7, sl8, sl9] [(.int w9), (.ref (A 0))])) (fun _ k => XS.iload X10.here hx rfl (hb hby d8_42) rfl  k) ?_
          obtain ⟨q12, hq12, hF⟩ := own_bind hF
          obtain ⟨cq13, qa13, qc13⟩ := Exa.cell (own_PS_E P1)
          obtain ⟨_, _, ⟨T13, L13, k13, n13⟩, -, X13, ⟨Lc13, hQ13, l13, y13, z13⟩, st13⟩ := X10.privateBack hx (y := (⟨"com/example/document_pattern_rules/documentpatternrules/pattern/Pairing", "nextColumn", "(I)I"⟩ : MethodName)) hown (mvT hZ (own_hw 68 hw rfl)) (mvT hZ (own_hw 69 hw rfl)) (mvT hZ (own_selpriv (y := (⟨"com/example/document_pattern_rules/documentpatternrules/pattern/Pairing", "nextColumn", "(I)I"⟩ : MethodName)) (own_hw 9 hw rfl) (own_hw 70 hw rfl) (own_hw 69 hw rfl) (by decide))) (Cond.privateMethod_at (mvP hZ (own_hw 70 hw rfl) (args := #[]))) (mvT hZ (own_hw 71 hw rfl)) (by decide) (backOf (W := 0) (rm_nextColumn l Z a0 hw [] A K zr zc CA CK CL uh3 _ w9 h1 n0 (Nat.le_trans (own_PS_gn P1).1 (Nat.le_of_lt (own_PS_E P1).lt)) P1 hq12) hZ (own_hw 71 hw rfl) (own_hw 10 hw rfl) (by decide) (by decide)) (g := (mkF m 44 #[VR (A 0), VI ux, VI v2, VI v3, VI w9, VR (CA i11), sl6, sl7, sl8, sl9] [(.int w9), (.ref (A 0))])) rfl (by rw [hml]; rfl) (Steps.refl _) (a := (A 0)) (by rw [e10]; exact qa13) qc13 (argsL := [(.int w9)]) (rest := []) (lenOf pd_8__I_I rfl) rfl (by show 2 * 0 + _ ≤ _; exact Nat.le_of_eq rfl) (hb hby d8_44) (fun _ _ => ⟨rfl, e10, (by decide : 0 + 0 ≤ _), (by decide : 0 + 0 ≤ _)⟩)
          dsimp only [Pt.U, Pt.locs, Pt.cells, Pt.slots] at X13 l13 y13 z13 st13 hQ13
          subst l13 y13 z13
          obtain ⟨rfl, NC13, PC13⟩ := hQ13
          refine own_by (B := T13.setTop (mkF m 47 #[VR (A 0), VI ux, VI v2, VI v3, VI w9, VR (CA i11), sl6, sl7, sl8, sl9] [(.int (q12.1))])) (fun _ k => st13.trans k) ?_
          obtain ⟨h13, e13⟩ : ∃ z, T13.heap = z := ⟨_, rfl⟩
          rw [e13] at PC13
          have N13 := Fr.app N1 NC13
          refine own_by (B := T13.setTop (mkF m 49 #[VR (A 0), VI ux, VI v2, VI v3, VI w9, VR (CA i11), VI (q12.1), sl7, sl8, sl9] [])) (fun _ k => XS.istore X13.here hx rfl (hb hby d8_47) rfl (l' := #[VR (A 0), VI ux, VI v2, VI v3, VI w9, VR (CA i11), VI (q12.1), sl7, sl8, sl9]) (XS.store1 (o := sl6) rfl One_sl6 rfl) k) ?_
          refine own_by (B := T13.setTop (mkF m 50 #[VR (A 0), VI ux, VI v2, VI v3, VI w9, VR (CA i11), VI (q12.1), sl7, sl8, sl9] [(.int (-1 : Int32))])) (fun _ k => XS.iconst X13.here hx rfl (hb hby d8_49) k) ?_
          refine own_by (B := T13.setTop (mkF m 52 #[VR (A 0), VI ux, VI v2, VI v3, VI w9, VR (CA i11), VI (q12.1), VI (-1 : Int32), sl8, sl9] [])) (fun _ k => XS.istore X13.here hx rfl (hb hby d8_50) rfl (l' := #[VR (A 0), VI ux, VI v2, VI v3, VI w9, VR (CA i11), VI (q12.1), VI (-1 : Int32), sl8, sl9]) (XS.store1 (o := sl7) rfl One_sl7 rfl) k) ?_
          refine own_by (B := T13.setTop (mkF m 53 #[VR (A 0), VI ux, VI v2, VI v3, VI w9, VR (CA i11), VI (q12.1), VI (-1 : Int32), sl8, sl9] [(.int (-1 : Int32))])) (fun _ k => XS.iconst X13.here hx rfl (hb hby d8_52) k) ?_
          refine own_by (B := T13.setTop (mkF m 55 #[VR (A 0), VI ux, VI v2, VI v3, VI w9, VR (CA i11), VI (q12.1), VI (-1 : Int32), VI (-1 : Int32), sl9] [])) (fun _ k => XS.istore X13.here hx rfl (hb hby d8_53) rfl (l' := #[VR (A 0), VI ux, VI v2, VI v3, VI w9, VR (CA i11), VI (q12.1), VI (-1 : Int32), VI (-1 : Int32), sl9]) (XS.store1 (o := sl8) rfl One_sl8 rfl) k) ?_
          have hloop55 : ∀ (fuel : Nat) (v6 : Int32) (v7 : Int32) (v8 : Int32) (uh14 : own_S) (q14 : Int32 × Int32 × Int32 × own_S), own_augment_L55 CL fuel w9 Lc11 v6 v7 v8 uh14 = some q14 → ∀ (T1 : State) (lc1 : List Loc) (X1 : Stand p l e ({ frames := 4, cells := 0, slots := 0, locals := 66 } : Room) s m #[(.ref (A 0)), (.int ux)] below meth c T1 lc1 0 0) (N1 : Fr n0 lc1) (h1 : Heap) (e1 : T1.heap = h1) (P1 : own_PS Z h1 n0 A K zr zc CA CK CL uh14) (sl9 : Slot) (One_sl9 : One sl9), (∀ (T2 : State) (lc2 : List Loc) (X2 : Stand p l e ({ frames := 4, cells := 0, slots := 0, locals := 66 } : Room) s m #[(.ref (A 0)), (.int ux)] below meth c T2 lc2 0 0) (N2 : Fr n0 lc2) (h2 : Heap) (e2 : T2.heap = h2) (P2 : own_PS Z h2 n0 A K zr zc CA CK CL (q14.2.2.2)) (sl9 : Slot) (One_sl9 : One sl9), own_Go p.tables e below (own_K s below (own_QPr Z ru n0 A K zr zc CA CK CL) 0 0) (T2.setTop (mkF m 153 #[VR (A 0), VI ux, VI v2, VI v3, VI w9, VR (CA i11), VI (q14.1), VI (q14.2.1), VI (q14.2.2.1), sl9] []))) → own_Go p.tables e below (own_K s below (own_QPr Z ru n0 A K zr zc CA CK CL) 0 0) (T1.setTop (mkF m 55 #[VR (A 0), VI ux, VI v2, VI v3, VI w9, VR (CA i11), VI v6, VI v7, VI v8, sl9] [])) := by
            intro fuel
            induction fuel with
            | zero => intro v6 v7 v8 uh14 q14 hF; cases hF
            | succ fuel ih =>
              intro v6 v7 v8 uh14 q14 hF T1 lc1 X1 N1 h1 e1 P1 sl9 One_sl9 kont
              rw [own_augment_L55] at hF
              refine own_by (B := T1.setTop (mkF m 57 #[VR (A 0), VI ux, VI v2, VI v3, VI w9, VR (CA i11), VI v6, VI v7, VI v8, sl9] [(.int v7)])) (fun _ k => XS.iload X1.here hx rfl (hb hby d8_55) rfl  k) ?_
              refine own_by (B := T1.setTop (mkF m 58 #[VR (A 0), VI ux, VI v2, VI v3, VI w9, VR (CA i11), VI v6, VI v7, VI v8, sl9] [(.int (-1 : Int32)), (.int v7)])) (fun _ k => XS.iconst X1.here hx rfl (hb hby d8_57) k) ?_
              by_cases hc15 : v7 = (-1 : Int32)
              · rw [if_pos hc15] at hF
                refine own_by (B := T1.setTop (mkF m 61 #[VR (A 0), VI ux, VI v2, VI v3, VI w9, VR (CA i11), VI v6, VI v7, VI v8, sl9] [])) (fun _ k => XS.icmpNo X1.here hx rfl (hb hby d8_58) rfl (XT.ii_ne_f hc15) k) ?_
                refine own_by (B := T1.setTop (mkF m 63 #[VR (A 0), VI ux, VI v2, VI v3, VI w9, VR (CA i11), VI v6, VI v7, VI v8, sl9] [(.int v6)])) (fun _ k => XS.iload X1.here hx rfl (hb hby d8_61) rfl  k) ?_
                refine own_by (B := T1.setTop (mkF m 65 #[VR (A 0), VI ux, VI v2, VI v3, VI w9, VR (CA i11), VI v6, VI v7, VI v8, sl9] [(.ref (CA i11)), (.int v6)])) (fun _ k => XS.aload X1.here hx rfl (hb hby d8_63) rfl rfl  k) ?_
                refine own_by (B := T1.setTop (mkF m 66 #[VR (A 0), VI ux, VI v2, VI v3, VI w9, VR (CA i11), VI v6, VI v7, VI v8, sl9] [(.int (Int32.ofNat Lc11.length)), (.int v6)])) (own_lenI X1 hx hZ e1 ((own_PS_cc P1) _ _ hLc11).1 (g := (mkF m 65 #[VR (A 0), VI ux, VI v2, VI v3, VI w9, VR (CA i11), VI v6, VI v7, VI v8, sl9] [(.ref (CA i11)), (.int v6)])) rfl rfl (hb hby d8_65)) ?_
                by_cases hc16 : v6 < (Int32.ofNat Lc11.length)
                · rw [if_pos hc16] at hF
                  refine own_by (B := T1.setTop (mkF m 69 #[VR (A 0), VI ux, VI v2, VI v3, VI w9, VR (CA i11), VI v6, VI v7, VI v8, sl9] [])) (fun _ k => XS.icmpNo X1.here hx rfl (hb hby d8_66) rfl (XT.ii_ge_f hc16) k) ?_
                  refine own_by (B := T1.setTop (mkF m 71 #[VR (A 0), VI ux, VI v2, VI v3, VI w9, VR (CA i11), VI v6, VI v7, VI v8, sl9] [(.ref (CA i11))])) (fun _ k => XS.aload X1.here hx rfl (hb hby d8_69) rfl rfl  k) ?_
                  refine own_by (B := T1.setTop (mkF m 73 #[VR (A 0), VI ux, VI v2, VI v3, VI w9, VR (CA i11), VI v6, VI v7, VI v8, sl9] [(.int v6), (.ref (CA i11))])) (fun _ k => XS.iload X1.here hx rfl (hb hby d8_71) rfl  k) ?_
                  refine own_by (B := T1.setTop (mkF m 76 #[VR (A 0), VI ux, VI v2, VI v3, VI w9, VR (CA i11), VI (v6 + (1 : Int32)), VI v7, VI v8, sl9] [(.int v6), (.ref (CA i11))])) (fun _ k => XS.iinc X1.here hx rfl (hb hby d8_73) rfl (l' := #[VR (A 0), VI ux, VI v2, VI v3, VI w9, VR (CA i11), VI (v6 + (1 : Int32)), VI v7, VI v8, sl9]) rfl k) ?_
                  obtain ⟨w17, hw17, hF⟩ := own_bind hF
                  refine own_by (B := T1.setTop (mkF m 77 #[VR (A 0), VI ux, VI v2, VI v3, VI w9, VR (CA i11), VI (v6 + (1 : Int32)), VI v7, VI v8, sl9] [(.int w17)])) (own_ldI X1 hx hZ e1 ((own_PS_cc P1) _ _ hLc11).1 hw17 (g := (mkF m 76 #[VR (A 0), VI ux, VI v2, VI v3, VI w9, VR (CA i11), VI (v6 + (1 : Int32)), VI v7, VI v8, sl9] [(.int v6), (.ref (CA i11))])) rfl rfl (hb hby d8_76)) ?_
                  refine own_by (B := T1.setTop (mkF m 79 #[VR (A 0), VI ux, VI v2, VI v3, VI w9, VR (CA i11), VI (v6 + (1 : Int32)), VI v7, VI v8, VI w17] [])) (fun _ k => XS.istore X1.here hx rfl (hb hby d8_77) rfl (l' := #[VR (A 0), VI ux, VI v2, VI v3, VI w9, VR (CA i11), VI (v6 + (1 : Int32)), VI v7, VI v8, VI w17]) (XS.store1 (o := sl9) rfl One_sl9 rfl) k) ?_
                  refine own_by (B := T1.setTop (mkF m 80 #[VR (A 0), VI ux, VI v2, VI v3, VI w9, VR (CA i11), VI (v6 + (1 : Int32)), VI v7, VI v8, VI w17] [(.ref (A 0))])) (fun _ k => XS.aloadN X1.here hx rfl (hb hby d8_79) rfl rfl  k) ?_
                  obtain ⟨T18, X18, e18, st18⟩ := getF X1 hx hZ hown (host := "") (Or.inl (own_hw 31 hw rfl)) Via.refl e1 (own_PS_f6 P1) (g := (mkF m 80 #[VR (A 0), VI ux, VI v2, VI v3, VI w9, VR (CA i11), VI (v6 + (1 : Int32)), VI v7, VI v8, VI w17] [(.ref (A 0))])) rfl rfl (hb hby d8_80)
                  refine own_by (B := T18.setTop (mkF m 83 #[VR (A 0), VI ux, VI v2, VI v3, VI w9, VR (CA i11), VI (v6 + (1 : Int32)), VI v7, VI v8, VI w17] [(.ref (A 6))])) st18 ?_
                  refine own_by (B := T18.setTop (mkF m 85 #[VR (A 0), VI ux, VI v2, VI v3, VI w9, VR (CA i11), VI (v6 + (1 : Int32)), VI v7, VI v8, VI w17] [(.int w17), (.ref (A 6))])) (fun _ k => XS.iload X18.here hx rfl (hb hby d8_83) rfl  k) ?_
                  obtain ⟨w19, hw19, hF⟩ := own_bind hF
                  refine own_by (B := T18.setTop (mkF m 86 #[VR (A 0), VI ux, VI v2, VI v3, VI w9, VR (CA i11), VI (v6 + (1 : Int32)), VI v7, VI v8, VI w17] [(.long w19)])) (own_ldJ X18 hx hZ e18 (own_PS_v6 P1) hw19 (g := (mkF m 85 #[VR (A 0), VI ux, VI v2, VI v3, VI w9, VR (CA i11), VI (v6 + (1 : Int32)), VI v7, VI v8, VI w17] [(.int w17), (.ref (A 6))])) rfl rfl (hb hby d8_85)) ?_
                  refine own_by (B := T18.setTop (mkF m 87 #[VR (A 0), VI ux, VI v2, VI v3, VI w9, VR (CA i11), VI (v6 + (1 : Int32)), VI v7, VI v8, VI w17] [(.ref (A 0)), (.long w19)])) (fun _ k => XS.aloadN X18.here hx rfl (hb hby d8_86) rfl rfl  k) ?_
                  obtain ⟨T20, X20, e20, st20⟩ := getF X18 hx hZ hown (host := "") (Or.inl (own_hw 62 hw rfl)) Via.refl e18 (own_PS_fse P1) (g := (mkF m 87 #[VR (A 0), VI ux, VI v2, VI v3, VI w9, VR (CA i11), VI (v6 + (1 : Int32)), VI v7, VI v8, VI w17] [(.ref (A 0)), (.long w19)])) rfl rfl (hb hby d8_87)
                  refine own_by (B := T20.setTop (mkF m 90 #[VR (A 0), VI ux, VI v2, VI v3, VI w9, VR (CA i11), VI (v6 + (1 : Int32)), VI v7, VI v8, VI w17] [(.long (own_se uh14)), (.long w19)])) st20 ?_
                  refine own_by (B := T20.setTop (mkF m 91 #[VR (A 0), VI ux, VI v2, VI v3, VI w9, VR (CA i11), VI (v6 + (1 : Int32)), VI v7, VI v8, VI w17] [(.int (XT.cmpL w19 (own_se uh14)))])) (fun _ k => XT.lcmp X20.here hx rfl (hb hby d8_90) rfl k) ?_
                  by_cases hc21 : w19 = (own_se uh14)
                  · rw [if_pos hc21] at hF
                    refine own_by (B := T20.setTop (mkF m 150 #[VR (A 0), VI ux, VI v2, VI v3, VI w9, VR (CA i11), VI (v6 + (1 : Int32)), VI v7, VI v8, VI w17] [])) (fun _ k => XS.ifYes X20.here hx rfl (pc0 := 91) (pc' := 150) rfl (hb hby d8_91) rfl (XT.ll_eq_t hc21) (by decide) (by decide) k) ?_
                    refine own_by (B := T20.setTop (mkF m 55 #[VR (A 0), VI ux, VI v2, VI v3, VI w9, VR (CA i11), VI (v6 + (1 : Int32)), VI v7, VI v8, VI w17] [])) (fun _ k => XS.goto X20.here hx rfl (pc0 := 150) (pc' := 55) rfl (hb hby d8_150) (by decide) (by decide) k) ?_
                    exact ih (v6 + (1 : Int32)) v7 v8 uh14 _ hF _ _ X20 N1 _ e20 P1 (.val (.int w17)) (One.val rfl) kont
                  · rw [if_neg hc21] at hF
                    refine own_by (B := T20.setTop (mkF m 94 #[VR (A 0), VI ux, VI v2, VI v3, VI w9, VR (CA i11), VI (v6 + (1 : Int32)), VI v7, VI v8, VI w17] [])) (fun _ k => XS.ifNo X20.here hx rfl (hb hby d8_91) rfl (XT.ll_eq_f hc21) k) ?_
                    refine own_by (B := T20.setTop (mkF m 95 #[VR (A 0), VI ux, VI v2, VI v3, VI w9, VR (CA i11), VI (v6 + (1 : Int32)), VI v7, VI v8, VI w17] [(.ref (A 0))])) (fun _ k => XS.aloadN X20.here hx rfl (hb hby d8_94) rfl rfl  k) ?_
                    obtain ⟨T22, X22, e22, st22⟩ := getF X20 hx hZ hown (host := "") (Or.inl (own_hw 31 hw rfl)) Via.refl e20 (own_PS_f6 P1) (g := (mkF m 95 #[VR (A 0), VI ux, VI v2, VI v3, VI w9, VR (CA i11), VI (v6 + (1 : Int32)), VI v7, VI v8, VI w17] [(.ref (A 0))])) rfl rfl (hb hby d8_95)
                    refine own_by (B := T22.setTop (mkF m 98 #[VR (A 0), VI ux, VI v2, VI v3, VI w9, VR (CA i11), VI (v6 + (1 : Int32)), VI v7, VI v8, VI w17] [(.ref (A 6))])) st22 ?_
                    refine own_by (B := T22.setTop (mkF m 100 #[VR (A 0), VI ux, VI v2, VI v3, VI w9, VR (CA i11), VI (v6 + (1 : Int32)), VI v7, VI v8, VI w17] [(.int w17), (.ref (A 6))])) (fun _ k => XS.iload X22.here hx rfl (hb hby d8_98) rfl  k) ?_
                    refine own_by (B := T22.setTop (mkF m 101 #[VR (A 0), VI ux, VI v2, VI v3, VI w9, VR (CA i11), VI (v6 + (1 : Int32)), VI v7, VI v8, VI w17] [(.ref (A 0)), (.int w17), (.ref (A 6))])) (fun _ k => XS.aloadN X22.here hx rfl (hb hby d8_100) rfl rfl  k) ?_
                    obtain ⟨T23, X23, e23, st23⟩ := getF X22 hx hZ hown (host := "") (Or.inl (own_hw 62 hw rfl)) Via.refl e22 (own_PS_fse P1) (g := (mkF m 101 #[VR (A 0), VI ux, VI v2, VI v3, VI w9, VR (CA i11), VI (v6 + (1 : Int32)), VI v7, VI v8, VI w17] [(.ref (A 0)), (.int w17), (.ref (A 6))])) rfl rfl (hb hby d8_101)
                    refine own_by (B := T23.setTop (mkF m 104 #[VR (A 0), VI ux, VI v2, VI v3, VI w9, VR (CA i11), VI (v6 + (1 : Int32)), VI v7, VI v8, VI w17] [(.long (own_se uh14)), (.int w17), (.ref (A 6))])) st23 ?_
                    obtain ⟨u24, hu24, hF⟩ := own_bind hF
                    obtain ⟨zl24, hz24, hu24'⟩ := Option.map_eq_some_iff.mp hu24
                    obtain ⟨T24, h24, X24, e24, W24, V24, st24⟩ := own_stJ X23 hx hZ e23 (own_PS_v6 P1) hz24 (g := (mkF m 104 #[VR (A 0), VI ux, VI v2, VI v3, VI w9, VR (CA i11), VI (v6 + (1 : Int32)), VI v7, VI v8, VI w17] [(.long (own_se uh14)), (.int w17), (.ref (A 6))])) rfl rfl (hb hby d8_104)
                    have P24 : own_PS Z h24 n0 A K zr zc CA CK CL u24 := hu24' ▸ own_w_vi P1 W24 V24
                    have N24 := Fr.snoc X24 N1 (own_PS_gn P1).2.2.2.2.2.2.1
                    refine own_by (B := T24.setTop (mkF m 105 #[VR (A 0), VI ux, VI v2, VI v3, VI w9, VR (CA i11), VI (v6 + (1 : Int32)), VI v7, VI v8, VI w17] [])) st24 ?_
                    refine own_by (B := T24.setTop (mkF m 106 #[VR (A 0), VI ux, VI v2, VI v3, VI w9, VR (CA i11), VI (v6 + (1 : Int32)), VI v7, VI v8, VI w17] [(.ref (A 0))])) (fun _ k => XS.aloadN X24.here hx rfl (hb hby d8_105) rfl rfl  k) ?_
                    obtain ⟨T25, X25, e25, st25⟩ := getF X24 hx hZ hown (host := "") (Or.inl (own_hw 25 hw rfl)) Via.refl e24 (own_PS_f4 P24) (g := (mkF m 106 #[VR (A 0), VI ux, VI v2, VI v3, VI w9, VR (CA i11), VI (v6 + (1 : Int32)), VI v7, VI v8, VI w17] [(.ref (A 0))])) rfl rfl (hb hby d8_106)
                    refine own_by (B := T25.setTop (mkF m 109 #[VR (A 0), VI ux, VI v2, VI v3, VI w9, VR (CA i11), VI (v6 + (1 : Int32)), VI v7, VI v8, VI w17] [(.ref (A 4))])) st25 ?_
                    refine own_by (B := T25.setTop (mkF m 111 #[VR (A 0), VI ux, VI v2, VI v3, VI w9, VR (CA i11), VI (v6 + (1 : Int32)), VI v7, VI v8, VI w17] [(.int w17), (.ref (A 4))])) (fun _ k => XS.iload X25.here hx rfl (hb hby d8_109) rfl  k) ?_
                    obtain ⟨w26, hw26, hF⟩ := own_bind hF
                    refine own_by (B := T25.setTop (mkF m 112 #[VR (A 0), VI ux, VI v2, VI v3, VI w9, VR (CA i11), VI (v6 + (1 : Int32)), VI v7, VI v8, VI w17] [(.int w26)])) (own_ldI X25 hx hZ e25 (own_PS_v4 P24) hw26 (g := (mkF m 111 #[VR (A 0), VI ux, VI v2, VI v3, VI w9, VR (CA i11), VI (v6 + (1 : Int32)), VI v7, VI v8, VI w17] [(.int w17), (.ref (A 4))])) rfl rfl (hb hby d8_111)) ?_
                    refine own_by (B := T25.setTop (mkF m 114 #[VR (A 0), VI ux, VI v2, VI v3, VI w9, VR (CA i11), VI (v6 + (1 : Int32)), VI v7, VI w26, VI w17] [])) (fun _ k => XS.istore X25.here hx rfl (hb hby d8_112) rfl (l' := #[VR (A 0), VI ux, VI v2, VI v3, VI w9, VR (CA i11), VI (v6 + (1 : Int32)), VI v7, VI w26, VI w17]) rfl k) ?_
                    refine own_by (B := T25.setTop (mkF m 116 #[VR (A 0), VI ux, VI v2, VI v3, VI w9, VR (CA i11), VI (v6 + (1 : Int32)), VI v7, VI w26, VI w17] [(.int w26)])) (fun _ k => XS.iload X25.here hx rfl (hb hby d8_114) rfl  k) ?_
                    refine own_by (B := T25.setTop (mkF m 117 #[VR (A 0), VI ux, VI v2, VI v3, VI w9, VR (CA i11), VI (v6 + (1 : Int32)), VI v7, VI w26, VI w17] [(.int (-1 : Int32)), (.int w26)])) (fun _ k => XS.iconst X25.here hx rfl (hb hby d8_116) k) ?_
                    by_cases hc27 : w26 = (-1 : Int32)
                    · rw [if_pos hc27] at hF
                      refine own_by (B := T25.setTop (mkF m 142 #[VR (A 0), VI ux, VI v2, VI v3, VI w9, VR (CA i11), VI (v6 + (1 : Int32)), VI v7, VI w26, VI w17] [])) (fun _ k => XS.icmpYes X25.here hx rfl (pc0 := 117) (pc' := 142) rfl (hb hby d8_117) rfl (XT.ii_eq_t hc27) (by decide) (by decide) k) ?_
                      refine own_by (B := T25.setTop (mkF m 144 #[VR (A 0), VI ux, VI v2, VI v3, VI w9, VR (CA i11), VI (v6 + (1 : Int32)), VI v7, VI w26, VI w17] [(.int w17)])) (fun _ k => XS.iload X25.here hx rfl (hb hby d8_142) rfl  k) ?_
                      refine own_by (B := T25.setTop (mkF m 148 #[VR (A 0), VI ux, VI v2, VI v3, VI w9, VR (CA i11), VI (v6 + (1 : Int32)), VI v7, VI w26, VI w17] [(.int w17)])) (fun _ k => XS.goto X25.here hx rfl (pc0 := 144) (pc' := 148) rfl (hb hby d8_144) (by decide) (by decide) k) ?_
                      refine own_by (B := T25.setTop (mkF m 150 #[VR (A 0), VI ux, VI v2, VI v3, VI w9, VR (CA i11), VI (v6 + (1 : Int32)), VI w17, VI w26, VI w17] [])) (fun _ k => XS.istore X25.here hx rfl (hb hby d8_148) rfl (l' := #[VR (A 0), VI ux, VI v2, VI v3, VI w9, VR (CA i11), VI (v6 + (1 : Int32)), VI w17, VI w26, VI w17]) rfl k) ?_
                      refine own_by (B := T25.setTop (mkF m 55 #[VR (A 0), VI ux, VI v2, VI v3, VI w9, VR (CA i11), VI (v6 + (1 : Int32)), VI w17, VI w26, VI w17] [])) (fun _ k => XS.goto X25.here hx rfl (pc0 := 150) (pc' := 55) rfl (hb hby d8_150) (by decide) (by decide) k) ?_
                      exact ih (v6 + (1 : Int32)) w17 w26 u24 _ hF _ _ X25 N24 _ e25 P24 (.val (.int w17)) (One.val rfl) kont
                    · rw [if_neg hc27] at hF
                      refine own_by (B := T25.setTop (mkF m 120 #[VR (A 0), VI ux, VI v2, VI v3, VI w9, VR (CA i11), VI (v6 + (1 : Int32)), VI v7, VI w26, VI w17] [])) (fun _ k => XS.icmpNo X25.here hx rfl (hb hby d8_117) rfl (XT.ii_eq_f hc27) k) ?_
                      refine own_by (B := T25.setTop (mkF m 121 #[VR (A 0), VI ux, VI v2, VI v3, VI w9, VR (CA i11), VI (v6 + (1 : Int32)), VI v7, VI w26, VI w17] [(.ref (A 0))])) (fun _ k => XS.aloadN X25.here hx rfl (hb hby d8_120) rfl rfl  k) ?_
                      obtain ⟨T28, X28, e28, st28⟩ := getF X25 hx hZ hown (host := "") (Or.inl (own_hw 28 hw rfl)) Via.refl e25 (own_PS_f5 P24) (g := (mkF m 121 #[VR (A 0), VI ux, VI v2, VI v3, VI w9, VR (CA i11), VI (v6 + (1 : Int32)), VI v7, VI w26, VI w17] [(.ref (A 0))])) rfl rfl (hb hby d8_121)
                      refine own_by (B := T28.setTop (mkF m 124 #[VR (A 0), VI ux, VI v2, VI v3, VI w9, VR (CA i11), VI (v6 + (1 : Int32)), VI v7, VI w26, VI w17] [(.ref (A 5))])) st28 ?_
                      refine own_by (B := T28.setTop (mkF m 126 #[VR (A 0), VI ux, VI v2, VI v3, VI w9, VR (CA i11), VI (v6 + (1 : Int32)), VI v7, VI w26, VI w17] [(.int w26), (.ref (A 5))])) (fun _ k => XS.iload X28.here hx rfl (hb hby d8_124) rfl  k) ?_
                      obtain ⟨w29, hw29, hF⟩ := own_bind hF
                      refine own_by (B := T28.setTop (mkF m 127 #[VR (A 0), VI ux, VI v2, VI v3, VI w9, VR (CA i11), VI (v6 + (1 : Int32)), VI v7, VI w26, VI w17] [(.int w29)])) (own_ldZ X28 hx hZ e28 (own_PS_v5 P24) hw29 (g := (mkF m 126 #[VR (A 0), VI ux, VI v2, VI v3, VI w9, VR (CA i11), VI (v6 + (1 : Int32)), VI v7, VI w26, VI w17] [(.int w26), (.ref (A 5))])) rfl rfl (hb hby d8_126)) ?_
                      by_cases hc30 : w29 = (0 : Int32)
                      · rw [if_pos hc30] at hF
                        refine own_by (B := T28.setTop (mkF m 130 #[VR (A 0), VI ux, VI v2, VI v3, VI w9, VR (CA i11), VI (v6 + (1 : Int32)), VI v7, VI w26, VI w17] [])) (fun _ k => XS.ifNo X28.here hx rfl (hb hby d8_127) rfl (XT.i0_ne_f hc30) k) ?_
                        refine own_by (B := T28.setTop (mkF m 131 #[VR (A 0), VI ux, VI v2, VI v3, VI w9, VR (CA i11), VI (v6 + (1 : Int32)), VI v7, VI w26, VI w17] [(.ref (A 0))])) (fun _ k => XS.aloadN X28.here hx rfl (hb hby d8_130) rfl rfl  k) ?_
                        obtain ⟨T31, X31, e31, st31⟩ := getF X28 hx hZ hown (host := "") (Or.inl (own_hw 21 hw rfl)) Via.refl e28 (own_PS_f2 P24) (g := (mkF m 131 #[VR (A 0), VI ux, VI v2, VI v3, VI w9, VR (CA i11), VI (v6 + (1 : Int32)), VI v7, VI w26, VI w17] [(.ref (A 0))])) rfl rfl (hb hby d8_131)
                        refine own_by (B := T31.setTop (mkF m 134 #[VR (A 0), VI ux, VI v2, VI v3, VI w9, VR (CA i11), VI (v6 + (1 : Int32)), VI v7, VI w26, VI w17] [(.ref (A 2))])) st31 ?_
                        refine own_by (B := T31.setTop (mkF m 136 #[VR (A 0), VI ux, VI v2, VI v3, VI w9, VR (CA i11), VI (v6 + (1 : Int32)), VI v7, VI w26, VI w17] [(.int w26), (.ref (A 2))])) (fun _ k => XS.iload X31.here hx rfl (hb hby d8_134) rfl  k) ?_
                        obtain ⟨w32, hw32, hF⟩ := own_bind hF
                        refine own_by (B := T31.setTop (mkF m 137 #[VR (A 0), VI ux, VI v2, VI v3, VI w9, VR (CA i11), VI (v6 + (1 : Int32)), VI v7, VI w26, VI w17] [(.int w32)])) (own_ldI X31 hx hZ e31 (own_PS_v2 P24) hw32 (g := (mkF m 136 #[VR (A 0), VI ux, VI v2, VI v3, VI w9, VR (CA i11), VI (v6 + (1 : Int32)), VI v7, VI w26, VI w17] [(.int w26), (.ref (A 2))])) rfl rfl (hb hby d8_136)) ?_
                        refine own_by (B := T31.setTop (mkF m 139 #[VR (A 0), VI ux, VI v2, VI v3, VI w9, VR (CA i11), VI (v6 + (1 : Int32)), VI v7, VI w26, VI w17] [(.int w9), (.int w32)])) (fun _ k => XS.iload X31.here hx rfl (hb hby d8_137) rfl  k) ?_
                        by_cases hc33 : w32 = w9
                        · rw [if_pos hc33] at hF
                          refine own_by (B := T31.setTop (mkF m 147 #[VR (A 0), VI ux, VI v2, VI v3, VI w9, VR (CA i11), VI (v6 + (1 : Int32)), VI v7, VI w26, VI w17] [])) (fun _ k => XS.icmpYes X31.here hx rfl (pc0 := 139) (pc' := 147) rfl (hb hby d8_139) rfl (XT.ii_eq_t hc33) (by decide) (by decide) k) ?_
                          refine own_by (B := T31.setTop (mkF m 148 #[VR (A 0), VI ux, VI v2, VI v3, VI w9, VR (CA i11), VI (v6 + (1 : Int32)), VI v7, VI w26, VI w17] [(.int (-1 : Int32))])) (fun _ k => XS.iconst X31.here hx rfl (hb hby d8_147) k) ?_
                          refine own_by (B := T31.setTop (mkF m 150 #[VR (A 0), VI ux, VI v2, VI v3, VI w9, VR (CA i11), VI (v6 + (1 : Int32)), VI (-1 : Int32), VI w26, VI w17] [])) (fun _ k => XS.istore X31.here hx rfl (hb hby d8_148) rfl (l' := #[VR (A 0), VI ux, VI v2, VI v3, VI w9, VR (CA i11), VI (v6 + (1 : Int32)), VI (-1 : Int32), VI w26, VI w17]) rfl k) ?_
                          refine own_by (B := T31.setTop (mkF m 55 #[VR (A 0), VI ux, VI v2, VI v3, VI w9, VR (CA i11), VI (v6 + (1 : Int32)), VI (-1 : Int32), VI w26, VI w17] [])) (fun _ k => XS.goto X31.here hx rfl (pc0 := 150) (pc' := 55) rfl (hb hby d8_150) (by decide) (by decide) k) ?_
                          exact ih (v6 + (1 : Int32)) (-1 : Int32) w26 u24 _ hF _ _ X31 N24 _ e31 P24 (.val (.int w17)) (One.val rfl) kont
                        · rw [if_neg hc33] at hF
                          refine own_by (B := T31.setTop (mkF m 142 #[VR (A 0), VI ux, VI v2, VI v3, VI w9, VR (CA i11), VI (v6 + (1 : Int32)), VI v7, VI w26, VI w17] [])) (fun _ k => XS.icmpNo X31.here hx rfl (hb hby d8_139) rfl (XT.ii_eq_f hc33) k) ?_
                          refine own_by (B := T31.setTop (mkF m 144 #[VR (A 0), VI ux, VI v2, VI v3, VI w9, VR (CA i11), VI (v6 + (1 : Int32)), VI v7, VI w26, VI w17] [(.int w17)])) (fun _ k => XS.iload X31.here hx rfl (hb hby d8_142) rfl  k) ?_
                          refine own_by (B := T31.setTop (mkF m 148 #[VR (A 0), VI ux, VI v2, VI v3, VI w9, VR (CA i11), VI (v6 + (1 : Int32)), VI v7, VI w26, VI w17] [(.int w17)])) (fun _ k => XS.goto X31.here hx rfl (pc0 := 144) (pc' := 148) rfl (hb hby d8_144) (by decide) (by decide) k) ?_
                          refine own_by (B := T31.setTop (mkF m 150 #[VR (A 0), VI ux, VI v2, VI v3, VI w9, VR (CA i11), VI (v6 + (1 : Int32)), VI w17, VI w26, VI w17] [])) (fun _ k => XS.istore X31.here hx rfl (hb hby d8_148) rfl (l' := #[VR (A 0), VI ux, VI v2, VI v3, VI w9, VR (CA i11), VI (v6 + (1 : Int32)), VI w17, VI w26, VI w17]) rfl k) ?_
                          refine own_by (B := T31.setTop (mkF m 55 #[VR (A 0), VI ux, VI v2, VI v3, VI w9, VR (CA i11), VI (v6 + (1 : Int32)), VI w17, VI w26, VI w17] [])) (fun _ k => XS.goto X31.here hx rfl (pc0 := 150) (pc' := 55) rfl (hb hby d8_150) (by decide) (by decide) k) ?_
                          exact ih (v6 + (1 : Int32)) w17 w26 u24 _ hF _ _ X31 N24 _ e31 P24 (.val (.int w17)) (One.val rfl) kont
                      · rw [if_neg hc30] at hF
                        refine own_by (B := T28.setTop (mkF m 147 #[VR (A 0), VI ux, VI v2, VI v3, VI w9, VR (CA i11), VI (v6 + (1 : Int32)), VI v7, VI w26, VI w17] [])) (fun _ k => XS.ifYes X28.here hx rfl (pc0 := 127) (pc' := 147) rfl (hb hby d8_127) rfl (XT.i0_ne_t hc30) (by decide) (by decide) k) ?_
                        refine own_by (B := T28.setTop (mkF m 148 #[VR (A 0), VI ux, VI v2, VI v3, VI w9, VR (CA i11), VI (v6 + (1 : Int32)), VI v7, VI w26, VI w17] [(.int (-1 : Int32))])) (fun _ k => XS.iconst X28.here hx rfl (hb hby d8_147) k) ?_
                        refine own_by (B := T28.setTop (mkF m 150 #[VR (A 0), VI ux, VI v2, VI v3, VI w9, VR (CA i11), VI (v6 + (1 : Int32)), VI (-1 : Int32), VI w26, VI w17] [])) (fun _ k => XS.istore X28.here hx rfl (hb hby d8_148) rfl (l' := #[VR (A 0), VI ux, VI v2, VI v3, VI w9, VR (CA i11), VI (v6 + (1 : Int32)), VI (-1 : Int32), VI w26, VI w17]) rfl k) ?_
                        refine own_by (B := T28.setTop (mkF m 55 #[VR (A 0), VI ux, VI v2, VI v3, VI w9, VR (CA i11), VI (v6 + (1 : Int32)), VI (-1 : Int32), VI w26, VI w17] [])) (fun _ k => XS.goto X28.here hx rfl (pc0 := 150) (pc' := 55) rfl (hb hby d8_150) (by decide) (by decide) k) ?_
                        exact ih (v6 + (1 : Int32)) (-1 : Int32) w26 u24 _ hF _ _ X28 N24 _ e28 P24 (.val (.int w17)) (One.val rfl) kont
                · rw [if_neg hc16] at hF
                  refine own_by (B := T1.setTop (mkF m 153 #[VR (A 0), VI ux, VI v2, VI v3, VI w9, VR (CA i11), VI v6, VI v7, VI v8, sl9] [])) (fun _ k => XS.icmpYes X1.here hx rfl (pc0 := 66) (pc' := 153) rfl (hb hby d8_66) rfl (XT.ii_ge_t hc16) (by decide) (by decide) k) ?_
                  obtain rfl := Option.some.inj hF
                  exact kont _ _ X1 N1 _ e1 P1 (sl9) One_sl9
              · rw [if_neg hc15] at hF
                refine own_by (B := T1.setTop (mkF m 153 #[VR (A 0), VI ux, VI v2, VI v3, VI w9, VR (CA i11), VI v6, VI v7, VI v8, sl9] [])) (fun _ k => XS.icmpYes X1.here hx rfl (pc0 := 58) (pc' := 153) rfl (hb hby d8_58) rfl (XT.ii_ne_t hc15) (by decide) (by decide) k) ?_
                obtain rfl := Option.some.inj hF
                exact kont _ _ X1 N1 _ e1 P1 (sl9) One_sl9
          obtain ⟨q34, hq34, hF⟩ := own_bind hF
          refine hloop55 8 (q12.1) (-1 : Int32) (-1 : Int32) (q12.2) _ hq34 _ _ X13 N13 _ e13 PC13 (sl9) One_sl9 ?_
          intro T35 lc35 X35 N35 h35 e35 P35 sl9 One_sl9
          refine own_by (B := T35.setTop (mkF m 154 #[VR (A 0), VI ux, VI v2, VI v3, VI w9, VR (CA i11), VI (q34.1), VI (q34.2.1), VI (q34.2.2.1), sl9] [(.ref (A 0))])) (fun _ k => XS.aloadN X35.here hx rfl (hb hby d8_153) rfl rfl  k) ?_
          obtain ⟨T36, X36, e36, st36⟩ := getF X35 hx hZ hown (host := "") (Or.inl (own_hw 41 hw rfl)) Via.refl e35 (own_PS_f11 P35) (g := (mkF m 154 #[VR (A 0), VI ux, VI v2, VI v3, VI w9, VR (CA i11), VI (q34.1), VI (q34.2.1), VI (q34.2.2.1), sl9] [(.ref (A 0))])) rfl rfl (hb hby d8_154)
          refine own_by (B := T36.setTop (mkF m 157 #[VR (A 0), VI ux, VI v2, VI v3, VI w9, VR (CA i11), VI (q34.1), VI (q34.2.1), VI (q34.2.2.1), sl9] [(.ref (A 11))])) st36 ?_
          refine own_by (B := T36.setTop (mkF m 159 #[VR (A 0), VI ux, VI v2, VI v3, VI w9, VR (CA i11), VI (q34.1), VI (q34.2.1), VI (q34.2.2.1), sl9] [(.int w9), (.ref (A 11))])) (fun _ k => XS.iload X36.here hx rfl (hb hby d8_157) rfl  k) ?_
          refine own_by (B := T36.setTop (mkF m 161 #[VR (A 0), VI ux, VI v2, VI v3, VI w9, VR (CA i11), VI (q34.1), VI (q34.2.1), VI (q34.2.2.1), sl9] [(.int (q34.1)), (.int w9), (.ref (A 11))])) (fun _ k => XS.iload X36.here hx rfl (hb hby d8_159) rfl  k) ?_
          obtain ⟨u37, hu37, hF⟩ := own_bind hF
          obtain ⟨zl37, hz37, hu37'⟩ := Option.map_eq_some_iff.mp hu37
          obtain ⟨T37, h37, X37, e37, W37, V37, st37⟩ := own_stI X36 hx hZ e36 (own_PS_v11 P35) hz37 (g := (mkF m 161 #[VR (A 0), VI ux, VI v2, VI v3, VI w9, VR (CA i11), VI (q34.1), VI (q34.2.1), VI (q34.2.2.1), sl9] [(.int (q34.1)), (.int w9), (.ref (A 11))])) rfl rfl (hb hby d8_161)
          have P37 : own_PS Z h37 n0 A K zr zc CA CK CL u37 := hu37' ▸ own_w_nx P35 W37 V37
          have N37 := Fr.snoc X37 N35 (own_PS_gn P35).2.2.2.2.2.2.2.2.2.2.2.1
          refine own_by (B := T37.setTop (mkF m 162 #[VR (A 0), VI ux, VI v2, VI v3, VI w9, VR (CA i11), VI (q34.1), VI (q34.2.1), VI (q34.2.2.1), sl9] [])) st37 ?_
          refine own_by (B := T37.setTop (mkF m 164 #[VR (A 0), VI ux, VI v2, VI v3, VI w9, VR (CA i11), VI (q34.1), VI (q34.2.1), VI (q34.2.2.1), sl9] [(.int (q34.2.1))])) (fun _ k => XS.iload X37.here hx rfl (hb hby d8_162) rfl  k) ?_
          refine own_by (B := T37.setTop (mkF m 165 #[VR (A 0), VI ux, VI v2, VI v3, VI w9, VR (CA i11), VI (q34.1), VI (q34.2.1), VI (q34.2.2.1), sl9] [(.int (-1 : Int32)), (.int (q34.2.1))])) (fun _ k => XS.iconst X37.here hx rfl (hb hby d8_164) k) ?_
          by_cases hc38 : (q34.2.1) = (-1 : Int32)
          · rw [if_pos hc38] at hF
            refine own_by (B := T37.setTop (mkF m 168 #[VR (A 0), VI ux, VI v2, VI v3, VI w9, VR (CA i11), VI (q34.1), VI (q34.2.1), VI (q34.2.2.1), sl9] [])) (fun _ k => XS.icmpNo X37.here hx rfl (hb hby d8_165) rfl (XT.ii_ne_f hc38) k) ?_
            refine own_by (B := T37.setTop (mkF m 171 #[VR (A 0), VI ux, VI (v2 + (-1 : Int32)), VI v3, VI w9, VR (CA i11), VI (q34.1), VI (q34.2.1), VI (q34.2.2.1), sl9] [])) (fun _ k => XS.iinc X37.here hx rfl (hb hby d8_168) rfl (l' := #[VR (A 0), VI ux, VI (v2 + (-1 : Int32)), VI v3, VI w9, VR (CA i11), VI (q34.1), VI (q34.2.1), VI (q34.2.2.1), sl9]) rfl k) ?_
            refine own_by (B := T37.setTop (mkF m 209 #[VR (A 0), VI ux, VI (v2 + (-1 : Int32)), VI v3, VI w9, VR (CA i11), VI (q34.1), VI (q34.2.1), VI (q34.2.2.1), sl9] [])) (fun _ k => XS.goto X37.here hx rfl (pc0 := 171) (pc' := 209) rfl (hb hby d8_171) (by decide) (by decide) k) ?_
            refine own_by (B := T37.setTop (mkF m 11 #[VR (A 0), VI ux, VI (v2 + (-1 : Int32)), VI v3, VI w9, VR (CA i11), VI (q34.1), VI (q34.2.1), VI (q34.2.2.1), sl9] [])) (fun _ k => XS.goto X37.here hx rfl (pc0 := 209) (pc' := 11) rfl (hb hby d8_209) (by decide) (by decide) k) ?_
            exact ih (v2 + (-1 : Int32)) v3 u37 _ hF _ _ X37 N37 _ e37 P37 (.val (.int w9)) (One.val rfl) (.val (.ref (CA i11))) (One.val rfl) (.val (.int (q34.1))) (One.val rfl) (.val (.int (q34.2.1))) (One.val rfl) (.val (.int (q34.2.2.1))) (One.val rfl) (sl9) One_sl9 kont
          · rw [if_neg hc38] at hF
            refine own_by (B := T37.setTop (mkF m 174 #[VR (A 0), VI ux, VI v2, VI v3, VI w9, VR (CA i11), VI (q34.1), VI (q34.2.1), VI (q34.2.2.1), sl9] [])) (fun _ k => XS.icmpYes X37.here hx rfl (pc0 := 165) (pc' := 174) rfl (hb hby d8_165) rfl (XT.ii_ne_t hc38) (by decide) (by decide) k) ?_
            refine own_by (B := T37.setTop (mkF m 175 #[VR (A 0), VI ux, VI v2, VI v3, VI w9, VR (CA i11), VI (q34.1), VI (q34.2.1), VI (q34.2.2.1), sl9] [(.ref (A 0))])) (fun _ k => XS.aloadN X37.here hx rfl (hb hby d8_174) rfl rfl  k) ?_
            obtain ⟨T39, X39, e39, st39⟩ := getF X37 hx hZ hown (host := "") (Or.inl (own_hw 35 hw rfl)) Via.refl e37 (own_PS_f8 P37) (g := (mkF m 175 #[VR (A 0), VI ux, VI v2, VI v3, VI w9, VR (CA i11), VI (q34.1), VI (q34.2.1), VI (q34.2.2.1), sl9] [(.ref (A 0))])) rfl rfl (hb hby d8_175)
            refine own_by (B := T39.setTop (mkF m 178 #[VR (A 0), VI ux, VI v2, VI v3, VI w9, VR (CA i11), VI (q34.1), VI (q34.2.1), VI (q34.2.2.1), sl9] [(.ref (A 8))])) st39 ?_
            refine own_by (B := T39.setTop (mkF m 179 #[VR (A 0), VI ux, VI v2, VI v3, VI w9, VR (CA i11), VI (q34.1), VI (q34.2.1), VI (q34.2.2.1), sl9] [(.int v2), (.ref (A 8))])) (fun _ k => XS.iloadN X39.here hx rfl (hb hby d8_178) rfl  k) ?_
            refine own_by (B := T39.setTop (mkF m 181 #[VR (A 0), VI ux, VI v2, VI v3, VI w9, VR (CA i11), VI (q34.1), VI (q34.2.1), VI (q34.2.2.1), sl9] [(.int (q34.2.1)), (.int v2), (.ref (A 8))])) (fun _ k => XS.iload X39.here hx rfl (hb hby d8_179) rfl  k) ?_
            obtain ⟨u40, hu40, hF⟩ := own_bind hF
            obtain ⟨zl40, hz40, hu40'⟩ := Option.map_eq_some_iff.mp hu40
            obtain ⟨T40, h40, X40, e40, W40, V40, st40⟩ := own_stI X39 hx hZ e39 (own_PS_v8 P37) hz40 (g := (mkF m 181 #[VR (A 0), VI ux, VI v2, VI v3, VI w9, VR (CA i11), VI (q34.1), VI (q34.2.1), VI (q34.2.2.1), sl9] [(.int (q34.2.1)), (.int v2), (.ref (A 8))])) rfl rfl (hb hby d8_181)
            have P40 : own_PS Z h40 n0 A K zr zc CA CK CL u40 := hu40' ▸ own_w_va P37 W40 V40
            have N40 := Fr.snoc X40 N37 (own_PS_gn P37).2.2.2.2.2.2.2.2.1
            refine own_by (B := T40.setTop (mkF m 182 #[VR (A 0), VI ux, VI v2, VI v3, VI w9, VR (CA i11), VI (q34.1), VI (q34.2.1), VI (q34.2.2.1), sl9] [])) st40 ?_
            refine own_by (B := T40.setTop (mkF m 184 #[VR (A 0), VI ux, VI v2, VI v3, VI w9, VR (CA i11), VI (q34.1), VI (q34.2.1), VI (q34.2.2.1), sl9] [(.int (q34.2.2.1))])) (fun _ k => XS.iload X40.here hx rfl (hb hby d8_182) rfl  k) ?_
            refine own_by (B := T40.setTop (mkF m 185 #[VR (A 0), VI ux, VI v2, VI v3, VI w9, VR (CA i11), VI (q34.1), VI (q34.2.1), VI (q34.2.2.1), sl9] [(.int (-1 : Int32)), (.int (q34.2.2.1))])) (fun _ k => XS.iconst X40.here hx rfl (hb hby d8_184) k) ?_
            by_cases hc41 : (q34.2.2.1) = (-1 : Int32)
            · rw [if_pos hc41] at hF
              refine own_by (B := T40.setTop (mkF m 188 #[VR (A 0), VI ux, VI v2, VI v3, VI w9, VR (CA i11), VI (q34.1), VI (q34.2.1), VI (q34.2.2.1), sl9] [])) (fun _ k => XS.icmpNo X40.here hx rfl (hb hby d8_185) rfl (XT.ii_ne_f hc41) k) ?_
              refine own_by (B := T40.setTop (mkF m 189 #[VR (A 0), VI ux, VI v2, VI v3, VI w9, VR (CA i11), VI (q34.1), VI (q34.2.1), VI (q34.2.2.1), sl9] [(.int 1)])) (fun _ k => XS.iconst X40.here hx rfl (hb hby d8_188) k) ?_
              refine own_by (B := T40.setTop (mkF m 193 #[VR (A 0), VI ux, VI v2, VI v3, VI w9, VR (CA i11), VI (q34.1), VI (q34.2.1), VI (q34.2.2.1), sl9] [(.int 1)])) (fun _ k => XS.goto X40.here hx rfl (pc0 := 189) (pc' := 193) rfl (hb hby d8_189) (by decide) (by decide) k) ?_
              refine own_by (B := T40.setTop (mkF m 194 #[VR (A 0), VI ux, VI v2, VI 1, VI w9, VR (CA i11), VI (q34.1), VI (q34.2.1), VI (q34.2.2.1), sl9] [])) (fun _ k => XS.istoreN X40.here hx rfl (hb hby d8_193) rfl (l' := #[VR (A 0), VI ux, VI v2, VI 1, VI w9, VR (CA i11), VI (q34.1), VI (q34.2.1), VI (q34.2.2.1), sl9]) rfl k) ?_
              refine own_by (B := T40.setTop (mkF m 195 #[VR (A 0), VI ux, VI v2, VI 1, VI w9, VR (CA i11), VI (q34.1), VI (q34.2.1), VI (q34.2.2.1), sl9] [(.int 1)])) (fun _ k => XS.iloadN X40.here hx rfl (hb hby d8_194) rfl  k) ?_
              refine own_by (B := T40.setTop (mkF m 209 #[VR (A 0), VI ux, VI v2, VI 1, VI w9, VR (CA i11), VI (q34.1), VI (q34.2.1), VI (q34.2.2.1), sl9] [])) (fun _ k => XS.ifYes X40.here hx rfl (pc0 := 195) (pc' := 209) rfl (hb hby d8_195) rfl (XT.i0_ne_t (by decide)) (by decide) (by decide) k) ?_
              refine own_by (B := T40.setTop (mkF m 11 #[VR (A 0), VI ux, VI v2, VI 1, VI w9, VR (CA i11), VI (q34.1), VI (q34.2.1), VI (q34.2.2.1), sl9] [])) (fun _ k => XS.goto X40.here hx rfl (pc0 := 209) (pc' := 11) rfl (hb hby d8_209) (by decide) (by decide) k) ?_
              exact ih v2 (1 : Int32) u40 _ hF _ _ X40 N40 _ e40 P40 (.val (.int w9)) (One.val rfl) (.val (.ref (CA i11))) (One.val rfl) (.val (.int (q34.1))) (One.val rfl) (.val (.int (q34.2.1))) (One.val rfl) (.val (.int (q34.2.2.1))) (One.val rfl) (sl9) One_sl9 kont
            · rw [if_neg hc41] at hF
              refine own_by (B := T40.setTop (mkF m 192 #[VR (A 0), VI ux, VI v2, VI v3, VI w9, VR (CA i11), VI (q34.1), VI (q34.2.1), VI (q34.2.2.1), sl9] [])) (fun _ k => XS.icmpYes X40.here hx rfl (pc0 := 185) (pc' := 192) rfl (hb hby d8_185) rfl (XT.ii_ne_t hc41) (by decide) (by decide) k) ?_
              refine own_by (B := T40.setTop (mkF m 193 #[VR (A 0), VI ux, VI v2, VI v3, VI w9, VR (CA i11), VI (q34.1), VI (q34.2.1), VI (q34.2.2.1), sl9] [(.int 0)])) (fun _ k => XS.iconst X40.here hx rfl (hb hby d8_192) k) ?_
              refine own_by (B := T40.setTop (mkF m 194 #[VR (A 0), VI ux, VI v2, VI 0, VI w9, VR (CA i11), VI (q34.1), VI (q34.2.1), VI (q34.2.2.1), sl9] [])) (fun _ k => XS.istoreN X40.here hx rfl (hb hby d8_193) rfl (l' := #[VR (A 0), VI ux, VI v2, VI 0, VI w9, VR (CA i11), VI (q34.1), VI (q34.2.1), VI (q34.2.2.1), sl9]) rfl k) ?_
              refine own_by (B := T40.setTop (mkF m 195 #[VR (A 0), VI ux, VI v2, VI 0, VI w9, VR (CA i11), VI (q34.1), VI (q34.2.1), VI (q34.2.2.1), sl9] [(.int 0)])) (fun _ k => XS.iloadN X40.here hx rfl (hb hby d8_194) rfl  k) ?_
              refine own_by (B := T40.setTop (mkF m 198 #[VR (A 0), VI ux, VI v2, VI 0, VI w9, VR (CA i11), VI (q34.1), VI (q34.2.1), VI (q34.2.2.1), sl9] [])) (fun _ k => XS.ifNo X40.here hx rfl (hb hby d8_195) rfl (XT.i0_ne_f (by decide)) k) ?_
              refine own_by (B := T40.setTop (mkF m 201 #[VR (A 0), VI ux, VI (v2 + (1 : Int32)), VI 0, VI w9, VR (CA i11), VI (q34.1), VI (q34.2.1), VI (q34.2.2.1), sl9] [])) (fun _ k => XS.iinc X40.here hx rfl (hb hby d8_198) rfl (l' := #[VR (A 0), VI ux, VI (v2 + (1 : Int32)), VI 0, VI w9, VR (CA i11), VI (q34.1), VI (q34.2.1), VI (q34.2.2.1), sl9]) rfl k) ?_
              refine own_by (B := T40.setTop (mkF m 202 #[VR (A 0), VI ux, VI (v2 + (1 : Int32)), VI 0, VI w9, VR (CA i11), VI (q34.1), VI (q34.2.1), VI (q34.2.2.1), sl9] [(.ref (A 0))])) (fun _ k => XS.aloadN X40.here hx rfl (hb hby d8_201) rfl rfl  k) ?_
              obtain ⟨T42, X42, e42, st42⟩ := getF X40 hx hZ hown (host := "") (Or.inl (own_hw 33 hw rfl)) Via.refl e40 (own_PS_f7 P40) (g := (mkF m 202 #[VR (A 0), VI ux, VI (v2 + (1 : Int32)), VI 0, VI w9, VR (CA i11), VI (q34.1), VI (q34.2.1), VI (q34.2.2.1), sl9] [(.ref (A 0))])) rfl rfl (hb hby d8_202)
              refine own_by (B := T42.setTop (mkF m 205 #[VR (A 0), VI ux, VI (v2 + (1 : Int32)), VI 0, VI w9, VR (CA i11), VI (q34.1), VI (q34.2.1), VI (q34.2.2.1), sl9] [(.ref (A 7))])) st42 ?_
              refine own_by (B := T42.setTop (mkF m 206 #[VR (A 0), VI ux, VI (v2 + (1 : Int32)), VI 0, VI w9, VR (CA i11), VI (q34.1), VI (q34.2.1), VI (q34.2.2.1), sl9] [(.int (v2 + (1 : Int32))), (.ref (A 7))])) (fun _ k => XS.iloadN X42.here hx rfl (hb hby d8_205) rfl  k) ?_
              refine own_by (B := T42.setTop (mkF m 208 #[VR (A 0), VI ux, VI (v2 + (1 : Int32)), VI 0, VI w9, VR (CA i11), VI (q34.1), VI (q34.2.1), VI (q34.2.2.1), sl9] [(.int (q34.2.2.1)), (.int (v2 + (1 : Int32))), (.ref (A 7))])) (fun _ k => XS.iload X42.here hx rfl (hb hby d8_206) rfl  k) ?_
              obtain ⟨u43, hu43, hF⟩ := own_bind hF
              obtain ⟨zl43, hz43, hu43'⟩ := Option.map_eq_some_iff.mp hu43
              obtain ⟨T43, h43, X43, e43, W43, V43, st43⟩ := own_stI X42 hx hZ e42 (own_PS_v7 P40) hz43 (g := (mkF m 208 #[VR (A 0), VI ux, VI (v2 + (1 : Int32)), VI 0, VI w9, VR (CA i11), VI (q34.1), VI (q34.2.1), VI (q34.2.2.1), sl9] [(.int (q34.2.2.1)), (.int (v2 + (1 : Int32))), (.ref (A 7))])) rfl rfl (hb hby d8_208)
              have P43 : own_PS Z h43 n0 A K zr zc CA CK CL u43 := hu43' ▸ own_w_pt P40 W43 V43
              have N43 := Fr.snoc X43 N40 (own_PS_gn P40).2.2.2.2.2.2.2.1
              refine own_by (B := T43.setTop (mkF m 209 #[VR (A 0), VI ux, VI (v2 + (1 : Int32)), VI 0, VI w9, VR (CA i11), VI (q34.1), VI (q34.2.1), VI (q34.2.2.1), sl9] [])) st43 ?_
              refine own_by (B := T43.setTop (mkF m 11 #[VR (A 0), VI ux, VI (v2 + (1 : Int32)), VI 0, VI w9, VR (CA i11), VI (q34.1), VI (q34.2.1), VI (q34.2.2.1), sl9] [])) (fun _ k => XS.goto X43.here hx rfl (pc0 := 209) (pc' := 11) rfl (hb hby d8_209) (by decide) (by decide) k) ?_
              exact ih (v2 + (1 : Int32)) (0 : Int32) u43 _ hF _ _ X43 N43 _ e43 P43 (.val (.int w9)) (One.val rfl) (.val (.ref (CA i11))) (One.val rfl) (.val (.int (q34.1))) (One.val rfl) (.val (.int (q34.2.1))) (One.val rfl) (.val (.int (q34.2.2.1))) (One.val rfl) (sl9) One_sl9 kont
        · rw [if_neg hc5] at hF
          refine own_by (B := T1.setTop (mkF m 212 #[VR (A 0), VI ux, VI v2, VI v3, sl4, sl5, sl6, sl7, sl8, sl9] [])) (fun _ k => XS.ifYes X1.here hx rfl (pc0 := 16) (pc' := 212) rfl (hb hby d8_16) rfl (XT.i0_ne_t hc5) (by decide) (by decide) k) ?_
          obtain rfl := Option.some.inj hF
          exact kont _ _ X1 N1 _ e1 P1 (sl4) One_sl4 (sl5) One_sl5 (sl6) One_sl6 (sl7) One_sl7 (sl8) One_sl8 (sl9) One_sl9
  obtain ⟨q44, hq44, hF⟩ := own_bind hF
  refine hloop11 16 (0 : Int32) (0 : Int32) u2 _ hq44 _ _ X2 N2 _ e2 P2 (.unset) One.u (.unset) One.u (.unset) One.u (.unset) One.u (.unset) One.u (.unset) One.u ?_
  intro T45 lc45 X45 N45 h45 e45 P45 sl4 One_sl4 sl5 One_sl5 sl6 One_sl6 sl7 One_sl7 sl8 One_sl8 sl9 One_sl9
  refine own_by (B := T45.setTop (mkF m 213 #[VR (A 0), VI ux, VI (q44.1), VI (q44.2.1), sl4, sl5, sl6, sl7, sl8, sl9] [(.int (q44.1))])) (fun _ k => XS.iloadN X45.here hx rfl (hb hby d8_212) rfl  k) ?_
  refine own_by (B := T45.setTop (mkF m 215 #[VR (A 0), VI ux, VI (q44.1), VI (q44.2.1), VI (q44.1), sl5, sl6, sl7, sl8, sl9] [])) (fun _ k => XS.istore X45.here hx rfl (hb hby d8_213) rfl (l' := #[VR (A 0), VI ux, VI (q44.1), VI (q44.2.1), VI (q44.1), sl5, sl6, sl7, sl8, sl9]) (XS.store1 (o := sl4) rfl One_sl4 rfl) k) ?_
  have hloop215 : ∀ (fuel : Nat) (v4 : Int32) (uh46 : own_S) (q46 : Int32 × own_S), own_augment_L215 CL fuel  v4 uh46 = some q46 → ∀ (T1 : State) (lc1 : List Loc) (X1 : Stand p l e ({ frames := 4, cells := 0, slots := 0, locals := 66 } : Room) s m #[(.ref (A 0)), (.int ux)] below meth c T1 lc1 0 0) (N1 : Fr n0 lc1) (h1 : Heap) (e1 : T1.heap = h1) (P1 : own_PS Z h1 n0 A K zr zc CA CK CL uh46), (∀ (T2 : State) (lc2 : List Loc) (X2 : Stand p l e ({ frames := 4, cells := 0, slots := 0, locals := 66 } : Room) s m #[(.ref (A 0)), (.int ux)] below meth c T2 lc2 0 0) (N2 : Fr n0 lc2) (h2 : Heap) (e2 : T2.heap = h2) (P2 : own_PS Z h2 n0 A K zr zc CA CK CL (q46.2)), own_Go p.tables e below (own_K s below (own_QPr Z ru n0 A K zr zc CA CK CL) 0 0) (T2.setTop (mkF m 244 #[VR (A 0), VI ux, VI (q44.1), VI (q44.2.1), VI (q46.1), sl5, sl6, sl7, sl8, sl9] []))) → own_Go p.tables e below (own_K s below (own_QPr Z ru n0 A K zr zc CA CK CL) 0 0) (T1.setTop (mkF m 215 #[VR (A 0), VI ux, VI (q44.1), VI (q44.2.1), VI v4, sl5, sl6, sl7, sl8, sl9] [])) := by
    intro fuel
    induction fuel with
    | zero => intro v4 uh46 q46 hF; cases hF
    | succ fuel ih =>
      intro v4 uh46 q46 hF T1 lc1 X1 N1 h1 e1 P1 kont
      rw [own_augment_L215] at hF
      refine own_by (B := T1.setTop (mkF m 217 #[VR (A 0), VI ux, VI (q44.1), VI (q44.2.1), VI v4, sl5, sl6, sl7, sl8, sl9] [(.int v4)])) (fun _ k => XS.iload X1.here hx rfl (hb hby d8_215) rfl  k) ?_
      by_cases hc47 : v4 < (0 : Int32)
      · rw [if_pos hc47] at hF
        refine own_by (B := T1.setTop (mkF m 244 #[VR (A 0), VI ux, VI (q44.1), VI (q44.2.1), VI v4, sl5, sl6, sl7, sl8, sl9] [])) (fun _ k => XS.ifYes X1.here hx rfl (pc0 := 217) (pc' := 244) rfl (hb hby d8_217) rfl (XT.i0_lt_t hc47) (by decide) (by decide) k) ?_
        obtain rfl := Option.some.inj hF
        exact kont _ _ X1 N1 _ e1 P1
      · rw [if_neg hc47] at hF
        refine own_by (B := T1.setTop (mkF m 220 #[VR (A 0), VI ux, VI (q44.1), VI (q44.2.1), VI v4, sl5, sl6, sl7, sl8, sl9] [])) (fun _ k => XS.ifNo X1.here hx rfl (hb hby d8_217) rfl (XT.i0_lt_f hc47) k) ?_
        refine own_by (B := T1.setTop (mkF m 221 #[VR (A 0), VI ux, VI (q44.1), VI (q44.2.1), VI v4, sl5, sl6, sl7, sl8, sl9] [(.ref (A 0))])) (fun _ k => XS.aloadN X1.here hx rfl (hb hby d8_220) rfl rfl  k) ?_
        refine own_by (B := T1.setTop (mkF m 222 #[VR (A 0), VI ux, VI (q44.1), VI (q44.2.1), VI v4, sl5, sl6, sl7, sl8, sl9] [(.ref (A 0)), (.ref (A 0))])) (fun _ k => XS.aloadN X1.here hx rfl (hb hby d8_221) rfl rfl  k) ?_
        obtain ⟨T48, X48, e48, st48⟩ := getF X1 hx hZ hown (host := "") (Or.inl (own_hw 33 hw rfl)) Via.refl e1 (own_PS_f7 P1) (g := (mkF m 222 #[VR (A 0), VI ux, VI (q44.1), VI (q44.2.1), VI v4, sl5, sl6, sl7, sl8, sl9] [(.ref (A 0)), (.ref (A 0))])) rfl rfl (hb hby d8_222)
        refine own_by (B := T48.setTop (mkF m 225 #[VR (A 0), VI ux, VI (q44.1), VI (q44.2.1), VI v4, sl5, sl6, sl7, sl8, sl9] [(.ref (A 7)), (.ref (A 0))])) st48 ?_
        refine own_by (B := T48.setTop (mkF m 227 #[VR (A 0), VI ux, VI (q44.1), VI (q44.2.1), VI v4, sl5, sl6, sl7, sl8, sl9] [(.int v4), (.ref (A 7)), (.ref (A 0))])) (fun _ k => XS.iload X48.here hx rfl (hb hby d8_225) rfl  k) ?_
        obtain ⟨w49, hw49, hF⟩ := own_bind hF
        refine own_by (B := T48.setTop (mkF m 228 #[VR (A 0), VI ux, VI (q44.1), VI (q44.2.1), VI v4, sl5, sl6, sl7, sl8, sl9] [(.int w49), (.ref (A 0))])) (own_ldI X48 hx hZ e48 (own_PS_v7 P1) hw49 (g := (mkF m 227 #[VR (A 0), VI ux, VI (q44.1), VI (q44.2.1), VI v4, sl5, sl6, sl7, sl8, sl9] [(.int v4), (.ref (A 7)), (.ref (A 0))])) rfl rfl (hb hby d8_227)) ?_
        refine own_by (B := T48.setTop (mkF m 229 #[VR (A 0), VI ux, VI (q44.1), VI (q44.2.1), VI v4, sl5, sl6, sl7, sl8, sl9] [(.ref (A 0)), (.int w49), (.ref (A 0))])) (fun _ k => XS.aloadN X48.here hx rfl (hb hby d8_228) rfl rfl  k) ?_
        obtain ⟨T50, X50, e50, st50⟩ := getF X48 hx hZ hown (host := "") (Or.inl (own_hw 35 hw rfl)) Via.refl e48 (own_PS_f8 P1) (g := (mkF m 229 #[VR (A 0), VI ux, VI (q44.1), VI (q44.2.1), VI v4, sl5, sl6, sl7, sl8, sl9] [(.ref (A 0)), (.int w49), (.ref (A 0))])) rfl rfl (hb hby d8_229)
        refine own_by (B := T50.setTop (mkF m 232 #[VR (A 0), VI ux, VI (q44.1), VI (q44.2.1), VI v4, sl5, sl6, sl7, sl8, sl9] [(.ref (A 8)), (.int w49), (.ref (A 0))])) st50 ?_
        refine own_by (B := T50.setTop (mkF m 234 #[VR (A 0), VI ux, VI (q44.1), VI (q44.2.1), VI v4, sl5, sl6, sl7, sl8, sl9] [(.int v4), (.ref (A 8)), (.int w49), (.ref (A 0))])) (fun _ k => XS.iload X50.here hx rfl (hb hby d8_232) rfl  k) ?_
        obtain ⟨w51, hw51, hF⟩ := own_bind hF
        refine own_by (B := T50.setTop (mkF m 235 #[VR (A 0), VI ux, VI (q44.1), VI (q44.2.1), VI v4, sl5, sl6, sl7, sl8, sl9] [(.int w51), (.int w49), (.ref (A 0))])) (own_ldI X50 hx hZ e50 (own_PS_v8 P1) hw51 (g := (mkF m 234 #[VR (A 0), VI ux, VI (q44.1), VI (q44.2.1), VI v4, sl5, sl6, sl7, sl8, sl9] [(.int v4), (.ref (A 8)), (.int w49), (.ref (A 0))])) rfl rfl (hb hby d8_234)) ?_
        obtain ⟨q52, hq52, hF⟩ := own_bind hF
        obtain ⟨cq53, qa53, qc53⟩ := Exa.cell (own_PS_E P1)
        obtain ⟨_, _, ⟨T53, L53, k53, n53⟩, -, X53, ⟨Lc53, hQ53, l53, y53, z53⟩, st53⟩ := X50.privateBack hx (y := (⟨"com/example/document_pattern_rules/documentpatternrules/pattern/Pairing", "hold", "(II)V"⟩ : MethodName)) hown (mvT hZ (own_hw 75 hw rfl)) (mvT hZ (own_hw 76 hw rfl)) (mvT hZ (own_selpriv (y := (⟨"com/example/document_pattern_rules/documentpatternrules/pattern/Pairing", "hold", "(II)V"⟩ : MethodName)) (own_hw 9 hw rfl) (own_hw 77 hw rfl) (own_hw 76 hw rfl) (by decide))) (Cond.privateMethod_at (mvP hZ (own_hw 77 hw rfl) (args := #[]))) (mvT hZ (own_hw 78 hw rfl)) (by decide) (backOf (W := 0) (rm_hold l Z a0 hw [] A K zr zc CA CK CL uh46 _ w49 w51 h1 n0 (Nat.le_trans (own_PS_gn P1).1 (Nat.le_of_lt (own_PS_E P1).lt)) P1 hq52) hZ (own_hw 78 hw rfl) (own_hw 10 hw rfl) (by decide) (by decide)) (g := (mkF m 235 #[VR (A 0), VI ux, VI (q44.1), VI (q44.2.1), VI v4, sl5, sl6, sl7, sl8, sl9] [(.int w51), (.int w49), (.ref (A 0))])) rfl (by rw [hml]; rfl) (Steps.refl _) (a := (A 0)) (by rw [e50]; exact qa53) qc53 (argsL := [(.int w49), (.int w51)]) (rest := []) (lenOf pd_8__II_V rfl) rfl (by show 2 * 0 + _ ≤ _; exact Nat.le_of_eq rfl) (hb hby d8_235) (fun _ _ => ⟨rfl, e50, (by decide : 0 + 0 ≤ _), (by decide : 0 + 0 ≤ _)⟩)
        dsimp only [Pt.U, Pt.locs, Pt.cells, Pt.slots] at X53 l53 y53 z53 st53 hQ53
        subst l53 y53 z53
        obtain ⟨rfl, NC53, PC53⟩ := hQ53
        refine own_by (B := T53.setTop (mkF m 238 #[VR (A 0), VI ux, VI (q44.1), VI (q44.2.1), VI v4, sl5, sl6, sl7, sl8, sl9] [])) (fun _ k => st53.trans k) ?_
        obtain ⟨h53, e53⟩ : ∃ z, T53.heap = z := ⟨_, rfl⟩
        rw [e53] at PC53
        have N53 := Fr.app N1 NC53
        refine own_by (B := T53.setTop (mkF m 241 #[VR (A 0), VI ux, VI (q44.1), VI (q44.2.1), VI (v4 + (-1 : Int32)), sl5, sl6, sl7, sl8, sl9] [])) (fun _ k => XS.iinc X53.here hx rfl (hb hby d8_238) rfl (l' := #[VR (A 0), VI ux, VI (q44.1), VI (q44.2.1), VI (v4 + (-1 : Int32)), sl5, sl6, sl7, sl8, sl9]) rfl k) ?_
        refine own_by (B := T53.setTop (mkF m 215 #[VR (A 0), VI ux, VI (q44.1), VI (q44.2.1), VI (v4 + (-1 : Int32)), sl5, sl6, sl7, sl8, sl9] [])) (fun _ k => XS.goto X53.here hx rfl (pc0 := 241) (pc' := 215) rfl (hb hby d8_241) (by decide) (by decide) k) ?_
        exact ih (v4 + (-1 : Int32)) q52 _ hF _ _ X53 N53 _ e53 PC53 kont
  obtain ⟨q54, hq54, hF⟩ := own_bind hF
  refine hloop215 8 (q44.1) (q44.2.2) _ hq54 _ _ X45 N45 _ e45 P45 ?_
  intro T55 lc55 X55 N55 h55 e55 P55
  refine own_by (B := T55.setTop (mkF m 245 #[VR (A 0), VI ux, VI (q44.1), VI (q44.2.1), VI (q54.1), sl5, sl6, sl7, sl8, sl9] [(.int (q44.2.1))])) (fun _ k => XS.iloadN X55.here hx rfl (hb hby d8_244) rfl  k) ?_
  obtain rfl := Option.some.inj hF
  exact own_retB X55 hx hrt hlk (hb hby d8_245) (by decide) (by decide) (by show own_QPr Z ((((q44.2.1) &&& (1 : Int32)), (q54.2))) n0 A K zr zc CA CK CL _ T55.heap _; rw [e55]; exact ⟨rfl, N55, P55⟩)

def own_complete_L4 (CL : List (List Int32)) : Nat → Int32 → Int32 → own_S → Option (Int32 × Int32 × own_S)
  | 0, _, _, _ => none
  | fuel + 1, v1, v2, uh1 => if v2 < (own_ro uh1) then (if v1 = (0 : Int32) then (some (v1, v2, uh1)) else ((own_ld_pa uh1 v2).bind fun w6 => if w6 = (-1 : Int32) then (((some (own_se_set uh1 ((own_se uh1) + (1 : Int64))) : Option own_S)).bind fun u9 => (own_augment CL u9 v2).bind fun q10 => own_complete_L4 CL fuel  (q10.1) (v2 + (1 : Int32)) (q10.2)) else (own_complete_L4 CL fuel  v1 (v2 + (1 : Int32)) uh1))) else (some (v1, v2, uh1))
def own_complete (CL : List (List Int32)) (u0 : own_S)  : Option (Int32 × own_S) := (own_complete_L4 CL 8  (1 : Int32) (0 : Int32) u0).bind fun q12 => some (((q12.1) &&& (1 : Int32)), (q12.2.2))

theorem d7_0 : decode prog_77_method_5_code 0 = .ok (.iconst 1, 1) := by decide +kernel
theorem d7_1 : decode prog_77_method_5_code 1 = .ok (.istore_n 1, 1) := by decide +kernel
theorem d7_2 : decode prog_77_method_5_code 2 = .ok (.iconst 0, 1) := by decide +kernel
theorem d7_3 : decode prog_77_method_5_code 3 = .ok (.istore_n 2, 1) := by decide +kernel
theorem d7_4 : decode prog_77_method_5_code 4 = .ok (.iload_n 2, 1) := by decide +kernel
theorem d7_5 : decode prog_77_method_5_code 5 = .ok (.aload_n 0, 1) := by decide +kernel
theorem d7_6 : decode prog_77_method_5_code 6 = .ok (.getfield 56, 3) := by decide +kernel
theorem d7_9 : decode prog_77_method_5_code 9 = .ok (.if_icmp .ge 39, 3) := by decide +kernel
theorem d7_12 : decode prog_77_method_5_code 12 = .ok (.iload_n 1, 1) := by decide +kernel
theorem d7_13 : decode prog_77_method_5_code 13 = .ok (.ifCond .eq 35, 3) := by decide +kernel
theorem d7_16 : decode prog_77_method_5_code 16 = .ok (.aload_n 0, 1) := by decide +kernel
theorem d7_17 : decode prog_77_method_5_code 17 = .ok (.getfield 18, 3) := by decide +kernel
theorem d7_20 : decode prog_77_method_5_code 20 = .ok (.iload_n 2, 1) := by decide +kernel
theorem d7_21 : decode prog_77_method_5_code 21 = .ok (.iaload, 1) := by decide +kernel
theorem d7_22 : decode prog_77_method_5_code 22 = .ok (.iconst (-1), 1) := by decide +kernel
theorem d7_23 : decode prog_77_method_5_code 23 = .ok (.if_icmp .ne 19, 3) := by decide +kernel
theorem d7_26 : decode prog_77_method_5_code 26 = .ok (.aload_n 0, 1) := by decide +kernel
theorem d7_27 : decode prog_77_method_5_code 27 = .ok (.dup, 1) := by decide +kernel
theorem d7_28 : decode prog_77_method_5_code 28 = .ok (.getfield 64, 3) := by decide +kernel
theorem d7_31 : decode prog_77_method_5_code 31 = .ok (.lconst 1, 1) := by decide +kernel
theorem d7_32 : decode prog_77_method_5_code 32 = .ok (.ladd, 1) := by decide +kernel
theorem d7_33 : decode prog_77_method_5_code 33 = .ok (.putfield 64, 3) := by decide +kernel
theorem d7_36 : decode prog_77_method_5_code 36 = .ok (.aload_n 0, 1) := by decide +kernel
theorem d7_37 : decode prog_77_method_5_code 37 = .ok (.iload_n 2, 1) := by decide +kernel
theorem d7_38 : decode prog_77_method_5_code 38 = .ok (.invokevirtual 68, 3) := by decide +kernel
theorem d7_41 : decode prog_77_method_5_code 41 = .ok (.istore_n 1, 1) := by decide +kernel
theorem d7_42 : decode prog_77_method_5_code 42 = .ok (.iinc 2 1, 3) := by decide +kernel
theorem d7_45 : decode prog_77_method_5_code 45 = .ok (.goto (-41), 3) := by decide +kernel
theorem d7_48 : decode prog_77_method_5_code 48 = .ok (.iload_n 1, 1) := by decide +kernel
theorem d7_49 : decode prog_77_method_5_code 49 = .ok (.ireturn, 1) := by decide +kernel
theorem pd_7__I_Z : parseMethodDescriptor "(I)Z" = some ⟨[.int], some .boolean⟩ := by decide +kernel
theorem pn_rm_complete : plainFor (⟨"com/example/document_pattern_rules/documentpatternrules/pattern/Pairing", "complete", "()Z"⟩ : MethodName) = true := by first | exact plainFor_of_name (by first | (simp [plainName, overriddenIn]; done) | decide +kernel) | exact Jvm.Free.JP.mathPlain rfl (by decide +kernel) | decide +kernel
theorem ef_rm_complete (m : MethodId) (x0 : Nat) : entryFrame m #[(.ref x0)] 3 = mkF m 0 #[VR x0, UU, UU] [] := by first | (simp [entryFrame, mkF, argsToLocals, Value.category]; done) | rfl
set_option maxRecDepth 65536 in
set_option maxHeartbeats 40000000 in
theorem rm_complete (l : Launch) (Z : State) (a0 : Array Value) (hw : ∀ d ∈ tables_1, d.before a0 Z = true) (ws : List Jvm.Cond) (A : Nat → Nat) (K : Nat → ClassId) (zr zc : Int32) (CA : Nat → Nat) (CK : Nat → ClassId) (CL : List (List Int32)) (u0 : own_S) (ru : Int32 × own_S)  (h0 : Heap) (n0 : Nat) (Z0 : n0 ≤ h0.size) (P0 : own_PS Z h0 n0 A K zr zc CA CK CL u0) (hF : own_complete CL u0  = some ru) :
    MetFree l (⟨"com/example/document_pattern_rules/documentpatternrules/pattern/Pairing", "complete", "()Z"⟩ : MethodName) (head1 (Jvm.Cond.code (⟨"com/example/document_pattern_rules/documentpatternrules/pattern/Pairing", "complete", "()Z"⟩ : MethodName) prog_77_method_5_code 3 (some .boolean) :: ws) ({ frames := 5, cells := 0, slots := 0, locals := 87 } : Room)) (fun a U => a = #[(.ref (A 0))] ∧ Z.Warmed39 U.vm ∧ U.heap = h0) (fun _ _ _ _ _ => True) (fun _ U o U' => ∃ v L, o = .returned v ∧ (own_QPr Z ru n0 A K zr zc CA CK CL) v U'.heap L ∧ FrameEnd U o U' L 0 0) := by
  refine MetFree.of_bodySF pn_rm_complete hisR ?_
  intro p e s m args below meth c s₁ Bd hml0 hP hK
  obtain ⟨rfl, hZ, hh⟩ := hP
  have hx := Bd.exec
  have hby := Bd.bytes
  have hml : c.maxLocals = 3 := hml0
  have hown : s.vm.findClass "com/example/document_pattern_rules/documentpatternrules/pattern/Pairing" = some m.cls := findClass_of_methodNamed Bd.named
  have hnm := (name_of_methodNamed Bd.named Bd.method).1
  have hrt := Bd.returns
  have hlk := Bd.notSynchronized
  have X0 : Stand p l e ({ frames := 5, cells := 0, slots := 0, locals := 87 } : Room) s m #[(.ref (A 0))] below meth c s₁ [] 0 0 := Stand.of_body Bd
  have e0 : s₁.heap = h0 := by rw [← hh, Bd.state]; rfl
  have N0 := Fr.nil n0
  unfold own_complete at hF
  refine own_done (B := s₁.setTop (mkF m 0 #[VR (A 0), UU, UU] [])) (fun t k => castTop (ef_rm_complete m (A 0)) k) ?_
  refine own_by (B := s₁.setTop (mkF m 1 #[VR (A 0), UU, UU] [(.int 1)])) (fun _ k => XS.iconst X0.here hx rfl (hb hby d7_0) k) ?_
  refine own_by (B := s₁.setTop (mkF m 2 #[VR (A 0), VI 1, UU] [])) (fun _ k => XS.istoreN X0.here hx rfl (hb hby d7_1) rfl (l' := #[VR (A 0), VI 1, UU]) rfl k) ?_
  refine own_by (B := s₁.setTop (mkF m 3 #[VR (A 0), VI 1, UU] [(.int 0)])) (fun _ k => XS.iconst X0.here hx rfl (hb hby d7_2) k) ?_
  refine own_by (B := s₁.setTop (mkF m 4 #[VR (A 0), VI 1, VI 0] [])) (fun _ k => XS.istoreN X0.here hx rfl (hb hby d7_3) rfl (l' := #[VR (A 0), VI 1, VI 0]) rfl k) ?_
  have hloop4 : ∀ (fuel : Nat) (v1 : Int32) (v2 : Int32) (uh1 : own_S) (q1 : Int32 × Int32 × own_S), own_complete_L4 CL fuel  v1 v2 uh1 = some q1 → ∀ (T1 : State) (lc1 : List Loc) (X1 : Stand p l e ({ frames := 5, cells := 0, slots := 0, locals := 87 } : Room) s m #[(.ref (A 0))] below meth c T1 lc1 0 0) (N1 : Fr n0 lc1) (h1 : Heap) (e1 : T1.heap = h1) (P1 : own_PS Z h1 n0 A K zr zc CA CK CL uh1), (∀ (T2 : State) (lc2 : List Loc) (X2 : Stand p l e ({ frames := 5, cells := 0, slots := 0, locals := 87 } : Room) s m #[(.ref (A 0))] below meth c T2 lc2 0 0) (N2 : Fr n0 lc2) (h2 : Heap) (e2 : T2.heap = h2) (P2 : own_PS Z h2 n0 A K zr zc CA CK CL (q1.2.2)), own_Go p.tables e below (own_K s below (own_QPr Z ru n0 A K zr zc CA CK CL) 0 0) (T2.setTop (mkF m 48 #[VR (A 0), VI (q1.1), VI (q1.2.1)] []))) → own_Go p.tables e below (own_K s below (own_QPr Z ru n0 A K zr zc CA CK CL) 0 0) (T1.setTop (mkF m 4 #[VR (A 0), VI v1, VI v2] [])) := by
    intro fuel
    induction fuel with
    | zero => intro v1 v2 uh1 q1 hF; cases hF
    | succ fuel ih =>
      intro v1 v2 uh1 q1 hF T1 lc1 X1 N1 h1 e1 P1 kont
      rw [own_complete_L4] at hF
      refine own_by (B := T1.setTop (mkF m 5 #[VR (A 0), VI v1, VI v2] [(.int v2)])) (fun _ k => XS.iloadN X1.here hx rfl (hb hby d7_4) rfl  k) ?_
      refine own_by (B := T1.setTop (mkF m 6 #[VR (A 0), VI v1, VI v2] [(.ref (A 0)), (.int v2)])) (fun _ k => XS.aloadN X1.here hx rfl (hb hby d7_5) rfl rfl  k) ?_
      obtain ⟨T2, X2, e2, st2⟩ := getF X1 hx hZ hown (host := "") (Or.inl (own_hw 54 hw rfl)) Via.refl e1 (own_PS_fro P1) (g := (mkF m 6 #[VR (A 0), VI v1, VI v2] [(.ref (A 0)), (.int v2)])) rfl rfl (hb hby d7_6)
      refine own_by (B := T2.setTop (mkF m 9 #[VR (A 0), VI v1, VI v2] [(.int (own_ro uh1)), (.int v2)])) st2 ?_
      by_cases hc3 : v2 < (own_ro uh1)
      · rw [if_pos hc3] at hF
        refine own_by (B := T2.setTop (mkF m 12 #[VR (A 0), VI v1, VI v2] [])) (fun _ k => XS.icmpNo X2.here hx rfl (hb hby d7_9) rfl (XT.ii_ge_f hc3) k) ?_
        refine own_by (B := T2.setTop (mkF m 13 #[VR (A 0), VI v1, VI v2] [(.int v1)])) (fun _ k => XS.iloadN X2.here hx rfl (hb hby d7_12) rfl  k) ?_
        by_cases hc4 : v1 = (0 : Int32)
        · rw [if_pos hc4] at hF
          refine own_by (B := T2.setTop (mkF m 48 #[VR (A 0), VI v1, VI v2] [])) (fun _ k => XS.ifYes X2.here hx rfl (pc0 := 13) (pc' := 48) rfl (hb hby d7_13) rfl (XT.i0_eq_t hc4) (by decide) (by decide) k) ?_
          obtain rfl := Option.some.inj hF
          exact kont _ _ X2 N1 _ e2 P1
        · rw [if_neg hc4] at hF
          refine own_by (B := T2.setTop (mkF m 16 #[VR (A 0), VI v1, VI v2] [])) (fun _ k => XS.ifNo X2.here hx rfl (hb hby d7_13) rfl (XT.i0_eq_f hc4) k) ?_
          refine own_by (B := T2.setTop (mkF m 17 #[VR (A 0), VI v1, VI v2] [(.ref (A 0))])) (fun _ k => XS.aloadN X2.here hx rfl (hb hby d7_16) rfl rfl  k) ?_
          obtain ⟨T5, X5, e5, st5⟩ := getF X2 hx hZ hown (host := "") (Or.inl (own_hw 23 hw rfl)) Via.refl e2 (own_PS_f3 P1) (g := (mkF m 17 #[VR (A 0), VI v1, VI v2] [(.ref (A 0))])) rfl rfl (hb hby d7_17)
          refine own_by (B := T5.setTop (mkF m 20 #[VR (A 0), VI v1, VI v2] [(.ref (A 3))])) st5 ?_
          refine own_by (B := T5.setTop (mkF m 21 #[VR (A 0), VI v1, VI v2] [(.int v2), (.ref (A 3))])) (fun _ k => XS.iloadN X5.here hx rfl (hb hby d7_20) rfl  k) ?_
          obtain ⟨w6, hw6, hF⟩ := own_bind hF
          refine own_by (B := T5.setTop (mkF m 22 #[VR (A 0), VI v1, VI v2] [(.int w6)])) (own_ldI X5 hx hZ e5 (own_PS_v3 P1) hw6 (g := (mkF m 21 #[VR (A 0), VI v1, VI v2] [(.int v2), (.ref (A 3))])) rfl rfl (hb hby d7_21)) ?_
          refine own_by (B := T5.setTop (mkF m 23 #[VR (A 0), VI v1, VI v2] [(.int (-1 : Int32)), (.int w6)])) (fun _ k => XS.iconst X5.here hx rfl (hb hby d7_22) k) ?_
          by_cases hc7 : w6 = (-1 : Int32)
          · rw [if_pos hc7] at hF
            refine own_by (B := T5.setTop (mkF m 26 #[VR (A 0), VI v1, VI v2] [])) (fun _ k => XS.icmpNo X5.here hx rfl (hb hby d7_23) rfl (XT.ii_ne_f hc7) k) ?_
            refine own_by (B := T5.setTop (mkF m 27 #[VR (A 0), VI v1, VI v2] [(.ref (A 0))])) (fun _ k => XS.aloadN X5.here hx rfl (hb hby d7_26) rfl rfl  k) ?_
            refine own_by (B := T5.setTop (mkF m 28 #[VR (A 0), VI v1, VI v2] [(.ref (A 0)), (.ref (A 0))])) (fun _ k => XS.dup X5.here hx rfl (hb hby d7_27) rfl rfl k) ?_
            obtain ⟨T8, X8, e8, st8⟩ := getF X5 hx hZ hown (host := "") (Or.inl (own_hw 62 hw rfl)) Via.refl e5 (own_PS_fse P1) (g := (mkF m 28 #[VR (A 0), VI v1, VI v2] [(.ref (A 0)), (.ref (A 0))])) rfl rfl (hb hby d7_28)
            refine own_by (B := T8.setTop (mkF m 31 #[VR (A 0), VI v1, VI v2] [(.long (own_se uh1)), (.ref (A 0))])) st8 ?_
            refine own_by (B := T8.setTop (mkF m 32 #[VR (A 0), VI v1, VI v2] [(.long (1 : Int64)), (.long (own_se uh1)), (.ref (A 0))])) (fun _ k => XT.lconst X8.here hx rfl (hb hby d7_31) k) ?_
            refine own_by (B := T8.setTop (mkF m 33 #[VR (A 0), VI v1, VI v2] [(.long ((own_se uh1) + (1 : Int64))), (.ref (A 0))])) (fun _ k => XT.ladd X8.here hx rfl (hb hby d7_32) rfl k) ?_
            obtain ⟨u9, hu9, hF⟩ := own_bind hF
            obtain ⟨T9, h9, X9, e9, W9, st9⟩ := putF X8 hx hZ hown (host := "") (Or.inl (own_hw 62 hw rfl)) Via.refl e8 (own_PS_fse P1) (own_PS_E P1) (Or.inl (own_hw 63 hw rfl)) (own_hw 9 hw rfl) (ty := .long) (by decide) rfl rfl (g := (mkF m 33 #[VR (A 0), VI v1, VI v2] [(.long ((own_se uh1) + (1 : Int64))), (.ref (A 0))])) rfl rfl (hb hby d7_33)
            have P9 : own_PS Z h9 n0 A K zr zc CA CK CL u9 := Option.some.inj hu9 ▸ own_w_se P1 hw W9
            have N9 := Fr.snoc X9 N1 (own_PS_gn P1).1
            refine own_by (B := T9.setTop (mkF m 36 #[VR (A 0), VI v1, VI v2] [])) st9 ?_
            refine own_by (B := T9.setTop (mkF m 37 #[VR (A 0), VI v1, VI v2] [(.ref (A 0))])) (fun _ k => XS.aloadN X9.here hx rfl (hb hby d7_36) rfl rfl  k) ?_
            refine own_by (B := T9.setTop (mkF m 38 #[VR (A 0), VI v1, VI v2] [(.int v2), (.ref (A 0))])) (fun _ k => XS.iloadN X9.here hx rfl (hb hby d7_37) rfl  k) ?_
            obtain ⟨q10, hq10, hF⟩ := own_bind hF
            obtain ⟨cq11, qa11, qc11⟩ := Exa.cell (own_PS_E P9)
            obtain ⟨_, _, ⟨T11, L11, k11, n11⟩, -, X11, ⟨Lc11, hQ11, l11, y11, z11⟩, st11⟩ := X9.privateBack hx (y := (⟨"com/example/document_pattern_rules/documentpatternrules/pattern/Pairing", "augment", "(I)Z"⟩ : MethodName)) hown (mvT hZ (own_hw 64 hw rfl)) (mvT hZ (own_hw 65 hw rfl)) (mvT hZ (own_selpriv (y := (⟨"com/example/document_pattern_rules/documentpatternrules/pattern/Pairing", "augment", "(I)Z"⟩ : MethodName)) (own_hw 9 hw rfl) (own_hw 66 hw rfl) (own_hw 65 hw rfl) (by decide))) (Cond.privateMethod_at (mvP hZ (own_hw 66 hw rfl) (args := #[]))) (mvT hZ (own_hw 67 hw rfl)) (by decide) (backOf (W := 0) (rm_augment l Z a0 hw [] A K zr zc CA CK CL u9 _ v2 h9 n0 (Nat.le_trans (own_PS_gn P9).1 (Nat.le_of_lt (own_PS_E P9).lt)) P9 hq10) hZ (own_hw 67 hw rfl) (own_hw 10 hw rfl) (by decide) (by decide)) (g := (mkF m 38 #[VR (A 0), VI v1, VI v2] [(.int v2), (.ref (A 0))])) rfl (by rw [hml]; rfl) (Steps.refl _) (a := (A 0)) (by rw [e9]; exact qa11) qc11 (argsL := [(.int v2)]) (rest := []) (lenOf pd_7__I_Z rfl) rfl (by show 2 * 0 + _ ≤ _; exact Nat.le_of_eq rfl) (hb hby d7_38) (fun _ _ => ⟨rfl, e9, (by decide : 0 + 0 ≤ _), (by decide : 0 + 0 ≤ _)⟩)
            dsimp only [Pt.U, Pt.locs, Pt.cells, Pt.slots] at X11 l11 y11 z11 st11 hQ11
            subst l11 y11 z11
            obtain ⟨rfl, NC11, PC11⟩ := hQ11
            refine own_by (B := T11.setTop (mkF m 41 #[VR (A 0), VI v1, VI v2] [(.int (q10.1))])) (fun _ k => st11.trans k) ?_
            obtain ⟨h11, e11⟩ : ∃ z, T11.heap = z := ⟨_, rfl⟩
            rw [e11] at PC11
            have N11 := Fr.app N9 NC11
            refine own_by (B := T11.setTop (mkF m 42 #[VR (A 0), VI (q10.1), VI v2] [])) (fun _ k => XS.istoreN X11.here hx rfl (hb hby d7_41) rfl (l' := #[VR (A 0), VI (q10.1), VI v2]) rfl k) ?_
            refine own_by (B := T11.setTop (mkF m 45 #[VR (A 0), VI (q10.1), VI (v2 + (1 : Int32))] [])) (fun _ k => XS.iinc X11.here hx rfl (hb hby d7_42) rfl (l' := #[VR (A 0), VI (q10.1), VI (v2 + (1 : Int32))]) rfl k) ?_
            refine own_by (B := T11.setTop (mkF m 4 #[VR (A 0), VI (q10.1), VI (v2 + (1 : Int32))] [])) (fun _ k => XS.goto X11.here hx rfl (pc0 := 45) (pc' := 4) rfl (hb hby d7_45) (by decide) (by decide) k) ?_
            exact ih (q10.1) (v2 + (1 : Int32)) (q10.2) _ hF _ _ X11 N11 _ e11 PC11 kont
          · rw [if_neg hc7] at hF
            refine own_by (B := T5.setTop (mkF m 42 #[VR (A 0), VI v1, VI v2] [])) (fun _ k => XS.icmpYes X5.here hx rfl (pc0 := 23) (pc' := 42) rfl (hb hby d7_23) rfl (XT.ii_ne_t hc7) (by decide) (by decide) k) ?_
            refine own_by (B := T5.setTop (mkF m 45 #[VR (A 0), VI v1, VI (v2 + (1 : Int32))] [])) (fun _ k => XS.iinc X5.here hx rfl (hb hby d7_42) rfl (l' := #[VR (A 0), VI v1, VI (v2 + (1 : Int32))]) rfl k) ?_
            refine own_by (B := T5.setTop (mkF m 4 #[VR (A 0), VI v1, VI (v2 + (1 : Int32))] [])) (fun _ k => XS.goto X5.here hx rfl (pc0 := 45) (pc' := 4) rfl (hb hby d7_45) (by decide) (by decide) k) ?_
            exact ih v1 (v2 + (1 : Int32)) uh1 _ hF _ _ X5 N1 _ e5 P1 kont
      · rw [if_neg hc3] at hF
        refine own_by (B := T2.setTop (mkF m 48 #[VR (A 0), VI v1, VI v2] [])) (fun _ k => XS.icmpYes X2.here hx rfl (pc0 := 9) (pc' := 48) rfl (hb hby d7_9) rfl (XT.ii_ge_t hc3) (by decide) (by decide) k) ?_
        obtain rfl := Option.some.inj hF
        exact kont _ _ X2 N1 _ e2 P1
  obtain ⟨q12, hq12, hF⟩ := own_bind hF
  refine hloop4 8 (1 : Int32) (0 : Int32) u0 _ hq12 _ _ X0 N0 _ e0 P0 ?_
  intro T13 lc13 X13 N13 h13 e13 P13
  refine own_by (B := T13.setTop (mkF m 49 #[VR (A 0), VI (q12.1), VI (q12.2.1)] [(.int (q12.1))])) (fun _ k => XS.iloadN X13.here hx rfl (hb hby d7_48) rfl  k) ?_
  obtain rfl := Option.some.inj hF
  exact own_retB X13 hx hrt hlk (hb hby d7_49) (by decide) (by decide) (by show own_QPr Z ((((q12.1) &&& (1 : Int32)), (q12.2.2))) n0 A K zr zc CA CK CL _ T13.heap _; rw [e13]; exact ⟨rfl, N13, P13⟩)

def own_take (CL : List (List Int32)) (u0 : own_S) (ux uy : Int32) : Option (Int32 × own_S) := (own_ld_pa u0 ux).bind fun w2 => (own_ld_ho u0 uy).bind fun w4 => if w4 = (-1 : Int32) then ((own_leave CL u0 ux w2).bind fun q6 => (own_st_ho q6 w2 (-1 : Int32)).bind fun u9 => (own_hold CL u9 ux uy).bind fun q10 => some (((1 : Int32) &&& (1 : Int32)), q10)) else ((own_ld_fi u0 w4).bind fun w13 => if w13 = (0 : Int32) then ((own_leave CL u0 ux w2).bind fun q15 => (own_st_ho q15 w2 (-1 : Int32)).bind fun u18 => (own_hold CL u18 ux uy).bind fun q19 => (own_ld_F q19 w4).bind fun i22 => ((CL[i22]? : Option (List Int32))).bind fun Lc22 => (own_binarySearch2 CL q19 Lc22 w2).bind fun q23 => if (q23.1) < (0 : Int32) then ((own_st_pa (q23.2) w4 (-1 : Int32)).bind fun u27 => ((some (own_se_set u27 ((own_se u27) + (1 : Int64))) : Option own_S)).bind fun u29 => (own_augment CL u29 w4).bind fun q30 => if (q30.1) = (0 : Int32) then ((own_hold CL (q30.2) w4 uy).bind fun q33 => (own_hold CL q33 ux w2).bind fun q35 => some (((q30.1) &&& (1 : Int32)), q35)) else (some (((q30.1) &&& (1 : Int32)), (q30.2)))) else ((own_hold CL (q23.2) w4 w2).bind fun q37 => some (((1 : Int32) &&& (1 : Int32)), q37))) else (some (((0 : Int32) &&& (1 : Int32)), u0)))

theorem d19_0 : decode prog_77_method_8_code 0 = .ok (.aload_n 0, 1) := by decide +kernel
theorem d19_1 : decode prog_77_method_8_code 1 = .ok (.getfield 18, 3) := by decide +kernel
theorem d19_4 : decode prog_77_method_8_code 4 = .ok (.iload_n 1, 1) := by decide +kernel
theorem d19_5 : decode prog_77_method_8_code 5 = .ok (.iaload, 1) := by decide +kernel
theorem d19_6 : decode prog_77_method_8_code 6 = .ok (.istore_n 3, 1) := by decide +kernel
theorem d19_7 : decode prog_77_method_8_code 7 = .ok (.aload_n 0, 1) := by decide +kernel
theorem d19_8 : decode prog_77_method_8_code 8 = .ok (.getfield 21, 3) := by decide +kernel
theorem d19_11 : decode prog_77_method_8_code 11 = .ok (.iload_n 2, 1) := by decide +kernel
theorem d19_12 : decode prog_77_method_8_code 12 = .ok (.iaload, 1) := by decide +kernel
theorem d19_13 : decode prog_77_method_8_code 13 = .ok (.istore 4, 2) := by decide +kernel
theorem d19_15 : decode prog_77_method_8_code 15 = .ok (.iload 4, 2) := by decide +kernel
theorem d19_17 : decode prog_77_method_8_code 17 = .ok (.iconst (-1), 1) := by decide +kernel
theorem d19_18 : decode prog_77_method_8_code 18 = .ok (.if_icmp .eq 13, 3) := by decide +kernel
theorem d19_21 : decode prog_77_method_8_code 21 = .ok (.aload_n 0, 1) := by decide +kernel
theorem d19_22 : decode prog_77_method_8_code 22 = .ok (.getfield 24, 3) := by decide +kernel
theorem d19_25 : decode prog_77_method_8_code 25 = .ok (.iload 4, 2) := by decide +kernel
theorem d19_27 : decode prog_77_method_8_code 27 = .ok (.baload, 1) := by decide +kernel
theorem d19_28 : decode prog_77_method_8_code 28 = .ok (.ifCond .ne 7, 3) := by decide +kernel
theorem d19_31 : decode prog_77_method_8_code 31 = .ok (.iconst 1, 1) := by decide +kernel
theorem d19_32 : decode prog_77_method_8_code 32 = .ok (.goto 4, 3) := by decide +kernel
theorem d19_35 : decode prog_77_method_8_code 35 = .ok (.iconst 0, 1) := by decide +kernel
theorem d19_36 : decode prog_77_method_8_code 36 = .ok (.istore 5, 2) := by decide +kernel
theorem d19_38 : decode prog_77_method_8_code 38 = .ok (.iload 5, 2) := by decide +kernel
theorem d19_40 : decode prog_77_method_8_code 40 = .ok (.ifCond .eq 102, 3) := by decide +kernel
theorem d19_43 : decode prog_77_method_8_code 43 = .ok (.aload_n 0, 1) := by decide +kernel
theorem d19_44 : decode prog_77_method_8_code 44 = .ok (.iload_n 1, 1) := by decide +kernel
theorem d19_45 : decode prog_77_method_8_code 45 = .ok (.iload_n 3, 1) := by decide +kernel
theorem d19_46 : decode prog_77_method_8_code 46 = .ok (.invokevirtual 60, 3) := by decide +kernel
theorem d19_49 : decode prog_77_method_8_code 49 = .ok (.aload_n 0, 1) := by decide +kernel
theorem d19_50 : decode prog_77_method_8_code 50 = .ok (.getfield 21, 3) := by decide +kernel
theorem d19_53 : decode prog_77_method_8_code 53 = .ok (.iload_n 3, 1) := by decide +kernel
theorem d19_54 : decode prog_77_method_8_code 54 = .ok (.iconst (-1), 1) := by decide +kernel
theorem d19_55 : decode prog_77_method_8_code 55 = .ok (.iastore, 1) := by decide +kernel
theorem d19_56 : decode prog_77_method_8_code 56 = .ok (.aload_n 0, 1) := by decide +kernel
theorem d19_57 : decode prog_77_method_8_code 57 = .ok (.iload_n 1, 1) := by decide +kernel
theorem d19_58 : decode prog_77_method_8_code 58 = .ok (.iload_n 2, 1) := by decide +kernel
theorem d19_59 : decode prog_77_method_8_code 59 = .ok (.invokevirtual 82, 3) := by decide +kernel
theorem d19_62 : decode prog_77_method_8_code 62 = .ok (.iload 4, 2) := by decide +kernel
theorem d19_64 : decode prog_77_method_8_code 64 = .ok (.iconst (-1), 1) := by decide +kernel
theorem d19_65 : decode prog_77_method_8_code 65 = .ok (.if_icmp .eq 27, 3) := by decide +kernel
theorem d19_68 : decode prog_77_method_8_code 68 = .ok (.aload_n 0, 1) := by decide +kernel
theorem d19_69 : decode prog_77_method_8_code 69 = .ok (.getfield 9, 3) := by decide +kernel
theorem d19_72 : decode prog_77_method_8_code 72 = .ok (.iload 4, 2) := by decide +kernel
theorem d19_74 : decode prog_77_method_8_code 74 = .ok (.aaload, 1) := by decide +kernel
theorem d19_75 : decode prog_77_method_8_code 75 = .ok (.iload_n 3, 1) := by decide +kernel
theorem d19_76 : decode prog_77_method_8_code 76 = .ok (.invokestatic 85, 3) := by decide +kernel
theorem d19_79 : decode prog_77_method_8_code 79 = .ok (.ifCond .lt 13, 3) := by decide +kernel
theorem d19_82 : decode prog_77_method_8_code 82 = .ok (.aload_n 0, 1) := by decide +kernel
theorem d19_83 : decode prog_77_method_8_code 83 = .ok (.iload 4, 2) := by decide +kernel
theorem d19_85 : decode prog_77_method_8_code 85 = .ok (.iload_n 3, 1) := by decide +kernel
theorem d19_86 : decode prog_77_method_8_code 86 = .ok (.invokevirtual 82, 3) := by decide +kernel
theorem d19_89 : decode prog_77_method_8_code 89 = .ok (.goto 53, 3) := by decide +kernel
theorem d19_92 : decode prog_77_method_8_code 92 = .ok (.iload 4, 2) := by decide +kernel
theorem d19_94 : decode prog_77_method_8_code 94 = .ok (.iconst (-1), 1) := by decide +kernel
theorem d19_95 : decode prog_77_method_8_code 95 = .ok (.if_icmp .eq 47, 3) := by decide +kernel
theorem d19_98 : decode prog_77_method_8_code 98 = .ok (.aload_n 0, 1) := by decide +kernel
theorem d19_99 : decode prog_77_method_8_code 99 = .ok (.getfield 18, 3) := by decide +kernel
theorem d19_102 : decode prog_77_method_8_code 102 = .ok (.iload 4, 2) := by decide +kernel
theorem d19_104 : decode prog_77_method_8_code 104 = .ok (.iconst (-1), 1) := by decide +kernel
theorem d19_105 : decode prog_77_method_8_code 105 = .ok (.iastore, 1) := by decide +kernel
theorem d19_106 : decode prog_77_method_8_code 106 = .ok (.aload_n 0, 1) := by decide +kernel
theorem d19_107 : decode prog_77_method_8_code 107 = .ok (.dup, 1) := by decide +kernel
theorem d19_108 : decode prog_77_method_8_code 108 = .ok (.getfield 64, 3) := by decide +kernel
theorem d19_111 : decode prog_77_method_8_code 111 = .ok (.lconst 1, 1) := by decide +kernel
theorem d19_112 : decode prog_77_method_8_code 112 = .ok (.ladd, 1) := by decide +kernel
theorem d19_113 : decode prog_77_method_8_code 113 = .ok (.putfield 64, 3) := by decide +kernel
theorem d19_116 : decode prog_77_method_8_code 116 = .ok (.aload_n 0, 1) := by decide +kernel
theorem d19_117 : decode prog_77_method_8_code 117 = .ok (.iload 4, 2) := by decide +kernel
theorem d19_119 : decode prog_77_method_8_code 119 = .ok (.invokevirtual 68, 3) := by decide +kernel
theorem d19_122 : decode prog_77_method_8_code 122 = .ok (.istore 5, 2) := by decide +kernel
theorem d19_124 : decode prog_77_method_8_code 124 = .ok (.iload 5, 2) := by decide +kernel
theorem d19_126 : decode prog_77_method_8_code 126 = .ok (.ifCond .ne 16, 3) := by decide +kernel
theorem d19_129 : decode prog_77_method_8_code 129 = .ok (.aload_n 0, 1) := by decide +kernel
theorem d19_130 : decode prog_77_method_8_code 130 = .ok (.iload 4, 2) := by decide +kernel
theorem d19_132 : decode prog_77_method_8_code 132 = .ok (.iload_n 2, 1) := by decide +kernel
theorem d19_133 : decode prog_77_method_8_code 133 = .ok (.invokevirtual 82, 3) := by decide +kernel
theorem d19_136 : decode prog_77_method_8_code 136 = .ok (.aload_n 0, 1) := by decide +kernel
theorem d19_137 : decode prog_77_method_8_code 137 = .ok (.iload_n 1, 1) := by decide +kernel
theorem d19_138 : decode prog_77_method_8_code 138 = .ok (.iload_n 3, 1) := by decide +kernel
theorem d19_139 : decode prog_77_method_8_code 139 = .ok (.invokevirtual 82, 3) := by decide +kernel
theorem d19_142 : decode prog_77_method_8_code 142 = .ok (.iload 5, 2) := by decide +kernel
theorem d19_144 : decode prog_77_method_8_code 144 = .ok (.ireturn, 1) := by decide +kernel
theorem pd_19__II_V : parseMethodDescriptor "(II)V" = some ⟨[.int, .int], none⟩ := by decide +kernel
theorem pd_19___II_I : parseMethodDescriptor "([II)I" = some ⟨[(.array .int), .int], some .int⟩ := by decide +kernel
theorem pd_19__I_Z : parseMethodDescriptor "(I)Z" = some ⟨[.int], some .boolean⟩ := by decide +kernel
theorem pn_rm_take : plainFor (⟨"com/example/document_pattern_rules/documentpatternrules/pattern/Pairing", "take", "(II)Z"⟩ : MethodName) = true := by first | exact plainFor_of_name (by first | (simp [plainName, overriddenIn]; done) | decide +kernel) | exact Jvm.Free.JP.mathPlain rfl (by decide +kernel) | decide +kernel
theorem ef_rm_take (m : MethodId) (x0 : Nat) (x1 : Int32) (x2 : Int32) : entryFrame m #[(.ref x0), (.int x1), (.int x2)] 6 = mkF m 0 #[VR x0, VI x1, VI x2, UU, UU, UU] [] := by first | (simp [entryFrame, mkF, argsToLocals, Value.category]; done) | rfl
set_option maxRecDepth 65536 in
set_option maxHeartbeats 40000000 in
theorem rm_take (l : Launch) (Z : State) (a0 : Array Value) (hw : ∀ d ∈ tables_1, d.before a0 Z = true) (ws : List Jvm.Cond) (A : Nat → Nat) (K : Nat → ClassId) (zr zc : Int32) (CA : Nat → Nat) (CK : Nat → ClassId) (CL : List (List Int32)) (u0 : own_S) (ru : Int32 × own_S) (ux uy : Int32) (h0 : Heap) (n0 : Nat) (Z0 : n0 ≤ h0.size) (P0 : own_PS Z h0 n0 A K zr zc CA CK CL u0) (hF : own_take CL u0 ux uy = some ru) :
    MetFree l (⟨"com/example/document_pattern_rules/documentpatternrules/pattern/Pairing", "take", "(II)Z"⟩ : MethodName) (head1 (Jvm.Cond.code (⟨"com/example/document_pattern_rules/documentpatternrules/pattern/Pairing", "take", "(II)Z"⟩ : MethodName) prog_77_method_8_code 6 (some .boolean) :: ws) ({ frames := 5, cells := 0, slots := 0, locals := 87 } : Room)) (fun a U => a = #[(.ref (A 0)), (.int ux), (.int uy)] ∧ Z.Warmed39 U.vm ∧ U.heap = h0) (fun _ _ _ _ _ => True) (fun _ U o U' => ∃ v L, o = .returned v ∧ (own_QPr Z ru n0 A K zr zc CA CK CL) v U'.heap L ∧ FrameEnd U o U' L 0 0) := by
  refine MetFree.of_bodySF pn_rm_take hisR ?_
  intro p e s m args below meth c s₁ Bd hml0 hP hK
  obtain ⟨rfl, hZ, hh⟩ := hP
  have hx := Bd.exec
  have hby := Bd.bytes
  have hml : c.maxLocals = 6 := hml0
  have hown : s.vm.findClass "com/example/document_pattern_rules/documentpatternrules/pattern/Pairing" = some m.cls := findClass_of_methodNamed Bd.named
  have hnm := (name_of_methodNamed Bd.named Bd.method).1
  have hrt := Bd.returns
  have hlk := Bd.notSynchronized
  have X0 : Stand p l e ({ frames := 5, cells := 0, slots := 0, locals := 87 } : Room) s m #[(.ref (A 0)), (.int ux), (.int uy)] below meth c s₁ [] 0 0 := Stand.of_body Bd
  have e0 : s₁.heap = h0 := by rw [← hh, Bd.state]; rfl
  have N0 := Fr.nil n0
  unfold own_take at hF
  refine own_done (B := s₁.setTop (mkF m 0 #[VR (A 0), VI ux, VI uy, UU, UU, UU] [])) (fun t k => castTop (ef_rm_take m (A 0) ux uy) k) ?_
  refine own_by (B := s₁.setTop (mkF m 1 #[VR (A 0), VI ux, VI uy, UU, UU, UU] [(.ref (A 0))])) (fun _ k => XS.aloadN X0.here hx rfl (hb hby d19_0) rfl rfl  k) ?_
  obtain ⟨T1, X1, e1, st1⟩ := getF X0 hx hZ hown (host := "") (Or.inl (own_hw 23 hw rfl)) Via.refl e0 (own_PS_f3 P0) (g := (mkF m 1 #[VR (A 0), VI ux, VI uy, UU, UU, UU] [(.ref (A 0))])) rfl rfl (hb hby d19_1)
  refine own_by (B := T1.setTop (mkF m 4 #[VR (A 0), VI ux, VI uy, UU, UU, UU] [(.ref (A 3))])) st1 ?_
  refine own_by (B := T1.setTop (mkF m 5 #[VR (A 0), VI ux, VI uy, UU, UU, UU] [(.int ux), (.ref (A 3))])) (fun _ k => XS.iloadN X1.here hx rfl (hb hby d19_4) rfl  k) ?_
  obtain ⟨w2, hw2, hF⟩ := own_bind hF
  refine own_by (B := T1.setTop (mkF m 6 #[VR (A 0), VI ux, VI uy, UU, UU, UU] [(.int w2)])) (own_ldI X1 hx hZ e1 (own_PS_v3 P0) hw2 (g := (mkF m 5 #[VR (A 0), VI ux, VI uy, UU, UU, UU] [(.int ux), (.ref (A 3))])) rfl rfl (hb hby d19_5)) ?_
  refine own_by (B := T1.setTop (mkF m 7 #[VR (A 0), VI ux, VI uy, VI w2, UU, UU] [])) (fun _ k => XS.istoreN X1.here hx rfl (hb hby d19_6) rfl (l' := #[VR (A 0), VI ux, VI uy, VI w2, UU, UU]) rfl k) ?_
  refine own_by (B := T1.setTop (mkF m 8 #[VR (A 0), VI ux, VI uy, VI w2, UU, UU] [(.ref (A 0))])) (fun _ k => XS.aloadN X1.here hx rfl (hb hby d19_7) rfl rfl  k) ?_
  obtain ⟨T3, X3, e3, st3⟩ := getF X1 hx hZ hown (host := "") (Or.inl (own_hw 25 hw rfl)) Via.refl e1 (own_PS_f4 P0) (g := (mkF m 8 #[VR (A 0), VI ux, VI uy, VI w2, UU, UU] [(.ref (A 0))])) rfl rfl (hb hby d19_8)
  refine own_by (B := T3.setTop (mkF m 11 #[VR (A 0), VI ux, VI uy, VI w2, UU, UU] [(.ref (A 4))])) st3 ?_
  refine own_by (B := T3.setTop (mkF m 12 #[VR (A 0), VI ux, VI uy, VI w2, UU, UU] [(.int uy), (.ref (A 4))])) (fun _ k => XS.iloadN X3.here hx rfl (hb hby d19_11) rfl  k) ?_
  obtain ⟨w4, hw4, hF⟩ := own_bind hF
  refine own_by (B := T3.setTop (mkF m 13 #[VR (A 0), VI ux, VI uy, VI w2, UU, UU] [(.int w4)])) (own_ldI X3 hx hZ e3 (own_PS_v4 P0) hw4 (g := (mkF m 12 #[VR (A 0), VI ux, VI uy, VI w2, UU, UU] [(.int uy), (.ref (A 4))])) rfl rfl (hb hby d19_12)) ?_
  refine own_by (B := T3.setTop (mkF m 15 #[VR (A 0), VI ux, VI uy, VI w2, VI w4, UU] [])) (fun _ k => XS.istore X3.here hx rfl (hb hby d19_13) rfl (l' := #[VR (A 0), VI ux, VI uy, VI w2, VI w4, UU]) rfl k) ?_
  refine own_by (B := T3.setTop (mkF m 17 #[VR (A 0), VI ux, VI uy, VI w2, VI w4, UU] [(.int w4)])) (fun _ k => XS.iload X3.here hx rfl (hb hby d19_15) rfl  k) ?_
  refine own_by (B := T3.setTop (mkF m 18 #[VR (A 0), VI ux, VI uy, VI w2, VI w4, UU] [(.int (-1 : Int32)), (.int w4)])) (fun _ k => XS.iconst X3.here hx rfl (hb hby d19_17) k) ?_
  by_cases hc5 : w4 = (-1 : Int32)
  · rw [if_pos hc5] at hF
    refine own_by (B := T3.setTop (mkF m 31 #[VR (A 0), VI ux, VI uy, VI w2, VI w4, UU] [])) (fun _ k => XS.icmpYes X3.here hx rfl (pc0 := 18) (pc' := 31) rfl (hb hby d19_18) rfl (XT.ii_eq_t hc5) (by decide) (by decide) k) ?_
    refine own_by (B := T3.setTop (mkF m 32 #[VR (A 0), VI ux, VI uy, VI w2, VI w4, UU] [(.int 1)])) (fun _ k => XS.iconst X3.here hx rfl (hb hby d19_31) k) ?_
    refine own_by (B := T3.setTop (mkF m 36 #[VR (A 0), VI ux, VI uy, VI w2, VI w4, UU] [(.int 1)])) (fun _ k => XS.goto X3.here hx rfl (pc0 := 32) (pc' := 36) rfl (hb hby d19_32) (by decide) (by decide) k) ?_
    refine own_by (B := T3.setTop (mkF m 38 #[VR (A 0), VI ux, VI uy, VI w2, VI w4, VI 1] [])) (fun _ k => XS.istore X3.here hx rfl (hb hby d19_36) rfl (l' := #[VR (A 0), VI ux, VI uy, VI w2, VI w4, VI 1]) rfl k) ?_
    refine own_by (B := T3.setTop (mkF m 40 #[VR (A 0), VI ux, VI uy, VI w2, VI w4, VI 1] [(.int 1)])) (fun _ k => XS.iload X3.here hx rfl (hb hby d19_38) rfl  k) ?_
    refine own_by (B := T3.setTop (mkF m 43 #[VR (A 0), VI ux, VI uy, VI w2, VI w4, VI 1] [])) (fun _ k => XS.ifNo X3.here hx rfl (hb hby d19_40) rfl (XT.i0_eq_f (by decide)) k) ?_
    refine own_by (B := T3.setTop (mkF m 44 #[VR (A 0), VI ux, VI uy, VI w2, VI w4, VI 1] [(.ref (A 0))])) (fun _ k => XS.aloadN X3.here hx rfl (hb hby d19_43) rfl rfl  k) ?_
    refine own_by (B := T3.setTop (mkF m 45 #[VR (A 0), VI ux, VI uy, VI w2, VI w4, VI 1] [(.int ux), (.ref (A 0))])) (fun _ k => XS.iloadN X3.here hx rfl (hb hby d19_44) rfl  k) ?_
    refine own_by (B := T3.setTop (mkF m 46 #[VR (A 0), VI ux, VI uy, VI w2, VI w4, VI 1] [(.int w2), (.int ux), (.ref (A 0))])) (fun _ k => XS.iloadN X3.here hx rfl (hb hby d19_45) rfl  k) ?_
    obtain ⟨q6, hq6, hF⟩ := own_bind hF
    obtain ⟨cq7, qa7, qc7⟩ := Exa.cell (own_PS_E P0)
    obtain ⟨_, _, ⟨T7, L7, k7, n7⟩, -, X7, ⟨Lc7, hQ7, l7, y7, z7⟩, st7⟩ := X3.privateBack hx (y := (⟨"com/example/document_pattern_rules/documentpatternrules/pattern/Pairing", "leave", "(II)V"⟩ : MethodName)) hown (mvT hZ (own_hw 90 hw rfl)) (mvT hZ (own_hw 91 hw rfl)) (mvT hZ (own_selpriv (y := (⟨"com/example/document_pattern_rules/documentpatternrules/pattern/Pairing", "leave", "(II)V"⟩ : MethodName)) (own_hw 9 hw rfl) (own_hw 92 hw rfl) (own_hw 91 hw rfl) (by decide))) (Cond.privateMethod_at (mvP hZ (own_hw 92 hw rfl) (args := #[]))) (mvT hZ (own_hw 93 hw rfl)) (by decide) (backOf (W := 0) (rm_leave l Z a0 hw [] A K zr zc CA CK CL u0 _ ux w2 h0 n0 (Nat.le_trans (own_PS_gn P0).1 (Nat.le_of_lt (own_PS_E P0).lt)) P0 hq6) hZ (own_hw 93 hw rfl) (own_hw 10 hw rfl) (by decide) (by decide)) (g := (mkF m 46 #[VR (A 0), VI ux, VI uy, VI w2, VI w4, VI 1] [(.int w2), (.int ux), (.ref (A 0))])) rfl (by rw [hml]; rfl) (Steps.refl _) (a := (A 0)) (by rw [e3]; exact qa7) qc7 (argsL := [(.int ux), (.int w2)]) (rest := []) (lenOf pd_19__II_V rfl) rfl (by show 2 * 0 + _ ≤ _; exact Nat.le_of_eq rfl) (hb hby d19_46) (fun _ _ => ⟨rfl, e3, (by decide : 0 + 0 ≤ _), (by decide : 0 + 0 ≤ _)⟩)
    dsimp only [Pt.U, Pt.locs, Pt.cells, Pt.slots] at X7 l7 y7 z7 st7 hQ7
    subst l7 y7 z7
    obtain ⟨rfl, NC7, PC7⟩ := hQ7
    refine own_by (B := T7.setTop (mkF m 49 #[VR (A 0), VI ux, VI uy, VI w2, VI w4, VI 1] [])) (fun _ k => st7.trans k) ?_
    obtain ⟨h7, e7⟩ : ∃ z, T7.heap = z := ⟨_, rfl⟩
    rw [e7] at PC7
    have N7 := Fr.app N0 NC7
    refine own_by (B := T7.setTop (mkF m 50 #[VR (A 0), VI ux, VI uy, VI w2, VI w4, VI 1] [(.ref (A 0))])) (fun _ k => XS.aloadN X7.here hx rfl (hb hby d19_49) rfl rfl  k) ?_
    obtain ⟨T8, X8, e8, st8⟩ := getF X7 hx hZ hown (host := "") (Or.inl (own_hw 25 hw rfl)) Via.refl e7 (own_PS_f4 PC7) (g := (mkF m 50 #[VR (A 0), VI ux, VI uy, VI w2, VI w4, VI 1] [(.ref (A 0))])) rfl rfl (hb hby d19_50)
    refine own_by (B := T8.setTop (mkF m 53 #[VR (A 0), VI ux, VI uy, VI w2, VI w4, VI 1] [(.ref (A 4))])) st8 ?_
    refine own_by (B := T8.setTop (mkF m 54 #[VR (A 0), VI ux, VI uy, VI w2, VI w4, VI 1] [(.int w2), (.ref (A 4))])) (fun _ k => XS.iloadN X8.here hx rfl (hb hby d19_53) rfl  k) ?_
    refine own_by (B := T8.setTop (mkF m 55 #[VR (A 0), VI ux, VI uy, VI w2, VI w4, VI 1] [(.int (-1 : Int32)), (.int w2), (.ref (A 4))])) (fun _ k => XS.iconst X8.here hx rfl (hb hby d19_54) k) ?_
    obtain ⟨u9, hu9, hF⟩ := own_bind hF
    obtain ⟨zl9, hz9, hu9'⟩ := Option.map_eq_some_iff.mp hu9
    obtain ⟨T9, h9, X9, e9, W9, V9, st9⟩ := own_stI X8 hx hZ e8 (own_PS_v4 PC7) hz9 (g := (mkF m 55 #[VR (A 0), VI ux, VI uy, VI w2, VI w4, VI 1] [(.int (-1 : Int32)), (.int w2), (.ref (A 4))])) rfl rfl (hb hby d19_55)
    have P9 : own_PS Z h9 n0 A K zr zc CA CK CL u9 := hu9' ▸ own_w_ho PC7 W9 V9
    have N9 := Fr.snoc X9 N7 (own_PS_gn PC7).2.2.2.2.1
    refine own_by (B := T9.setTop (mkF m 56 #[VR (A 0), VI ux, VI uy, VI w2, VI w4, VI 1] [])) st9 ?_
    refine own_by (B := T9.setTop (mkF m 57 #[VR (A 0), VI ux, VI uy, VI w2, VI w4, VI 1] [(.ref (A 0))])) (fun _ k => XS.aloadN X9.here hx rfl (hb hby d19_56) rfl rfl  k) ?_
    refine own_by (B := T9.setTop (mkF m 58 #[VR (A 0), VI ux, VI uy, VI w2, VI w4, VI 1] [(.int ux), (.ref (A 0))])) (fun _ k => XS.iloadN X9.here hx rfl (hb hby d19_57) rfl  k) ?_
    refine own_by (B := T9.setTop (mkF m 59 #[VR (A 0), VI ux, VI uy, VI w2, VI w4, VI 1] [(.int uy), (.int ux), (.ref (A 0))])) (fun _ k => XS.iloadN X9.here hx rfl (hb hby d19_58) rfl  k) ?_
    obtain ⟨q10, hq10, hF⟩ := own_bind hF
    obtain ⟨cq11, qa11, qc11⟩ := Exa.cell (own_PS_E P9)
    obtain ⟨_, _, ⟨T11, L11, k11, n11⟩, -, X11, ⟨Lc11, hQ11, l11, y11, z11⟩, st11⟩ := X9.privateBack hx (y := (⟨"com/example/document_pattern_rules/documentpatternrules/pattern/Pairing", "hold", "(II)V"⟩ : MethodName)) hown (mvT hZ (own_hw 75 hw rfl)) (mvT hZ (own_hw 76 hw rfl)) (mvT hZ (own_selpriv (y := (⟨"com/example/document_pattern_rules/documentpatternrules/pattern/Pairing", "hold", "(II)V"⟩ : MethodName)) (own_hw 9 hw rfl) (own_hw 77 hw rfl) (own_hw 76 hw rfl) (by decide))) (Cond.privateMethod_at (mvP hZ (own_hw 77 hw rfl) (args := #[]))) (mvT hZ (own_hw 78 hw rfl)) (by decide) (backOf (W := 0) (rm_hold l Z a0 hw [] A K zr zc CA CK CL u9 _ ux uy h9 n0 (Nat.le_trans (own_PS_gn P9).1 (Nat.le_of_lt (own_PS_E P9).lt)) P9 hq10) hZ (own_hw 78 hw rfl) (own_hw 10 hw rfl) (by decide) (by decide)) (g := (mkF m 59 #[VR (A 0), VI ux, VI uy, VI w2, VI w4, VI 1] [(.int uy), (.int ux), (.ref (A 0))])) rfl (by rw [hml]; rfl) (Steps.refl _) (a := (A 0)) (by rw [e9]; exact qa11) qc11 (argsL := [(.int ux), (.int uy)]) (rest := []) (lenOf pd_19__II_V rfl) rfl (by show 2 * 0 + _ ≤ _; exact Nat.le_of_eq rfl) (hb hby d19_59) (fun _ _ => ⟨rfl, e9, (by decide : 0 + 0 ≤ _), (by decide : 0 + 0 ≤ _)⟩)
    dsimp only [Pt.U, Pt.locs, Pt.cells, Pt.slots] at X11 l11 y11 z11 st11 hQ11
    subst l11 y11 z11
    obtain ⟨rfl, NC11, PC11⟩ := hQ11
    refine own_by (B := T11.setTop (mkF m 62 #[VR (A 0), VI ux, VI uy, VI w2, VI w4, VI 1] [])) (fun _ k => st11.trans k) ?_
    obtain ⟨h11, e11⟩ : ∃ z, T11.heap = z := ⟨_, rfl⟩
    rw [e11] at PC11
    have N11 := Fr.app N9 NC11
    refine own_by (B := T11.setTop (mkF m 64 #[VR (A 0), VI ux, VI uy, VI w2, VI w4, VI 1] [(.int w4)])) (fun _ k => XS.iload X11.here hx rfl (hb hby d19_62) rfl  k) ?_
    refine own_by (B := T11.setTop (mkF m 65 #[VR (A 0), VI ux, VI uy, VI w2, VI w4, VI 1] [(.int (-1 : Int32)), (.int w4)])) (fun _ k => XS.iconst X11.here hx rfl (hb hby d19_64) k) ?_
    refine own_by (B := T11.setTop (mkF m 92 #[VR (A 0), VI ux, VI uy, VI w2, VI w4, VI 1] [])) (fun _ k => XS.icmpYes X11.here hx rfl (pc0 := 65) (pc' := 92) rfl (hb hby d19_65) rfl (XT.ii_eq_t hc5) (by decide) (by decide) k) ?_
    refine own_by (B := T11.setTop (mkF m 94 #[VR (A 0), VI ux, VI uy, VI w2, VI w4, VI 1] [(.int w4)])) (fun _ k => XS.iload X11.here hx rfl (hb hby d19_92) rfl  k) ?_
    refine own_by (B := T11.setTop (mkF m 95 #[VR (A 0), VI ux, VI uy, VI w2, VI w4, VI 1] [(.int (-1 : Int32)), (.int w4)])) (fun _ k => XS.iconst X11.here hx rfl (hb hby d19_94) k) ?_
    refine own_by (B := T11.setTop (mkF m 142 #[VR (A 0), VI ux, VI uy, VI w2, VI w4, VI 1] [])) (fun _ k => XS.icmpYes X11.here hx rfl (pc0 := 95) (pc' := 142) rfl (hb hby d19_95) rfl (XT.ii_eq_t hc5) (by decide) (by decide) k) ?_
    refine own_by (B := T11.setTop (mkF m 144 #[VR (A 0), VI ux, VI uy, VI w2, VI w4, VI 1] [(.int 1)])) (fun _ k => XS.iload X11.here hx rfl (hb hby d19_142) rfl  k) ?_
    obtain rfl := Option.some.inj hF
    exact own_retB X11 hx hrt hlk (hb hby d19_144) (by decide) (by decide) (by show own_QPr Z ((((1 : Int32) &&& (1 : Int32)), q10)) n0 A K zr zc CA CK CL _ T11.heap _; rw [e11]; exact ⟨rfl, N11, PC11⟩)
  · rw [if_neg hc5] at hF
    refine own_by (B := T3.setTop (mkF m 21 #[VR (A 0), VI ux, VI uy, VI w2, VI w4, UU] [])) (fun _ k => XS.icmpNo X3.here hx rfl (hb hby d19_18) rfl (XT.ii_eq_f hc5) k) ?_
    refine own_by (B := T3.setTop (mkF m 22 #[VR (A 0), VI ux, VI uy, VI w2, VI w4, UU] [(.ref (A 0))])) (fun _ k => XS.aloadN X3.here hx rfl (hb hby d19_21) rfl rfl  k) ?_
    obtain ⟨T12, X12, e12, st12⟩ := getF X3 hx hZ hown (host := "") (Or.inl (own_hw 28 hw rfl)) Via.refl e3 (own_PS_f5 P0) (g := (mkF m 22 #[VR (A 0), VI ux, VI uy, VI w2, VI w4, UU] [(.ref (A 0))])) rfl rfl (hb hby d19_22)
    refine own_by (B := T12.setTop (mkF m 25 #[VR (A 0), VI ux, VI uy, VI w2, VI w4, UU] [(.ref (A 5))])) st12 ?_
    refine own_by (B := T12.setTop (mkF m 27 #[VR (A 0), VI ux, VI uy, VI w2, VI w4, UU] [(.int w4), (.ref (A 5))])) (fun _ k => XS.iload X12.here hx rfl (hb hby d19_25) rfl  k) ?_
    obtain ⟨w13, hw13, hF⟩ := own_bind hF
    refine own_by (B := T12.setTop (mkF m 28 #[VR (A 0), VI ux, VI uy, VI w2, VI w4, UU] [(.int w13)])) (own_ldZ X12 hx hZ e12 (own_PS_v5 P0) hw13 (g := (mkF m 27 #[VR (A 0), VI ux, VI uy, VI w2, VI w4, UU] [(.int w4), (.ref (A 5))])) rfl rfl (hb hby d19_27)) ?_
    by_cases hc14 : w13 = (0 : Int32)
    · rw [if_pos hc14] at hF
      refine own_by (B := T12.setTop (mkF m 31 #[VR (A 0), VI ux, VI uy, VI w2, VI w4, UU] [])) (fun _ k => XS.ifNo X12.here hx rfl (hb hby d19_28) rfl (XT.i0_ne_f hc14) k) ?_
      refine own_by (B := T12.setTop (mkF m 32 #[VR (A 0), VI ux, VI uy, VI w2, VI w4, UU] [(.int 1)])) (fun _ k => XS.iconst X12.here hx rfl (hb hby d19_31) k) ?_
      refine own_by (B := T12.setTop (mkF m 36 #[VR (A 0), VI ux, VI uy, VI w2, VI w4, UU] [(.int 1)])) (fun _ k => XS.goto X12.here hx rfl (pc0 := 32) (pc' := 36) rfl (hb hby d19_32) (by decide) (by decide) k) ?_
      refine own_by (B := T12.setTop (mkF m 38 #[VR (A 0), VI ux, VI uy, VI w2, VI w4, VI 1] [])) (fun _ k => XS.istore X12.here hx rfl (hb hby d19_36) rfl (l' := #[VR (A 0), VI ux, VI uy, VI w2, VI w4, VI 1]) rfl k) ?_
      refine own_by (B := T12.setTop (mkF m 40 #[VR (A 0), VI ux, VI uy, VI w2, VI w4, VI 1] [(.int 1)])) (fun _ k => XS.iload X12.here hx rfl (hb hby d19_38) rfl  k) ?_
      refine own_by (B := T12.setTop (mkF m 43 #[VR (A 0), VI ux, VI uy, VI w2, VI w4, VI 1] [])) (fun _ k => XS.ifNo X12.here hx rfl (hb hby d19_40) rfl (XT.i0_eq_f (by decide)) k) ?_
      refine own_by (B := T12.setTop (mkF m 44 #[VR (A 0), VI ux, VI uy, VI w2, VI w4, VI 1] [(.ref (A 0))])) (fun _ k => XS.aloadN X12.here hx rfl (hb hby d19_43) rfl rfl  k) ?_
      refine own_by (B := T12.setTop (mkF m 45 #[VR (A 0), VI ux, VI uy, VI w2, VI w4, VI 1] [(.int ux), (.ref (A 0))])) (fun _ k => XS.iloadN X12.here hx rfl (hb hby d19_44) rfl  k) ?_
      refine own_by (B := T12.setTop (mkF m 46 #[VR (A 0), VI ux, VI uy, VI w2, VI w4, VI 1] [(.int w2), (.int ux), (.ref (A 0))])) (fun _ k => XS.iloadN X12.here hx rfl (hb hby d19_45) rfl  k) ?_
      obtain ⟨q15, hq15, hF⟩ := own_bind hF
      obtain ⟨cq16, qa16, qc16⟩ := Exa.cell (own_PS_E P0)
      obtain ⟨_, _, ⟨T16, L16, k16, n16⟩, -, X16, ⟨Lc16, hQ16, l16, y16, z16⟩, st16⟩ := X12.privateBack hx (y := (⟨"com/example/document_pattern_rules/documentpatternrules/pattern/Pairing", "leave", "(II)V"⟩ : MethodName)) hown (mvT hZ (own_hw 90 hw rfl)) (mvT hZ (own_hw 91 hw rfl)) (mvT hZ (own_selpriv (y := (⟨"com/example/document_pattern_rules/documentpatternrules/pattern/Pairing", "leave", "(II)V"⟩ : MethodName)) (own_hw 9 hw rfl) (own_hw 92 hw rfl) (own_hw 91 hw rfl) (by decide))) (Cond.privateMethod_at (mvP hZ (own_hw 92 hw rfl) (args := #[]))) (mvT hZ (own_hw 93 hw rfl)) (by decide) (backOf (W := 0) (rm_leave l Z a0 hw [] A K zr zc CA CK CL u0 _ ux w2 h0 n0 (Nat.le_trans (own_PS_gn P0).1 (Nat.le_of_lt (own_PS_E P0).lt)) P0 hq15) hZ (own_hw 93 hw rfl) (own_hw 10 hw rfl) (by decide) (by decide)) (g := (mkF m 46 #[VR (A 0), VI ux, VI uy, VI w2, VI w4, VI 1] [(.int w2), (.int ux), (.ref (A 0))])) rfl (by rw [hml]; rfl) (Steps.refl _) (a := (A 0)) (by rw [e12]; exact qa16) qc16 (argsL := [(.int ux), (.int w2)]) (rest := []) (lenOf pd_19__II_V rfl) rfl (by show 2 * 0 + _ ≤ _; exact Nat.le_of_eq rfl) (hb hby d19_46) (fun _ _ => ⟨rfl, e12, (by decide : 0 + 0 ≤ _), (by decide : 0 + 0 ≤ _)⟩)
      dsimp only [Pt.U, Pt.locs, Pt.cells, Pt.slots] at X16 l16 y16 z16 st16 hQ16
      subst l16 y16 z16
      obtain ⟨rfl, NC16, PC16⟩ := hQ16
      refine own_by (B := T16.setTop (mkF m 49 #[VR (A 0), VI ux, VI uy, VI w2, VI w4, VI 1] [])) (fun _ k => st16.trans k) ?_
      obtain ⟨h16, e16⟩ : ∃ z, T16.heap = z := ⟨_, rfl⟩
      rw [e16] at PC16
      have N16 := Fr.app N0 NC16
      refine own_by (B := T16.setTop (mkF m 50 #[VR (A 0), VI ux, VI uy, VI w2, VI w4, VI 1] [(.ref (A 0))])) (fun _ k => XS.aloadN X16.here hx rfl (hb hby d19_49) rfl rfl  k) ?_
      obtain ⟨T17, X17, e17, st17⟩ := getF X16 hx hZ hown (host := "") (Or.inl (own_hw 25 hw rfl)) Via.refl e16 (own_PS_f4 PC16) (g := (mkF m 50 #[VR (A 0), VI ux, VI uy, VI w2, VI w4, VI 1] [(.ref (A 0))])) rfl rfl (hb hby d19_50)
      refine own_by (B := T17.setTop (mkF m 53 #[VR (A 0), VI ux, VI uy, VI w2, VI w4, VI 1] [(.ref (A 4))])) st17 ?_
      refine own_by (B := T17.setTop (mkF m 54 #[VR (A 0), VI ux, VI uy, VI w2, VI w4, VI 1] [(.int w2), (.ref (A 4))])) (fun _ k => XS.iloadN X17.here hx rfl (hb hby d19_53) rfl  k) ?_
      refine own_by (B := T17.setTop (mkF m 55 #[VR (A 0), VI ux, VI uy, VI w2, VI w4, VI 1] [(.int (-1 : Int32)), (.int w2), (.ref (A 4))])) (fun _ k => XS.iconst X17.here hx rfl (hb hby d19_54) k) ?_
      obtain ⟨u18, hu18, hF⟩ := own_bind hF
      obtain ⟨zl18, hz18, hu18'⟩ := Option.map_eq_some_iff.mp hu18
      obtain ⟨T18, h18, X18, e18, W18, V18, st18⟩ := own_stI X17 hx hZ e17 (own_PS_v4 PC16) hz18 (g := (mkF m 55 #[VR (A 0), VI ux, VI uy, VI w2, VI w4, VI 1] [(.int (-1 : Int32)), (.int w2), (.ref (A 4))])) rfl rfl (hb hby d19_55)
      have P18 : own_PS Z h18 n0 A K zr zc CA CK CL u18 := hu18' ▸ own_w_ho PC16 W18 V18
      have N18 := Fr.snoc X18 N16 (own_PS_gn PC16).2.2.2.2.1
      refine own_by (B := T18.setTop (mkF m 56 #[VR (A 0), VI ux, VI uy, VI w2, VI w4, VI 1] [])) st18 ?_
      refine own_by (B := T18.setTop (mkF m 57 #[VR (A 0), VI ux, VI uy, VI w2, VI w4, VI 1] [(.ref (A 0))])) (fun _ k => XS.aloadN X18.here hx rfl (hb hby d19_56) rfl rfl  k) ?_
      refine own_by (B := T18.setTop (mkF m 58 #[VR (A 0), VI ux, VI uy, VI w2, VI w4, VI 1] [(.int ux), (.ref (A 0))])) (fun _ k => XS.iloadN X18.here hx rfl (hb hby d19_57) rfl  k) ?_
      refine own_by (B := T18.setTop (mkF m 59 #[VR (A 0), VI ux, VI uy, VI w2, VI w4, VI 1] [(.int uy), (.int ux), (.ref (A 0))])) (fun _ k => XS.iloadN X18.here hx rfl (hb hby d19_58) rfl  k) ?_
      obtain ⟨q19, hq19, hF⟩ := own_bind hF
      obtain ⟨cq20, qa20, qc20⟩ := Exa.cell (own_PS_E P18)
      obtain ⟨_, _, ⟨T20, L20, k20, n20⟩, -, X20, ⟨Lc20, hQ20, l20, y20, z20⟩, st20⟩ := X18.privateBack hx (y := (⟨"com/example/document_pattern_rules/documentpatternrules/pattern/Pairing", "hold", "(II)V"⟩ : MethodName)) hown (mvT hZ (own_hw 75 hw rfl)) (mvT hZ (own_hw 76 hw rfl)) (mvT hZ (own_selpriv (y := (⟨"com/example/document_pattern_rules/documentpatternrules/pattern/Pairing", "hold", "(II)V"⟩ : MethodName)) (own_hw 9 hw rfl) (own_hw 77 hw rfl) (own_hw 76 hw rfl) (by decide))) (Cond.privateMethod_at (mvP hZ (own_hw 77 hw rfl) (args := #[]))) (mvT hZ (own_hw 78 hw rfl)) (by decide) (backOf (W := 0) (rm_hold l Z a0 hw [] A K zr zc CA CK CL u18 _ ux uy h18 n0 (Nat.le_trans (own_PS_gn P18).1 (Nat.le_of_lt (own_PS_E P18).lt)) P18 hq19) hZ (own_hw 78 hw rfl) (own_hw 10 hw rfl) (by decide) (by decide)) (g := (mkF m 59 #[VR (A 0), VI ux, VI uy, VI w2, VI w4, VI 1] [(.int uy), (.int ux), (.ref (A 0))])) rfl (by rw [hml]; rfl) (Steps.refl _) (a := (A 0)) (by rw [e18]; exact qa20) qc20 (argsL := [(.int ux), (.int uy)]) (rest := []) (lenOf pd_19__II_V rfl) rfl (by show 2 * 0 + _ ≤ _; exact Nat.le_of_eq rfl) (hb hby d19_59) (fun _ _ => ⟨rfl, e18, (by decide : 0 + 0 ≤ _), (by decide : 0 + 0 ≤ _)⟩)
      dsimp only [Pt.U, Pt.locs, Pt.cells, Pt.slots] at X20 l20 y20 z20 st20 hQ20
      subst l20 y20 z20
      obtain ⟨rfl, NC20, PC20⟩ := hQ20
      refine own_by (B := T20.setTop (mkF m 62 #[VR (A 0), VI ux, VI uy, VI w2, VI w4, VI 1] [])) (fun _ k => st20.trans k) ?_
      obtain ⟨h20, e20⟩ : ∃ z, T20.heap = z := ⟨_, rfl⟩
      rw [e20] at PC20
      have N20 := Fr.app N18 NC20
      refine own_by (B := T20.setTop (mkF m 64 #[VR (A 0), VI ux, VI uy, VI w2, VI w4, VI 1] [(.int w4)])) (fun _ k => XS.iload X20.here hx rfl (hb hby d19_62) rfl  k) ?_
      refine own_by (B := T20.setTop (mkF m 65 #[VR (A 0), VI ux, VI uy, VI w2, VI w4, VI 1] [(.int (-1 : Int32)), (.int w4)])) (fun _ k => XS.iconst X20.here hx rfl (hb hby d19_64) k) ?_
      refine own_by (B := T20.setTop (mkF m 68 #[VR (A 0), VI ux, VI uy, VI w2, VI w4, VI 1] [])) (fun _ k => XS.icmpNo X20.here hx rfl (hb hby d19_65) rfl (XT.ii_eq_f hc5) k) ?_
      refine own_by (B := T20.setTop (mkF m 69 #[VR (A 0), VI ux, VI uy, VI w2, VI w4, VI 1] [(.ref (A 0))])) (fun _ k => XS.aloadN X20.here hx rfl (hb hby d19_68) rfl rfl  k) ?_
      obtain ⟨T21, X21, e21, st21⟩ := getF X20 hx hZ hown (host := "") (Or.inl (own_hw 19 hw rfl)) Via.refl e20 (own_PS_f1 PC20) (g := (mkF m 69 #[VR (A 0), VI ux, VI uy, VI w2, VI w4, VI 1] [(.ref (A 0))])) rfl rfl (hb hby d19_69)
      refine own_by (B := T21.setTop (mkF m 72 #[VR (A 0), VI ux, VI uy, VI w2, VI w4, VI 1] [(.ref (A 1))])) st21 ?_
      refine own_by (B := T21.setTop (mkF m 74 #[VR (A 0), VI ux, VI uy, VI w2, VI w4, VI 1] [(.int w4), (.ref (A 1))])) (fun _ k => XS.iload X21.here hx rfl (hb hby d19_72) rfl  k) ?_
      obtain ⟨i22, hi22, hF⟩ := own_bind hF
      obtain ⟨Lc22, hLc22, hF⟩ := own_bind hF
      refine own_by (B := T21.setTop (mkF m 75 #[VR (A 0), VI ux, VI uy, VI w2, VI w4, VI 1] [(.ref (CA i22))])) (own_ldF X21 hx hZ e21 (own_PS_v1 PC20) hi22 (g := (mkF m 74 #[VR (A 0), VI ux, VI uy, VI w2, VI w4, VI 1] [(.int w4), (.ref (A 1))])) rfl rfl (hb hby d19_74)) ?_
      refine own_by (B := T21.setTop (mkF m 76 #[VR (A 0), VI ux, VI uy, VI w2, VI w4, VI 1] [(.int w2), (.ref (CA i22))])) (fun _ k => XS.iloadN X21.here hx rfl (hb hby d19_75) rfl  k) ?_
      obtain ⟨q23, hq23, hF⟩ := own_bind hF
      obtain ⟨_, _, ⟨T24, L24, k24, n24⟩, -, X24, ⟨Lc24, hQ24, l24, y24, z24⟩, st24⟩ := Jvm.LawKit.callS X21 hx (y := (⟨"java/util/Arrays", "binarySearch", "([II)I"⟩ : MethodName)) hown (mvT hZ (own_hw 107 hw rfl)) (mvT hZ (own_hw 108 hw rfl)) (mvT hZ (own_hw 47 hw rfl)) (mvT hZ (own_hw 109 hw rfl)) (by decide) (backOf (W := 0) (rm_binarySearch2 l Z a0 hw [] A K zr zc CA CK CL q19 _ i22 Lc22 w2 h20 n0 (Nat.le_trans (own_PS_gn PC20).1 (Nat.le_of_lt (own_PS_E PC20).lt)) PC20 hq23 hLc22) hZ (own_hw 109 hw rfl) (own_hw 47 hw rfl) (by decide) (by decide)) (g := (mkF m 76 #[VR (A 0), VI ux, VI uy, VI w2, VI w4, VI 1] [(.int w2), (.ref (CA i22))])) rfl (by rw [hml]; rfl) (argsL := [(.ref (CA i22)), (.int w2)]) (rest := []) (lenOf pd_19___II_I rfl) rfl (by show 2 * 0 + _ ≤ _; exact Nat.le_of_eq rfl) (hb hby d19_76) (fun _ _ => ⟨rfl, e21, (by decide : 0 + 0 ≤ _), (by decide : 0 + 0 ≤ _)⟩)
      dsimp only [Pt.U, Pt.locs, Pt.cells, Pt.slots] at X24 l24 y24 z24 st24 hQ24
      subst l24 y24 z24
      obtain ⟨rfl, NC24, PC24⟩ := hQ24
      refine own_by (B := T24.setTop (mkF m 79 #[VR (A 0), VI ux, VI uy, VI w2, VI w4, VI 1] [(.int (q23.1))])) st24 ?_
      obtain ⟨h24, e24⟩ : ∃ z, T24.heap = z := ⟨_, rfl⟩
      rw [e24] at PC24
      have N24 := Fr.app N20 NC24
      by_cases hc25 : (q23.1) < (0 : Int32)
      · rw [if_pos hc25] at hF
        refine own_by (B := T24.setTop (mkF m 92 #[VR (A 0), VI ux, VI uy, VI w2, VI w4, VI 1] [])) (fun _ k => XS.ifYes X24.here hx rfl (pc0 := 79) (pc' := 92) rfl (hb hby d19_79) rfl (XT.i0_lt_t hc25) (by decide) (by decide) k) ?_
        refine own_by (B := T24.setTop (mkF m 94 #[VR (A 0), VI ux, VI uy, VI w2, VI w4, VI 1] [(.int w4)])) (fun _ k => XS.iload X24.here hx rfl (hb hby d19_92) rfl  k) ?_
        refine own_by (B := T24.setTop (mkF m 95 #[VR (A 0), VI ux, VI uy, VI w2, VI w4, VI 1] [(.int (-1 : Int32)), (.int w4)])) (fun _ k => XS.iconst X24.here hx rfl (hb hby d19_94) k) ?_
        refine own_by (B := T24.setTop (mkF m 98 #[VR (A 0), VI ux, VI uy, VI w2, VI w4, VI 1] [])) (fun _ k => XS.icmpNo X24.here hx rfl (hb hby d19_95) rfl (XT.ii_eq_f hc5) k) ?_
        refine own_by (B := T24.setTop (mkF m 99 #[VR (A 0), VI ux, VI uy, VI w2, VI w4, VI 1] [(.ref (A 0))])) (fun _ k => XS.aloadN X24.here hx rfl (hb hby d19_98) rfl rfl  k) ?_
        obtain ⟨T26, X26, e26, st26⟩ := getF X24 hx hZ hown (host := "") (Or.inl (own_hw 23 hw rfl)) Via.refl e24 (own_PS_f3 PC24) (g := (mkF m 99 #[VR (A 0), VI ux, VI uy, VI w2, VI w4, VI 1] [(.ref (A 0))])) rfl rfl (hb hby d19_99)
        refine own_by (B := T26.setTop (mkF m 102 #[VR (A 0), VI ux, VI uy, VI w2, VI w4, VI 1] [(.ref (A 3))])) st26 ?_
        refine own_by (B := T26.setTop (mkF m 104 #[VR (A 0), VI ux, VI uy, VI w2, VI w4, VI 1] [(.int w4), (.ref (A 3))])) (fun _ k => XS.iload X26.here hx rfl (hb hby d19_102) rfl  k) ?_
        refine own_by (B := T26.setTop (mkF m 105 #[VR (A 0), VI ux, VI uy, VI w2, VI w4, VI 1] [(.int (-1 : Int32)), (.int w4), (.ref (A 3))])) (fun _ k => XS.iconst X26.here hx rfl (hb hby d19_104) k) ?_
        obtain ⟨u27, hu27, hF⟩ := own_bind hF
        obtain ⟨zl27, hz27, hu27'⟩ := Option.map_eq_some_iff.mp hu27
        obtain ⟨T27, h27, X27, e27, W27, V27, st27⟩ := own_stI X26 hx hZ e26 (own_PS_v3 PC24) hz27 (g := (mkF m 105 #[VR (A 0), VI ux, VI uy, VI w2, VI w4, VI 1] [(.int (-1 : Int32)), (.int w4), (.ref (A 3))])) rfl rfl (hb hby d19_105)
        have P27 : own_PS Z h27 n0 A K zr zc CA CK CL u27 := hu27' ▸ own_w_pa PC24 W27 V27
        have N27 := Fr.snoc X27 N24 (own_PS_gn PC24).2.2.2.1
        refine own_by (B := T27.setTop (mkF m 106 #[VR (A 0), VI ux, VI uy, VI w2, VI w4, VI 1] [])) st27 ?_
        refine own_by (B := T27.setTop (mkF m 107 #[VR (A 0), VI ux, VI uy, VI w2, VI w4, VI 1] [(.ref (A 0))])) (fun _ k => XS.aloadN X27.here hx rfl (hb hby d19_106) rfl rfl  k) ?_
        refine own_by (B := T27.setTop (mkF m 108 #[VR (A 0), VI ux, VI uy, VI w2, VI w4, VI 1] [(.ref (A 0)), (.ref (A 0))])) (fun _ k => XS.dup X27.here hx rfl (hb hby d19_107) rfl rfl k) ?_
        obtain ⟨T28, X28, e28, st28⟩ := getF X27 hx hZ hown (host := "") (Or.inl (own_hw 62 hw rfl)) Via.refl e27 (own_PS_fse P27) (g := (mkF m 108 #[VR (A 0), VI ux, VI uy, VI w2, VI w4, VI 1] [(.ref (A 0)), (.ref (A 0))])) rfl rfl (hb hby d19_108)
        refine own_by (B := T28.setTop (mkF m 111 #[VR (A 0), VI ux, VI uy, VI w2, VI w4, VI 1] [(.long (own_se u27)), (.ref (A 0))])) st28 ?_
        refine own_by (B := T28.setTop (mkF m 112 #[VR (A 0), VI ux, VI uy, VI w2, VI w4, VI 1] [(.long (1 : Int64)), (.long (own_se u27)), (.ref (A 0))])) (fun _ k => XT.lconst X28.here hx rfl (hb hby d19_111) k) ?_
        refine own_by (B := T28.setTop (mkF m 113 #[VR (A 0), VI ux, VI uy, VI w2, VI w4, VI 1] [(.long ((own_se u27) + (1 : Int64))), (.ref (A 0))])) (fun _ k => XT.ladd X28.here hx rfl (hb hby d19_112) rfl k) ?_
        obtain ⟨u29, hu29, hF⟩ := own_bind hF
        obtain ⟨T29, h29, X29, e29, W29, st29⟩ := putF X28 hx hZ hown (host := "") (Or.inl (own_hw 62 hw rfl)) Via.refl e28 (own_PS_fse P27) (own_PS_E P27) (Or.inl (own_hw 63 hw rfl)) (own_hw 9 hw rfl) (ty := .long) (by decide) rfl rfl (g := (mkF m 113 #[VR (A 0), VI ux, VI uy, VI w2, VI w4, VI 1] [(.long ((own_se u27) + (1 : Int64))), (.ref (A 0))])) rfl rfl (hb hby d19_113)
        have P29 : own_PS Z h29 n0 A K zr zc CA CK CL u29 := Option.some.inj hu29 ▸ own_w_se P27 hw W29
        have N29 := Fr.snoc X29 N27 (own_PS_gn P27).1
        refine own_by (B := T29.setTop (mkF m 116 #[VR (A 0), VI ux, VI uy, VI w2, VI w4, VI 1] [])) st29 ?_
        refine own_by (B := T29.setTop (mkF m 117 #[VR (A 0), VI ux, VI uy, VI w2, VI w4, VI 1] [(.ref (A 0))])) (fun _ k => XS.aloadN X29.here hx rfl (hb hby d19_116) rfl rfl  k) ?_
        refine own_by (B := T29.setTop (mkF m 119 #[VR (A 0), VI ux, VI uy, VI w2, VI w4, VI 1] [(.int w4), (.ref (A 0))])) (fun _ k => XS.iload X29.here hx rfl (hb hby d19_117) rfl  k) ?_
        obtain ⟨q30, hq30, hF⟩ := own_bind hF
        obtain ⟨cq31, qa31, qc31⟩ := Exa.cell (own_PS_E P29)
        obtain ⟨_, _, ⟨T31, L31, k31, n31⟩, -, X31, ⟨Lc31, hQ31, l31, y31, z31⟩, st31⟩ := X29.privateBack hx (y := (⟨"com/example/document_pattern_rules/documentpatternrules/pattern/Pairing", "augment", "(I)Z"⟩ : MethodName)) hown (mvT hZ (own_hw 64 hw rfl)) (mvT hZ (own_hw 65 hw rfl)) (mvT hZ (own_selpriv (y := (⟨"com/example/document_pattern_rules/documentpatternrules/pattern/Pairing", "augment", "(I)Z"⟩ : MethodName)) (own_hw 9 hw rfl) (own_hw 66 hw rfl) (own_hw 65 hw rfl) (by decide))) (Cond.privateMethod_at (mvP hZ (own_hw 66 hw rfl) (args := #[]))) (mvT hZ (own_hw 67 hw rfl)) (by decide) (backOf (W := 0) (rm_augment l Z a0 hw [] A K zr zc CA CK CL u29 _ w4 h29 n0 (Nat.le_trans (own_PS_gn P29).1 (Nat.le_of_lt (own_PS_E P29).lt)) P29 hq30) hZ (own_hw 67 hw rfl) (own_hw 10 hw rfl) (by decide) (by decide)) (g := (mkF m 119 #[VR (A 0), VI ux, VI uy, VI w2, VI w4, VI 1] [(.int w4), (.ref (A 0))])) rfl (by rw [hml]; rfl) (Steps.refl _) (a := (A 0)) (by rw [e29]; exact qa31) qc31 (argsL := [(.int w4)]) (rest := []) (lenOf pd_19__I_Z rfl) rfl (by show 2 * 0 + _ ≤ _; exact Nat.le_of_eq rfl) (hb hby d19_119) (fun _ _ => ⟨rfl, e29, (by decide : 0 + 0 ≤ _), (by decide : 0 + 0 ≤ _)⟩)
        dsimp only [Pt.U, Pt.locs, Pt.cells, Pt.slots] at X31 l31 y31 z31 st31 hQ31
        subst l31 y31 z31
        obtain ⟨rfl, NC31, PC31⟩ := hQ31
        refine own_by (B := T31.setTop (mkF m 122 #[VR (A 0), VI ux, VI uy, VI w2, VI w4, VI 1] [(.int (q30.1))])) (fun _ k => st31.trans k) ?_
        obtain ⟨h31, e31⟩ : ∃ z, T31.heap = z := ⟨_, rfl⟩
        rw [e31] at PC31
        have N31 := Fr.app N29 NC31
        refine own_by (B := T31.setTop (mkF m 124 #[VR (A 0), VI ux, VI uy, VI w2, VI w4, VI (q30.1)] [])) (fun _ k => XS.istore X31.here hx rfl (hb hby d19_122) rfl (l' := #[VR (A 0), VI ux, VI uy, VI w2, VI w4, VI (q30.1)]) rfl k) ?_
        refine own_by (B := T31.setTop (mkF m 126 #[VR (A 0), VI ux, VI uy, VI w2, VI w4, VI (q30.1)] [(.int (q30.1))])) (fun _ k => XS.iload X31.here hx rfl (hb hby d19_124) rfl  k) ?_
        by_cases hc32 : (q30.1) = (0 : Int32)
        · rw [if_pos hc32] at hF
          refine own_by (B := T31.setTop (mkF m 129 #[VR (A 0), VI ux, VI uy, VI w2, VI w4, VI (q30.1)] [])) (fun _ k => XS.ifNo X31.here hx rfl (hb hby d19_126) rfl (XT.i0_ne_f hc32) k) ?_
          refine own_by (B := T31.setTop (mkF m 130 #[VR (A 0), VI ux, VI uy, VI w2, VI w4, VI (q30.1)] [(.ref (A 0))])) (fun _ k => XS.aloadN X31.here hx rfl (hb hby d19_129) rfl rfl  k) ?_
          refine own_by (B := T31.setTop (mkF m 132 #[VR (A 0), VI ux, VI uy, VI w2, VI w4, VI (q30.1)] [(.int w4), (.ref (A 0))])) (fun _ k => XS.iload X31.here hx rfl (hb hby d19_130) rfl  k) ?_
          refine own_by (B := T31.setTop (mkF m 133 #[VR (A 0), VI ux, VI uy, VI w2, VI w4, VI (q30.1)] [(.int uy), (.int w4), (.ref (A 0))])) (fun _ k => XS.iloadN X31.here hx rfl (hb hby d19_132) rfl  k) ?_
          obtain ⟨q33, hq33, hF⟩ := own_bind hF
          obtain ⟨cq34, qa34, qc34⟩ := Exa.cell (own_PS_E PC31)
          obtain ⟨_, _, ⟨T34, L34, k34, n34⟩, -, X34, ⟨Lc34, hQ34, l34, y34, z34⟩, st34⟩ := X31.privateBack hx (y := (⟨"com/example/document_pattern_rules/documentpatternrules/pattern/Pairing", "hold", "(II)V"⟩ : MethodName)) hown (mvT hZ (own_hw 75 hw rfl)) (mvT hZ (own_hw 76 hw rfl)) (mvT hZ (own_selpriv (y := (⟨"com/example/document_pattern_rules/documentpatternrules/pattern/Pairing", "hold", "(II)V"⟩ : MethodName)) (own_hw 9 hw rfl) (own_hw 77 hw rfl) (own_hw 76 hw rfl) (by decide))) (Cond.privateMethod_at (mvP hZ (own_hw 77 hw rfl) (args := #[]))) (mvT hZ (own_hw 78 hw rfl)) (by decide) (backOf (W := 0) (rm_hold l Z a0 hw [] A K zr zc CA CK CL (q30.2) _ w4 uy h31 n0 (Nat.le_trans (own_PS_gn PC31).1 (Nat.le_of_lt (own_PS_E PC31).lt)) PC31 hq33) hZ (own_hw 78 hw rfl) (own_hw 10 hw rfl) (by decide) (by decide)) (g := (mkF m 133 #[VR (A 0), VI ux, VI uy, VI w2, VI w4, VI (q30.1)] [(.int uy), (.int w4), (.ref (A 0))])) rfl (by rw [hml]; rfl) (Steps.refl _) (a := (A 0)) (by rw [e31]; exact qa34) qc34 (argsL := [(.int w4), (.int uy)]) (rest := []) (lenOf pd_19__II_V rfl) rfl (by show 2 * 0 + _ ≤ _; exact Nat.le_of_eq rfl) (hb hby d19_133) (fun _ _ => ⟨rfl, e31, (by decide : 0 + 0 ≤ _), (by decide : 0 + 0 ≤ _)⟩)
          dsimp only [Pt.U, Pt.locs, Pt.cells, Pt.slots] at X34 l34 y34 z34 st34 hQ34
          subst l34 y34 z34
          obtain ⟨rfl, NC34, PC34⟩ := hQ34
          refine own_by (B := T34.setTop (mkF m 136 #[VR (A 0), VI ux, VI uy, VI w2, VI w4, VI (q30.1)] [])) (fun _ k => st34.trans k) ?_
          obtain ⟨h34, e34⟩ : ∃ z, T34.heap = z := ⟨_, rfl⟩
          rw [e34] at PC34
          have N34 := Fr.app N31 NC34
          refine own_by (B := T34.setTop (mkF m 137 #[VR (A 0), VI ux, VI uy, VI w2, VI w4, VI (q30.1)] [(.ref (A 0))])) (fun _ k => XS.aloadN X34.here hx rfl (hb hby d19_136) rfl rfl  k) ?_
          refine own_by (B := T34.setTop (mkF m 138 #[VR (A 0), VI ux, VI uy, VI w2, VI w4, VI (q30.1)] [(.int ux), (.ref (A 0))])) (fun _ k => XS.iloadN X34.here hx rfl (hb hby d19_137) rfl  k) ?_
          refine own_by (B := T34.setTop (mkF m 139 #[VR (A 0), VI ux, VI uy, VI w2, VI w4, VI (q30.1)] [(.int w2), (.int ux), (.ref (A 0))])) (fun _ k => XS.iloadN X34.here hx rfl (hb hby d19_138) rfl  k) ?_
          obtain ⟨q35, hq35, hF⟩ := own_bind hF
          obtain ⟨cq36, qa36, qc36⟩ := Exa.cell (own_PS_E PC34)
          obtain ⟨_, _, ⟨T36, L36, k36, n36⟩, -, X36, ⟨Lc36, hQ36, l36, y36, z36⟩, st36⟩ := X34.privateBack hx (y := (⟨"com/example/document_pattern_rules/documentpatternrules/pattern/Pairing", "hold", "(II)V"⟩ : MethodName)) hown (mvT hZ (own_hw 75 hw rfl)) (mvT hZ (own_hw 76 hw rfl)) (mvT hZ (own_selpriv (y := (⟨"com/example/document_pattern_rules/documentpatternrules/pattern/Pairing", "hold", "(II)V"⟩ : MethodName)) (own_hw 9 hw rfl) (own_hw 77 hw rfl) (own_hw 76 hw rfl) (by decide))) (Cond.privateMethod_at (mvP hZ (own_hw 77 hw rfl) (args := #[]))) (mvT hZ (own_hw 78 hw rfl)) (by decide) (backOf (W := 0) (rm_hold l Z a0 hw [] A K zr zc CA CK CL q33 _ ux w2 h34 n0 (Nat.le_trans (own_PS_gn PC34).1 (Nat.le_of_lt (own_PS_E PC34).lt)) PC34 hq35) hZ (own_hw 78 hw rfl) (own_hw 10 hw rfl) (by decide) (by decide)) (g := (mkF m 139 #[VR (A 0), VI ux, VI uy, VI w2, VI w4, VI (q30.1)] [(.int w2), (.int ux), (.ref (A 0))])) rfl (by rw [hml]; rfl) (Steps.refl _) (a := (A 0)) (by rw [e34]; exact qa36) qc36 (argsL := [(.int ux), (.int w2)]) (rest := []) (lenOf pd_19__II_V rfl) rfl (by show 2 * 0 + _ ≤ _; exact Nat.le_of_eq rfl) (hb hby d19_139) (fun _ _ => ⟨rfl, e34, (by decide : 0 + 0 ≤ _), (by decide : 0 + 0 ≤ _)⟩)
          dsimp only [Pt.U, Pt.locs, Pt.cells, Pt.slots] at X36 l36 y36 z36 st36 hQ36
          subst l36 y36 z36
          obtain ⟨rfl, NC36, PC36⟩ := hQ36
          refine own_by (B := T36.setTop (mkF m 142 #[VR (A 0), VI ux, VI uy, VI w2, VI w4, VI (q30.1)] [])) (fun _ k => st36.trans k) ?_
          obtain ⟨h36, e36⟩ : ∃ z, T36.heap = z := ⟨_, rfl⟩
          rw [e36] at PC36
          have N36 := Fr.app N34 NC36
          refine own_by (B := T36.setTop (mkF m 144 #[VR (A 0), VI ux, VI uy, VI w2, VI w4, VI (q30.1)] [(.int (q30.1))])) (fun _ k => XS.iload X36.here hx rfl (hb hby d19_142) rfl  k) ?_
          obtain rfl := Option.some.inj hF
          exact own_retB X36 hx hrt hlk (hb hby d19_144) (by decide) (by decide) (by show own_QPr Z ((((q30.1) &&& (1 : Int32)), q35)) n0 A K zr zc CA CK CL _ T36.heap _; rw [e36]; exact ⟨rfl, N36, PC36⟩)
        · rw [if_neg hc32] at hF
          refine own_by (B := T31.setTop (mkF m 142 #[VR (A 0), VI ux, VI uy, VI w2, VI w4, VI (q30.1)] [])) (fun _ k => XS.ifYes X31.here hx rfl (pc0 := 126) (pc' := 142) rfl (hb hby d19_126) rfl (XT.i0_ne_t hc32) (by decide) (by decide) k) ?_
          refine own_by (B := T31.setTop (mkF m 144 #[VR (A 0), VI ux, VI uy, VI w2, VI w4, VI (q30.1)] [(.int (q30.1))])) (fun _ k => XS.iload X31.here hx rfl (hb hby d19_142) rfl  k) ?_
          obtain rfl := Option.some.inj hF
          exact own_retB X31 hx hrt hlk (hb hby d19_144) (by decide) (by decide) (by show own_QPr Z ((((q30.1) &&& (1 : Int32)), (q30.2))) n0 A K zr zc CA CK CL _ T31.heap _; rw [e31]; exact ⟨rfl, N31, PC31⟩)
      · rw [if_neg hc25] at hF
        refine own_by (B := T24.setTop (mkF m 82 #[VR (A 0), VI ux, VI uy, VI w2, VI w4, VI 1] [])) (fun _ k => XS.ifNo X24.here hx rfl (hb hby d19_79) rfl (XT.i0_lt_f hc25) k) ?_
        refine own_by (B := T24.setTop (mkF m 83 #[VR (A 0), VI ux, VI uy, VI w2, VI w4, VI 1] [(.ref (A 0))])) (fun _ k => XS.aloadN X24.here hx rfl (hb hby d19_82) rfl rfl  k) ?_
        refine own_by (B := T24.setTop (mkF m 85 #[VR (A 0), VI ux, VI uy, VI w2, VI w4, VI 1] [(.int w4), (.ref (A 0))])) (fun _ k => XS.iload X24.here hx rfl (hb hby d19_83) rfl  k) ?_
        refine own_by (B := T24.setTop (mkF m 86 #[VR (A 0), VI ux, VI uy, VI w2, VI w4, VI 1] [(.int w2), (.int w4), (.ref (A 0))])) (fun _ k => XS.iloadN X24.here hx rfl (hb hby d19_85) rfl  k) ?_
        obtain ⟨q37, hq37, hF⟩ := own_bind hF
        obtain ⟨cq38, qa38, qc38⟩ := Exa.cell (own_PS_E PC24)
        obtain ⟨_, _, ⟨T38, L38, k38, n38⟩, -, X38, ⟨Lc38, hQ38, l38, y38, z38⟩, st38⟩ := X24.privateBack hx (y := (⟨"com/example/document_pattern_rules/documentpatternrules/pattern/Pairing", "hold", "(II)V"⟩ : MethodName)) hown (mvT hZ (own_hw 75 hw rfl)) (mvT hZ (own_hw 76 hw rfl)) (mvT hZ (own_selpriv (y := (⟨"com/example/document_pattern_rules/documentpatternrules/pattern/Pairing", "hold", "(II)V"⟩ : MethodName)) (own_hw 9 hw rfl) (own_hw 77 hw rfl) (own_hw 76 hw rfl) (by decide))) (Cond.privateMethod_at (mvP hZ (own_hw 77 hw rfl) (args := #[]))) (mvT hZ (own_hw 78 hw rfl)) (by decide) (backOf (W := 0) (rm_hold l Z a0 hw [] A K zr zc CA CK CL (q23.2) _ w4 w2 h24 n0 (Nat.le_trans (own_PS_gn PC24).1 (Nat.le_of_lt (own_PS_E PC24).lt)) PC24 hq37) hZ (own_hw 78 hw rfl) (own_hw 10 hw rfl) (by decide) (by decide)) (g := (mkF m 86 #[VR (A 0), VI ux, VI uy, VI w2, VI w4, VI 1] [(.int w2), (.int w4), (.ref (A 0))])) rfl (by rw [hml]; rfl) (Steps.refl _) (a := (A 0)) (by rw [e24]; exact qa38) qc38 (argsL := [(.int w4), (.int w2)]) (rest := []) (lenOf pd_19__II_V rfl) rfl (by show 2 * 0 + _ ≤ _; exact Nat.le_of_eq rfl) (hb hby d19_86) (fun _ _ => ⟨rfl, e24, (by decide : 0 + 0 ≤ _), (by decide : 0 + 0 ≤ _)⟩)
        dsimp only [Pt.U, Pt.locs, Pt.cells, Pt.slots] at X38 l38 y38 z38 st38 hQ38
        subst l38 y38 z38
        obtain ⟨rfl, NC38, PC38⟩ := hQ38
        refine own_by (B := T38.setTop (mkF m 89 #[VR (A 0), VI ux, VI uy, VI w2, VI w4, VI 1] [])) (fun _ k => st38.trans k) ?_
        obtain ⟨h38, e38⟩ : ∃ z, T38.heap = z := ⟨_, rfl⟩
        rw [e38] at PC38
        have N38 := Fr.app N24 NC38
        refine own_by (B := T38.setTop (mkF m 142 #[VR (A 0), VI ux, VI uy, VI w2, VI w4, VI 1] [])) (fun _ k => XS.goto X38.here hx rfl (pc0 := 89) (pc' := 142) rfl (hb hby d19_89) (by decide) (by decide) k) ?_
        refine own_by (B := T38.setTop (mkF m 144 #[VR (A 0), VI ux, VI uy, VI w2, VI w4, VI 1] [(.int 1)])) (fun _ k => XS.iload X38.here hx rfl (hb hby d19_142) rfl  k) ?_
        obtain rfl := Option.some.inj hF
        exact own_retB X38 hx hrt hlk (hb hby d19_144) (by decide) (by decide) (by show own_QPr Z ((((1 : Int32) &&& (1 : Int32)), q37)) n0 A K zr zc CA CK CL _ T38.heap _; rw [e38]; exact ⟨rfl, N38, PC38⟩)
    · rw [if_neg hc14] at hF
      refine own_by (B := T12.setTop (mkF m 35 #[VR (A 0), VI ux, VI uy, VI w2, VI w4, UU] [])) (fun _ k => XS.ifYes X12.here hx rfl (pc0 := 28) (pc' := 35) rfl (hb hby d19_28) rfl (XT.i0_ne_t hc14) (by decide) (by decide) k) ?_
      refine own_by (B := T12.setTop (mkF m 36 #[VR (A 0), VI ux, VI uy, VI w2, VI w4, UU] [(.int 0)])) (fun _ k => XS.iconst X12.here hx rfl (hb hby d19_35) k) ?_
      refine own_by (B := T12.setTop (mkF m 38 #[VR (A 0), VI ux, VI uy, VI w2, VI w4, VI 0] [])) (fun _ k => XS.istore X12.here hx rfl (hb hby d19_36) rfl (l' := #[VR (A 0), VI ux, VI uy, VI w2, VI w4, VI 0]) rfl k) ?_
      refine own_by (B := T12.setTop (mkF m 40 #[VR (A 0), VI ux, VI uy, VI w2, VI w4, VI 0] [(.int 0)])) (fun _ k => XS.iload X12.here hx rfl (hb hby d19_38) rfl  k) ?_
      refine own_by (B := T12.setTop (mkF m 142 #[VR (A 0), VI ux, VI uy, VI w2, VI w4, VI 0] [])) (fun _ k => XS.ifYes X12.here hx rfl (pc0 := 40) (pc' := 142) rfl (hb hby d19_40) rfl (XT.i0_eq_t (by decide)) (by decide) (by decide) k) ?_
      refine own_by (B := T12.setTop (mkF m 144 #[VR (A 0), VI ux, VI uy, VI w2, VI w4, VI 0] [(.int 0)])) (fun _ k => XS.iload X12.here hx rfl (hb hby d19_142) rfl  k) ?_
      obtain rfl := Option.some.inj hF
      exact own_retB X12 hx hrt hlk (hb hby d19_144) (by decide) (by decide) (by show own_QPr Z ((((0 : Int32) &&& (1 : Int32)), u0)) n0 A K zr zc CA CK CL _ T12.heap _; rw [e12]; exact ⟨rfl, N0, P0⟩)

def own_lowest_L29 (CL : List (List Int32)) : Nat → List Int32 → Int32 → own_S → Option (Int32 × own_S)
  | 0, _, _, _ => none
  | fuel + 1, Lc4, v4, uh9 => if v4 < (Int32.ofNat Lc4.length) then ((own_geti Lc4 v4).bind fun w12 => (own_ld_ho uh9 w12).bind fun w13 => if w13 = (-1 : Int32) then (some (v4, uh9)) else ((own_geti Lc4 v4).bind fun w17 => (own_ld_ho uh9 w17).bind fun w18 => (own_ld_fi uh9 w18).bind fun w19 => if w19 = (0 : Int32) then (some (v4, uh9)) else (own_lowest_L29 CL fuel Lc4 (v4 + (1 : Int32)) uh9))) else (some (v4, uh9))
def own_lowest_L87 (CL : List (List Int32)) : Nat → Int32 → List Int32 → Int32 → Int32 → own_S → Option (Int32 × Int32 × own_S)
  | 0, _, _, _, _, _ => none
  | fuel + 1, ux, Lc4, v5, v6, uh25 => if v5 = (0 : Int32) then (if v6 < (Int32.ofNat Lc4.length) then ((own_geti Lc4 v6).bind fun w28 => (own_ld_pa uh25 ux).bind fun w30 => if w28 < w30 then ((own_geti Lc4 v6).bind fun w32 => (own_take CL uh25 ux w32).bind fun q33 => own_lowest_L87 CL fuel ux Lc4 (q33.1) (v6 + (1 : Int32)) (q33.2)) else (some (v5, v6, uh25))) else (some (v5, v6, uh25))) else (some (v5, v6, uh25))
def own_lowest (CL : List (List Int32)) (u0 : own_S) (ux : Int32) : Option (Int32 × own_S) := (own_ld_ki u0 ux).bind fun w2 => (own_ld_F u0 ux).bind fun i4 => ((CL[i4]? : Option (List Int32))).bind fun Lc4 => (own_st_fi u0 ux (1 : Int32)).bind fun u6 => (own_ld_ff u6 w2).bind fun w8 => (own_lowest_L29 CL 8 Lc4 w8 u6).bind fun q21 => (own_st_ff (q21.2) w2 (q21.1)).bind fun u24 => (own_lowest_L87 CL 8 ux Lc4 (0 : Int32) (q21.1) u24).bind fun q35 => (own_ld_pa (q35.2.2) ux).bind fun w38 => some (w38, (q35.2.2))

theorem d12_0 : decode prog_77_method_6_code 0 = .ok (.aload_n 0, 1) := by decide +kernel
theorem d12_1 : decode prog_77_method_6_code 1 = .ok (.getfield 15, 3) := by decide +kernel
theorem d12_4 : decode prog_77_method_6_code 4 = .ok (.iload_n 1, 1) := by decide +kernel
theorem d12_5 : decode prog_77_method_6_code 5 = .ok (.iaload, 1) := by decide +kernel
theorem d12_6 : decode prog_77_method_6_code 6 = .ok (.istore_n 2, 1) := by decide +kernel
theorem d12_7 : decode prog_77_method_6_code 7 = .ok (.aload_n 0, 1) := by decide +kernel
theorem d12_8 : decode prog_77_method_6_code 8 = .ok (.getfield 9, 3) := by decide +kernel
theorem d12_11 : decode prog_77_method_6_code 11 = .ok (.iload_n 1, 1) := by decide +kernel
theorem d12_12 : decode prog_77_method_6_code 12 = .ok (.aaload, 1) := by decide +kernel
theorem d12_13 : decode prog_77_method_6_code 13 = .ok (.astore_n 3, 1) := by decide +kernel
theorem d12_14 : decode prog_77_method_6_code 14 = .ok (.aload_n 0, 1) := by decide +kernel
theorem d12_15 : decode prog_77_method_6_code 15 = .ok (.getfield 24, 3) := by decide +kernel
theorem d12_18 : decode prog_77_method_6_code 18 = .ok (.iload_n 1, 1) := by decide +kernel
theorem d12_19 : decode prog_77_method_6_code 19 = .ok (.iconst 1, 1) := by decide +kernel
theorem d12_20 : decode prog_77_method_6_code 20 = .ok (.bastore, 1) := by decide +kernel
theorem d12_21 : decode prog_77_method_6_code 21 = .ok (.aload_n 0, 1) := by decide +kernel
theorem d12_22 : decode prog_77_method_6_code 22 = .ok (.getfield 47, 3) := by decide +kernel
theorem d12_25 : decode prog_77_method_6_code 25 = .ok (.iload_n 2, 1) := by decide +kernel
theorem d12_26 : decode prog_77_method_6_code 26 = .ok (.iaload, 1) := by decide +kernel
theorem d12_27 : decode prog_77_method_6_code 27 = .ok (.istore 4, 2) := by decide +kernel
theorem d12_29 : decode prog_77_method_6_code 29 = .ok (.iload 4, 2) := by decide +kernel
theorem d12_31 : decode prog_77_method_6_code 31 = .ok (.aload_n 3, 1) := by decide +kernel
theorem d12_32 : decode prog_77_method_6_code 32 = .ok (.arraylength, 1) := by decide +kernel
theorem d12_33 : decode prog_77_method_6_code 33 = .ok (.if_icmp .ge 39, 3) := by decide +kernel
theorem d12_36 : decode prog_77_method_6_code 36 = .ok (.aload_n 0, 1) := by decide +kernel
theorem d12_37 : decode prog_77_method_6_code 37 = .ok (.getfield 21, 3) := by decide +kernel
theorem d12_40 : decode prog_77_method_6_code 40 = .ok (.aload_n 3, 1) := by decide +kernel
theorem d12_41 : decode prog_77_method_6_code 41 = .ok (.iload 4, 2) := by decide +kernel
theorem d12_43 : decode prog_77_method_6_code 43 = .ok (.iaload, 1) := by decide +kernel
theorem d12_44 : decode prog_77_method_6_code 44 = .ok (.iaload, 1) := by decide +kernel
theorem d12_45 : decode prog_77_method_6_code 45 = .ok (.iconst (-1), 1) := by decide +kernel
theorem d12_46 : decode prog_77_method_6_code 46 = .ok (.if_icmp .eq 26, 3) := by decide +kernel
theorem d12_49 : decode prog_77_method_6_code 49 = .ok (.aload_n 0, 1) := by decide +kernel
theorem d12_50 : decode prog_77_method_6_code 50 = .ok (.getfield 24, 3) := by decide +kernel
theorem d12_53 : decode prog_77_method_6_code 53 = .ok (.aload_n 0, 1) := by decide +kernel
theorem d12_54 : decode prog_77_method_6_code 54 = .ok (.getfield 21, 3) := by decide +kernel
theorem d12_57 : decode prog_77_method_6_code 57 = .ok (.aload_n 3, 1) := by decide +kernel
theorem d12_58 : decode prog_77_method_6_code 58 = .ok (.iload 4, 2) := by decide +kernel
theorem d12_60 : decode prog_77_method_6_code 60 = .ok (.iaload, 1) := by decide +kernel
theorem d12_61 : decode prog_77_method_6_code 61 = .ok (.iaload, 1) := by decide +kernel
theorem d12_62 : decode prog_77_method_6_code 62 = .ok (.baload, 1) := by decide +kernel
theorem d12_63 : decode prog_77_method_6_code 63 = .ok (.ifCond .eq 9, 3) := by decide +kernel
theorem d12_66 : decode prog_77_method_6_code 66 = .ok (.iinc 4 1, 3) := by decide +kernel
theorem d12_69 : decode prog_77_method_6_code 69 = .ok (.goto (-40), 3) := by decide +kernel
theorem d12_72 : decode prog_77_method_6_code 72 = .ok (.aload_n 0, 1) := by decide +kernel
theorem d12_73 : decode prog_77_method_6_code 73 = .ok (.getfield 47, 3) := by decide +kernel
theorem d12_76 : decode prog_77_method_6_code 76 = .ok (.iload_n 2, 1) := by decide +kernel
theorem d12_77 : decode prog_77_method_6_code 77 = .ok (.iload 4, 2) := by decide +kernel
theorem d12_79 : decode prog_77_method_6_code 79 = .ok (.iastore, 1) := by decide +kernel
theorem d12_80 : decode prog_77_method_6_code 80 = .ok (.iconst 0, 1) := by decide +kernel
theorem d12_81 : decode prog_77_method_6_code 81 = .ok (.istore 5, 2) := by decide +kernel
theorem d12_83 : decode prog_77_method_6_code 83 = .ok (.iload 4, 2) := by decide +kernel
theorem d12_85 : decode prog_77_method_6_code 85 = .ok (.istore 6, 2) := by decide +kernel
theorem d12_87 : decode prog_77_method_6_code 87 = .ok (.iload 5, 2) := by decide +kernel
theorem d12_89 : decode prog_77_method_6_code 89 = .ok (.ifCond .ne 40, 3) := by decide +kernel
theorem d12_92 : decode prog_77_method_6_code 92 = .ok (.iload 6, 2) := by decide +kernel
theorem d12_94 : decode prog_77_method_6_code 94 = .ok (.aload_n 3, 1) := by decide +kernel
theorem d12_95 : decode prog_77_method_6_code 95 = .ok (.arraylength, 1) := by decide +kernel
theorem d12_96 : decode prog_77_method_6_code 96 = .ok (.if_icmp .ge 33, 3) := by decide +kernel
theorem d12_99 : decode prog_77_method_6_code 99 = .ok (.aload_n 3, 1) := by decide +kernel
theorem d12_100 : decode prog_77_method_6_code 100 = .ok (.iload 6, 2) := by decide +kernel
theorem d12_102 : decode prog_77_method_6_code 102 = .ok (.iaload, 1) := by decide +kernel
theorem d12_103 : decode prog_77_method_6_code 103 = .ok (.aload_n 0, 1) := by decide +kernel
theorem d12_104 : decode prog_77_method_6_code 104 = .ok (.getfield 18, 3) := by decide +kernel
theorem d12_107 : decode prog_77_method_6_code 107 = .ok (.iload_n 1, 1) := by decide +kernel
theorem d12_108 : decode prog_77_method_6_code 108 = .ok (.iaload, 1) := by decide +kernel
theorem d12_109 : decode prog_77_method_6_code 109 = .ok (.if_icmp .ge 20, 3) := by decide +kernel
theorem d12_112 : decode prog_77_method_6_code 112 = .ok (.aload_n 0, 1) := by decide +kernel
theorem d12_113 : decode prog_77_method_6_code 113 = .ok (.iload_n 1, 1) := by decide +kernel
theorem d12_114 : decode prog_77_method_6_code 114 = .ok (.aload_n 3, 1) := by decide +kernel
theorem d12_115 : decode prog_77_method_6_code 115 = .ok (.iload 6, 2) := by decide +kernel
theorem d12_117 : decode prog_77_method_6_code 117 = .ok (.iaload, 1) := by decide +kernel
theorem d12_118 : decode prog_77_method_6_code 118 = .ok (.invokevirtual 72, 3) := by decide +kernel
theorem d12_121 : decode prog_77_method_6_code 121 = .ok (.istore 5, 2) := by decide +kernel
theorem d12_123 : decode prog_77_method_6_code 123 = .ok (.iinc 6 1, 3) := by decide +kernel
theorem d12_126 : decode prog_77_method_6_code 126 = .ok (.goto (-39), 3) := by decide +kernel
theorem d12_129 : decode prog_77_method_6_code 129 = .ok (.aload_n 0, 1) := by decide +kernel
theorem d12_130 : decode prog_77_method_6_code 130 = .ok (.getfield 18, 3) := by decide +kernel
theorem d12_133 : decode prog_77_method_6_code 133 = .ok (.iload_n 1, 1) := by decide +kernel
theorem d12_134 : decode prog_77_method_6_code 134 = .ok (.iaload, 1) := by decide +kernel
theorem d12_135 : decode prog_77_method_6_code 135 = .ok (.ireturn, 1) := by decide +kernel
theorem pd_12__II_Z : parseMethodDescriptor "(II)Z" = some ⟨[.int, .int], some .boolean⟩ := by decide +kernel
theorem pn_rm_lowest : plainFor (⟨"com/example/document_pattern_rules/documentpatternrules/pattern/Pairing", "lowest", "(I)I"⟩ : MethodName) = true := by first | exact plainFor_of_name (by first | (simp [plainName, overriddenIn]; done) | decide +kernel) | exact Jvm.Free.JP.mathPlain rfl (by decide +kernel) | decide +kernel
theorem ef_rm_lowest (m : MethodId) (x0 : Nat) (x1 : Int32) : entryFrame m #[(.ref x0), (.int x1)] 7 = mkF m 0 #[VR x0, VI x1, UU, UU, UU, UU, UU] [] := by first | (simp [entryFrame, mkF, argsToLocals, Value.category]; done) | rfl
set_option maxRecDepth 65536 in
set_option maxHeartbeats 40000000 in
theorem rm_lowest (l : Launch) (Z : State) (a0 : Array Value) (hw : ∀ d ∈ tables_1, d.before a0 Z = true) (ws : List Jvm.Cond) (A : Nat → Nat) (K : Nat → ClassId) (zr zc : Int32) (CA : Nat → Nat) (CK : Nat → ClassId) (CL : List (List Int32)) (u0 : own_S) (ru : Int32 × own_S) (ux : Int32) (h0 : Heap) (n0 : Nat) (Z0 : n0 ≤ h0.size) (P0 : own_PS Z h0 n0 A K zr zc CA CK CL u0) (hF : own_lowest CL u0 ux = some ru) :
    MetFree l (⟨"com/example/document_pattern_rules/documentpatternrules/pattern/Pairing", "lowest", "(I)I"⟩ : MethodName) (head1 (Jvm.Cond.code (⟨"com/example/document_pattern_rules/documentpatternrules/pattern/Pairing", "lowest", "(I)I"⟩ : MethodName) prog_77_method_6_code 7 (some .int) :: ws) ({ frames := 6, cells := 0, slots := 0, locals := 104 } : Room)) (fun a U => a = #[(.ref (A 0)), (.int ux)] ∧ Z.Warmed39 U.vm ∧ U.heap = h0) (fun _ _ _ _ _ => True) (fun _ U o U' => ∃ v L, o = .returned v ∧ (own_QPr Z ru n0 A K zr zc CA CK CL) v U'.heap L ∧ FrameEnd U o U' L 0 0) := by
  refine MetFree.of_bodySF pn_rm_lowest hisR ?_
  intro p e s m args below meth c s₁ Bd hml0 hP hK
  obtain ⟨rfl, hZ, hh⟩ := hP
  have hx := Bd.exec
  have hby := Bd.bytes
  have hml : c.maxLocals = 7 := hml0
  have hown : s.vm.findClass "com/example/document_pattern_rules/documentpatternrules/pattern/Pairing" = some m.cls := findClass_of_methodNamed Bd.named
  have hnm := (name_of_methodNamed Bd.named Bd.method).1
  have hrt := Bd.returns
  have hlk := Bd.notSynchronized
  have X0 : Stand p l e ({ frames := 6, cells := 0, slots := 0, locals := 104 } : Room) s m #[(.ref (A 0)), (.int ux)] below meth c s₁ [] 0 0 := Stand.of_body Bd
  have e0 : s₁.heap = h0 := by rw [← hh, Bd.state]; rfl
  have N0 := Fr.nil n0
  unfold own_lowest at hF
  refine own_done (B := s₁.setTop (mkF m 0 #[VR (A 0), VI ux, UU, UU, UU, UU, UU] [])) (fun t k => castTop (ef_rm_lowest m (A 0) ux) k) ?_
  refine own_by (B := s₁.setTop (mkF m 1 #[VR (A 0), VI ux, UU, UU, UU, UU, UU] [(.ref (A 0))])) (fun _ k => XS.aloadN X0.here hx rfl (hb hby d12_0) rfl rfl  k) ?_
  obtain ⟨T1, X1, e1, st1⟩ := getF X0 hx hZ hown (host := "") (Or.inl (own_hw 21 hw rfl)) Via.refl e0 (own_PS_f2 P0) (g := (mkF m 1 #[VR (A 0), VI ux, UU, UU, UU, UU, UU] [(.ref (A 0))])) rfl rfl (hb hby d12_1)
  refine own_by (B := T1.setTop (mkF m 4 #[VR (A 0), VI ux, UU, UU, UU, UU, UU] [(.ref (A 2))])) st1 ?_
  refine own_by (B := T1.setTop (mkF m 5 #[VR (A 0), VI ux, UU, UU, UU, UU, UU] [(.int ux), (.ref (A 2))])) (fun _ k => XS.iloadN X1.here hx rfl (hb hby d12_4) rfl  k) ?_
  obtain ⟨w2, hw2, hF⟩ := own_bind hF
  refine own_by (B := T1.setTop (mkF m 6 #[VR (A 0), VI ux, UU, UU, UU, UU, UU] [(.int w2)])) (own_ldI X1 hx hZ e1 (own_PS_v2 P0) hw2 (g := (mkF m 5 #[VR (A 0), VI ux, UU, UU, UU, UU, UU] [(.int ux), (.ref (A 2))])) rfl rfl (hb hby d12_5)) ?_
  refine own_by (B := T1.setTop (mkF m 7 #[VR (A 0), VI ux, VI w2, UU, UU, UU, UU] [])) (fun _ k => XS.istoreN X1.here hx rfl (hb hby d12_6) rfl (l' := #[VR (A 0), VI ux, VI w2, UU, UU, UU, UU]) rfl k) ?_
  refine own_by (B := T1.setTop (mkF m 8 #[VR (A 0), VI ux, VI w2, UU, UU, UU, UU] [(.ref (A 0))])) (fun _ k => XS.aloadN X1.here hx rfl (hb hby d12_7) rfl rfl  k) ?_
  obtain ⟨T3, X3, e3, st3⟩ := getF X1 hx hZ hown (host := "") (Or.inl (own_hw 19 hw rfl)) Via.refl e1 (own_PS_f1 P0) (g := (mkF m 8 #[VR (A 0), VI ux, VI w2, UU, UU, UU, UU] [(.ref (A 0))])) rfl rfl (hb hby d12_8)
  refine own_by (B := T3.setTop (mkF m 11 #[VR (A 0), VI ux, VI w2, UU, UU, UU, UU] [(.ref (A 1))])) st3 ?_
  refine own_by (B := T3.setTop (mkF m 12 #[VR (A 0), VI ux, VI w2, UU, UU, UU, UU] [(.int ux), (.ref (A 1))])) (fun _ k => XS.iloadN X3.here hx rfl (hb hby d12_11) rfl  k) ?_
  obtain ⟨i4, hi4, hF⟩ := own_bind hF
  obtain ⟨Lc4, hLc4, hF⟩ := own_bind hF
  refine own_by (B := T3.setTop (mkF m 13 #[VR (A 0), VI ux, VI w2, UU, UU, UU, UU] [(.ref (CA i4))])) (own_ldF X3 hx hZ e3 (own_PS_v1 P0) hi4 (g := (mkF m 12 #[VR (A 0), VI ux, VI w2, UU, UU, UU, UU] [(.int ux), (.ref (A 1))])) rfl rfl (hb hby d12_12)) ?_
  refine own_by (B := T3.setTop (mkF m 14 #[VR (A 0), VI ux, VI w2, VR (CA i4), UU, UU, UU] [])) (fun _ k => XS.astoreN X3.here hx rfl (hb hby d12_13) rfl rfl (l' := #[VR (A 0), VI ux, VI w2, VR (CA i4), UU, UU, UU]) rfl k) ?_
  refine own_by (B := T3.setTop (mkF m 15 #[VR (A 0), VI ux, VI w2, VR (CA i4), UU, UU, UU] [(.ref (A 0))])) (fun _ k => XS.aloadN X3.here hx rfl (hb hby d12_14) rfl rfl  k) ?_
  obtain ⟨T5, X5, e5, st5⟩ := getF X3 hx hZ hown (host := "") (Or.inl (own_hw 28 hw rfl)) Via.refl e3 (own_PS_f5 P0) (g := (mkF m 15 #[VR (A 0), VI ux, VI w2, VR (CA i4), UU, UU, UU] [(.ref (A 0))])) rfl rfl (hb hby d12_15)
  refine own_by (B := T5.setTop (mkF m 18 #[VR (A 0), VI ux, VI w2, VR (CA i4), UU, UU, UU] [(.ref (A 5))])) st5 ?_
  refine own_by (B := T5.setTop (mkF m 19 #[VR (A 0), VI ux, VI w2, VR (CA i4), UU, UU, UU] [(.int ux), (.ref (A 5))])) (fun _ k => XS.iloadN X5.here hx rfl (hb hby d12_18) rfl  k) ?_
  refine own_by (B := T5.setTop (mkF m 20 #[VR (A 0), VI ux, VI w2, VR (CA i4), UU, UU, UU] [(.int 1), (.int ux), (.ref (A 5))])) (fun _ k => XS.iconst X5.here hx rfl (hb hby d12_19) k) ?_
  obtain ⟨u6, hu6, hF⟩ := own_bind hF
  obtain ⟨zl6, hz6, hu6'⟩ := Option.map_eq_some_iff.mp hu6
  obtain ⟨T6, h6, X6, e6, W6, V6, st6⟩ := own_stZ X5 hx hZ e5 (own_PS_v5 P0) hz6 (g := (mkF m 20 #[VR (A 0), VI ux, VI w2, VR (CA i4), UU, UU, UU] [(.int 1), (.int ux), (.ref (A 5))])) rfl rfl (hb hby d12_20)
  have P6 : own_PS Z h6 n0 A K zr zc CA CK CL u6 := hu6' ▸ own_w_fi P0 W6 V6
  have N6 := Fr.snoc X6 N0 (own_PS_gn P0).2.2.2.2.2.1
  refine own_by (B := T6.setTop (mkF m 21 #[VR (A 0), VI ux, VI w2, VR (CA i4), UU, UU, UU] [])) st6 ?_
  refine own_by (B := T6.setTop (mkF m 22 #[VR (A 0), VI ux, VI w2, VR (CA i4), UU, UU, UU] [(.ref (A 0))])) (fun _ k => XS.aloadN X6.here hx rfl (hb hby d12_21) rfl rfl  k) ?_
  obtain ⟨T7, X7, e7, st7⟩ := getF X6 hx hZ hown (host := "") (Or.inl (own_hw 43 hw rfl)) Via.refl e6 (own_PS_f12 P6) (g := (mkF m 22 #[VR (A 0), VI ux, VI w2, VR (CA i4), UU, UU, UU] [(.ref (A 0))])) rfl rfl (hb hby d12_22)
  refine own_by (B := T7.setTop (mkF m 25 #[VR (A 0), VI ux, VI w2, VR (CA i4), UU, UU, UU] [(.ref (A 12))])) st7 ?_
  refine own_by (B := T7.setTop (mkF m 26 #[VR (A 0), VI ux, VI w2, VR (CA i4), UU, UU, UU] [(.int w2), (.ref (A 12))])) (fun _ k => XS.iloadN X7.here hx rfl (hb hby d12_25) rfl  k) ?_
  obtain ⟨w8, hw8, hF⟩ := own_bind hF
  refine own_by (B := T7.setTop (mkF m 27 #[VR (A 0), VI ux, VI w2, VR (CA i4), UU, UU, UU] [(.int w8)])) (own_ldI X7 hx hZ e7 (own_PS_v12 P6) hw8 (g := (mkF m 26 #[VR (A 0), VI ux, VI w2, VR (CA i4), UU, UU, UU] [(.int w2), (.ref (A 12))])) rfl rfl (hb hby d12_26)) ?_
  refine own_by (B := T7.setTop (mkF m 29 #[VR (A 0), VI ux, VI w2, VR (CA i4), VI w8, UU, UU] [])) (fun _ k => XS.istore X7.here hx rfl (hb hby d12_27) rfl (l' := #[VR (A 0), VI ux, VI w2, VR (CA i4), VI w8, UU, UU]) rfl k) ?_
  have hloop29 : ∀ (fuel : Nat) (v4 : Int32) (uh9 : own_S) (q9 : Int32 × own_S), own_lowest_L29 CL fuel Lc4 v4 uh9 = some q9 → ∀ (T1 : State) (lc1 : List Loc) (X1 : Stand p l e ({ frames := 6, cells := 0, slots := 0, locals := 104 } : Room) s m #[(.ref (A 0)), (.int ux)] below meth c T1 lc1 0 0) (N1 : Fr n0 lc1) (h1 : Heap) (e1 : T1.heap = h1) (P1 : own_PS Z h1 n0 A K zr zc CA CK CL uh9), (∀ (T2 : State) (lc2 : List Loc) (X2 : Stand p l e ({ frames := 6, cells := 0, slots := 0, locals := 104 } : Room) s m #[(.ref (A 0)), (.int ux)] below meth c T2 lc2 0 0) (N2 : Fr n0 lc2) (h2 : Heap) (e2 : T2.heap = h2) (P2 : own_PS Z h2 n0 A K zr zc CA CK CL (q9.2)), own_Go p.tables e below (own_K s below (own_QPr Z ru n0 A K zr zc CA CK CL) 0 0) (T2.setTop (mkF m 72 #[VR (A 0), VI ux, VI w2, VR (CA i4), VI (q9.1), UU, UU] []))) → own_Go p.tables e below (own_K s below (own_QPr Z ru n0 A K zr zc CA CK CL) 0 0) (T1.setTop (mkF m 29 #[VR (A 0), VI ux, VI w2, VR (CA i4), VI v4, UU, UU] [])) := by
    intro fuel
    induction fuel with
    | zero => intro v4 uh9 q9 hF; cases hF
    | succ fuel ih =>
      intro v4 uh9 q9 hF T1 lc1 X1 N1 h1 e1 P1 kont
      rw [own_lowest_L29] at hF
      refine own_by (B := T1.setTop (mkF m 31 #[VR (A 0), VI ux, VI w2, VR (CA i4), VI v4, UU, UU] [(.int v4)])) (fun _ k => XS.iload X1.here hx rfl (hb hby d12_29) rfl  k) ?_
      refine own_by (B := T1.setTop (mkF m 32 #[VR (A 0), VI ux, VI w2, VR (CA i4), VI v4, UU, UU] [(.ref (CA i4)), (.int v4)])) (fun _ k => XS.aloadN X1.here hx rfl (hb hby d12_31) rfl rfl  k) ?_
      refine own_by (B := T1.setTop (mkF m 33 #[VR (A 0), VI ux, VI w2, VR (CA i4), VI v4, UU, UU] [(.int (Int32.ofNat Lc4.length)), (.int v4)])) (own_lenI X1 hx hZ e1 ((own_PS_cc P1) _ _ hLc4).1 (g := (mkF m 32 #[VR (A 0), VI ux, VI w2, VR (CA i4), VI v4, UU, UU] [(.ref (CA i4)), (.int v4)])) rfl rfl (hb hby d12_32)) ?_
      by_cases hc10 : v4 < (Int32.ofNat Lc4.length)
      · rw [if_pos hc10] at hF
        refine own_by (B := T1.setTop (mkF m 36 #[VR (A 0), VI ux, VI w2, VR (CA i4), VI v4, UU, UU] [])) (fun _ k => XS.icmpNo X1.here hx rfl (hb hby d12_33) rfl (XT.ii_ge_f hc10) k) ?_
        refine own_by (B := T1.setTop (mkF m 37 #[VR (A 0), VI ux, VI w2, VR (CA i4), VI v4, UU, UU] [(.ref (A 0))])) (fun _ k => XS.aloadN X1.here hx rfl (hb hby d12_36) rfl rfl  k) ?_
        obtain ⟨T11, X11, e11, st11⟩ := getF X1 hx hZ hown (host := "") (Or.inl (own_hw 25 hw rfl)) Via.refl e1 (own_PS_f4 P1) (g := (mkF m 37 #[VR (A 0), VI ux, VI w2, VR (CA i4), VI v4, UU, UU] [(.ref (A 0))])) rfl rfl (hb hby d12_37)
        refine own_by (B := T11.setTop (mkF m 40 #[VR (A 0), VI ux, VI w2, VR (CA i4), VI v4, UU, UU] [(.ref (A 4))])) st11 ?_
        refine own_by (B := T11.setTop (mkF m 41 #[VR (A 0), VI ux, VI w2, VR (CA i4), VI v4, UU, UU] [(.ref (CA i4)), (.ref (A 4))])) (fun _ k => XS.aloadN X11.here hx rfl (hb hby d12_40) rfl rfl  k) ?_
        refine own_by (B := T11.setTop (mkF m 43 #[VR (A 0), VI ux, VI w2, VR (CA i4), VI v4, UU, UU] [(.int v4), (.ref (CA i4)), (.ref (A 4))])) (fun _ k => XS.iload X11.here hx rfl (hb hby d12_41) rfl  k) ?_
        obtain ⟨w12, hw12, hF⟩ := own_bind hF
        refine own_by (B := T11.setTop (mkF m 44 #[VR (A 0), VI ux, VI w2, VR (CA i4), VI v4, UU, UU] [(.int w12), (.ref (A 4))])) (own_ldI X11 hx hZ e11 ((own_PS_cc P1) _ _ hLc4).1 hw12 (g := (mkF m 43 #[VR (A 0), VI ux, VI w2, VR (CA i4), VI v4, UU, UU] [(.int v4), (.ref (CA i4)), (.ref (A 4))])) rfl rfl (hb hby d12_43)) ?_
        obtain ⟨w13, hw13, hF⟩ := own_bind hF
        refine own_by (B := T11.setTop (mkF m 45 #[VR (A 0), VI ux, VI w2, VR (CA i4), VI v4, UU, UU] [(.int w13)])) (own_ldI X11 hx hZ e11 (own_PS_v4 P1) hw13 (g := (mkF m 44 #[VR (A 0), VI ux, VI w2, VR (CA i4), VI v4, UU, UU] [(.int w12), (.ref (A 4))])) rfl rfl (hb hby d12_44)) ?_
        refine own_by (B := T11.setTop (mkF m 46 #[VR (A 0), VI ux, VI w2, VR (CA i4), VI v4, UU, UU] [(.int (-1 : Int32)), (.int w13)])) (fun _ k => XS.iconst X11.here hx rfl (hb hby d12_45) k) ?_
        by_cases hc14 : w13 = (-1 : Int32)
        · rw [if_pos hc14] at hF
          refine own_by (B := T11.setTop (mkF m 72 #[VR (A 0), VI ux, VI w2, VR (CA i4), VI v4, UU, UU] [])) (fun _ k => XS.icmpYes X11.here hx rfl (pc0 := 46) (pc' := 72) rfl (hb hby d12_46) rfl (XT.ii_eq_t hc14) (by decide) (by decide) k) ?_
          obtain rfl := Option.some.inj hF
          exact kont _ _ X11 N1 _ e11 P1
        · rw [if_neg hc14] at hF
          refine own_by (B := T11.setTop (mkF m 49 #[VR (A 0), VI ux, VI w2, VR (CA i4), VI v4, UU, UU] [])) (fun _ k => XS.icmpNo X11.here hx rfl (hb hby d12_46) rfl (XT.ii_eq_f hc14) k) ?_
          refine own_by (B := T11.setTop (mkF m 50 #[VR (A 0), VI ux, VI w2, VR (CA i4), VI v4, UU, UU] [(.ref (A 0))])) (fun _ k => XS.aloadN X11.here hx rfl (hb hby d12_49) rfl rfl  k) ?_
          obtain ⟨T15, X15, e15, st15⟩ := getF X11 hx hZ hown (host := "") (Or.inl (own_hw 28 hw rfl)) Via.refl e11 (own_PS_f5 P1) (g := (mkF m 50 #[VR (A 0), VI ux, VI w2, VR (CA i4), VI v4, UU, UU] [(.ref (A 0))])) rfl rfl (hb hby d12_50)
          refine own_by (B := T15.setTop (mkF m 53 #[VR (A 0), VI ux, VI w2, VR (CA i4), VI v4, UU, UU] [(.ref (A 5))])) st15 ?_
          refine own_by (B := T15.setTop (mkF m 54 #[VR (A 0), VI ux, VI w2, VR (CA i4), VI v4, UU, UU] [(.ref (A 0)), (.ref (A 5))])) (fun _ k => XS.aloadN X15.here hx rfl (hb hby d12_53) rfl rfl  k) ?_
          obtain ⟨T16, X16, e16, st16⟩ := getF X15 hx hZ hown (host := "") (Or.inl (own_hw 25 hw rfl)) Via.refl e15 (own_PS_f4 P1) (g := (mkF m 54 #[VR (A 0), VI ux, VI w2, VR (CA i4), VI v4, UU, UU] [(.ref (A 0)), (.ref (A 5))])) rfl rfl (hb hby d12_54)
          refine own_by (B := T16.setTop (mkF m 57 #[VR (A 0), VI ux, VI w2, VR (CA i4), VI v4, UU, UU] [(.ref (A 4)), (.ref (A 5))])) st16 ?_
          refine own_by (B := T16.setTop (mkF m 58 #[VR (A 0), VI ux, VI w2, VR (CA i4), VI v4, UU, UU] [(.ref (CA i4)), (.ref (A 4)), (.ref (A 5))])) (fun _ k => XS.aloadN X16.here hx rfl (hb hby d12_57) rfl rfl  k) ?_
          refine own_by (B := T16.setTop (mkF m 60 #[VR (A 0), VI ux, VI w2, VR (CA i4), VI v4, UU, UU] [(.int v4), (.ref (CA i4)), (.ref (A 4)), (.ref (A 5))])) (fun _ k => XS.iload X16.here hx rfl (hb hby d12_58) rfl  k) ?_
          obtain ⟨w17, hw17, hF⟩ := own_bind hF
          refine own_by (B := T16.setTop (mkF m 61 #[VR (A 0), VI ux, VI w2, VR (CA i4), VI v4, UU, UU] [(.int w17), (.ref (A 4)), (.ref (A 5))])) (own_ldI X16 hx hZ e16 ((own_PS_cc P1) _ _ hLc4).1 hw17 (g := (mkF m 60 #[VR (A 0), VI ux, VI w2, VR (CA i4), VI v4, UU, UU] [(.int v4), (.ref (CA i4)), (.ref (A 4)), (.ref (A 5))])) rfl rfl (hb hby d12_60)) ?_
          obtain ⟨w18, hw18, hF⟩ := own_bind hF
          refine own_by (B := T16.setTop (mkF m 62 #[VR (A 0), VI ux, VI w2, VR (CA i4), VI v4, UU, UU] [(.int w18), (.ref (A 5))])) (own_ldI X16 hx hZ e16 (own_PS_v4 P1) hw18 (g := (mkF m 61 #[VR (A 0), VI ux, VI w2, VR (CA i4), VI v4, UU, UU] [(.int w17), (.ref (A 4)), (.ref (A 5))])) rfl rfl (hb hby d12_61)) ?_
          obtain ⟨w19, hw19, hF⟩ := own_bind hF
          refine own_by (B := T16.setTop (mkF m 63 #[VR (A 0), VI ux, VI w2, VR (CA i4), VI v4, UU, UU] [(.int w19)])) (own_ldZ X16 hx hZ e16 (own_PS_v5 P1) hw19 (g := (mkF m 62 #[VR (A 0), VI ux, VI w2, VR (CA i4), VI v4, UU, UU] [(.int w18), (.ref (A 5))])) rfl rfl (hb hby d12_62)) ?_
          by_cases hc20 : w19 = (0 : Int32)
          · rw [if_pos hc20] at hF
            refine own_by (B := T16.setTop (mkF m 72 #[VR (A 0), VI ux, VI w2, VR (CA i4), VI v4, UU, UU] [])) (fun _ k => XS.ifYes X16.here hx rfl (pc0 := 63) (pc' := 72) rfl (hb hby d12_63) rfl (XT.i0_eq_t hc20) (by decide) (by decide) k) ?_
            obtain rfl := Option.some.inj hF
            exact kont _ _ X16 N1 _ e16 P1
          · rw [if_neg hc20] at hF
            refine own_by (B := T16.setTop (mkF m 66 #[VR (A 0), VI ux, VI w2, VR (CA i4), VI v4, UU, UU] [])) (fun _ k => XS.ifNo X16.here hx rfl (hb hby d12_63) rfl (XT.i0_eq_f hc20) k) ?_
            refine own_by (B := T16.setTop (mkF m 69 #[VR (A 0), VI ux, VI w2, VR (CA i4), VI (v4 + (1 : Int32)), UU, UU] [])) (fun _ k => XS.iinc X16.here hx rfl (hb hby d12_66) rfl (l' := #[VR (A 0), VI ux, VI w2, VR (CA i4), VI (v4 + (1 : Int32)), UU, UU]) rfl k) ?_
            refine own_by (B := T16.setTop (mkF m 29 #[VR (A 0), VI ux, VI w2, VR (CA i4), VI (v4 + (1 : Int32)), UU, UU] [])) (fun _ k => XS.goto X16.here hx rfl (pc0 := 69) (pc' := 29) rfl (hb hby d12_69) (by decide) (by decide) k) ?_
            exact ih (v4 + (1 : Int32)) uh9 _ hF _ _ X16 N1 _ e16 P1 kont
      · rw [if_neg hc10] at hF
        refine own_by (B := T1.setTop (mkF m 72 #[VR (A 0), VI ux, VI w2, VR (CA i4), VI v4, UU, UU] [])) (fun _ k => XS.icmpYes X1.here hx rfl (pc0 := 33) (pc' := 72) rfl (hb hby d12_33) rfl (XT.ii_ge_t hc10) (by decide) (by decide) k) ?_
        obtain rfl := Option.some.inj hF
        exact kont _ _ X1 N1 _ e1 P1
  obtain ⟨q21, hq21, hF⟩ := own_bind hF
  refine hloop29 8 w8 u6 _ hq21 _ _ X7 N6 _ e7 P6 ?_
  intro T22 lc22 X22 N22 h22 e22 P22
  refine own_by (B := T22.setTop (mkF m 73 #[VR (A 0), VI ux, VI w2, VR (CA i4), VI (q21.1), UU, UU] [(.ref (A 0))])) (fun _ k => XS.aloadN X22.here hx rfl (hb hby d12_72) rfl rfl  k) ?_
  obtain ⟨T23, X23, e23, st23⟩ := getF X22 hx hZ hown (host := "") (Or.inl (own_hw 43 hw rfl)) Via.refl e22 (own_PS_f12 P22) (g := (mkF m 73 #[VR (A 0), VI ux, VI w2, VR (CA i4), VI (q21.1), UU, UU] [(.ref (A 0))])) rfl rfl (hb hby d12_73)
  refine own_by (B := T23.setTop (mkF m 76 #[VR (A 0), VI ux, VI w2, VR (CA i4), VI (q21.1), UU, UU] [(.ref (A 12))])) st23 ?_
  refine own_by (B := T23.setTop (mkF m 77 #[VR (A 0), VI ux, VI w2, VR (CA i4), VI (q21.1), UU, UU] [(.int w2), (.ref (A 12))])) (fun _ k => XS.iloadN X23.here hx rfl (hb hby d12_76) rfl  k) ?_
  refine own_by (B := T23.setTop (mkF m 79 #[VR (A 0), VI ux, VI w2, VR (CA i4), VI (q21.1), UU, UU] [(.int (q21.1)), (.int w2), (.ref (A 12))])) (fun _ k => XS.iload X23.here hx rfl (hb hby d12_77) rfl  k) ?_
  obtain ⟨u24, hu24, hF⟩ := own_bind hF
  obtain ⟨zl24, hz24, hu24'⟩ := Option.map_eq_some_iff.mp hu24
  obtain ⟨T24, h24, X24, e24, W24, V24, st24⟩ := own_stI X23 hx hZ e23 (own_PS_v12 P22) hz24 (g := (mkF m 79 #[VR (A 0), VI ux, VI w2, VR (CA i4), VI (q21.1), UU, UU] [(.int (q21.1)), (.int w2), (.ref (A 12))])) rfl rfl (hb hby d12_79)
  have P24 : own_PS Z h24 n0 A K zr zc CA CK CL u24 := hu24' ▸ own_w_ff P22 W24 V24
  have N24 := Fr.snoc X24 N22 (own_PS_gn P22).2.2.2.2.2.2.2.2.2.2.2.2
  refine own_by (B := T24.setTop (mkF m 80 #[VR (A 0), VI ux, VI w2, VR (CA i4), VI (q21.1), UU, UU] [])) st24 ?_
  refine own_by (B := T24.setTop (mkF m 81 #[VR (A 0), VI ux, VI w2, VR (CA i4), VI (q21.1), UU, UU] [(.int 0)])) (fun _ k => XS.iconst X24.here hx rfl (hb hby d12_80) k) ?_
  refine own_by (B := T24.setTop (mkF m 83 #[VR (A 0), VI ux, VI w2, VR (CA i4), VI (q21.1), VI 0, UU] [])) (fun _ k => XS.istore X24.here hx rfl (hb hby d12_81) rfl (l' := #[VR (A 0), VI ux, VI w2, VR (CA i4), VI (q21.1), VI 0, UU]) rfl k) ?_
  refine own_by (B := T24.setTop (mkF m 85 #[VR (A 0), VI ux, VI w2, VR (CA i4), VI (q21.1), VI 0, UU] [(.int (q21.1))])) (fun _ k => XS.iload X24.here hx rfl (hb hby d12_83) rfl  k) ?_
  refine own_by (B := T24.setTop (mkF m 87 #[VR (A 0), VI ux, VI w2, VR (CA i4), VI (q21.1), VI 0, VI (q21.1)] [])) (fun _ k => XS.istore X24.here hx rfl (hb hby d12_85) rfl (l' := #[VR (A 0), VI ux, VI w2, VR (CA i4), VI (q21.1), VI 0, VI (q21.1)]) rfl k) ?_
  have hloop87 : ∀ (fuel : Nat) (v5 : Int32) (v6 : Int32) (uh25 : own_S) (q25 : Int32 × Int32 × own_S), own_lowest_L87 CL fuel ux Lc4 v5 v6 uh25 = some q25 → ∀ (T1 : State) (lc1 : List Loc) (X1 : Stand p l e ({ frames := 6, cells := 0, slots := 0, locals := 104 } : Room) s m #[(.ref (A 0)), (.int ux)] below meth c T1 lc1 0 0) (N1 : Fr n0 lc1) (h1 : Heap) (e1 : T1.heap = h1) (P1 : own_PS Z h1 n0 A K zr zc CA CK CL uh25), (∀ (T2 : State) (lc2 : List Loc) (X2 : Stand p l e ({ frames := 6, cells := 0, slots := 0, locals := 104 } : Room) s m #[(.ref (A 0)), (.int ux)] below meth c T2 lc2 0 0) (N2 : Fr n0 lc2) (h2 : Heap) (e2 : T2.heap = h2) (P2 : own_PS Z h2 n0 A K zr zc CA CK CL (q25.2.2)), own_Go p.tables e below (own_K s below (own_QPr Z ru n0 A K zr zc CA CK CL) 0 0) (T2.setTop (mkF m 129 #[VR (A 0), VI ux, VI w2, VR (CA i4), VI (q21.1), VI (q25.1), VI (q25.2.1)] []))) → own_Go p.tables e below (own_K s below (own_QPr Z ru n0 A K zr zc CA CK CL) 0 0) (T1.setTop (mkF m 87 #[VR (A 0), VI ux, VI w2, VR (CA i4), VI (q21.1), VI v5, VI v6] [])) := by
    intro fuel
    induction fuel with
    | zero => intro v5 v6 uh25 q25 hF; cases hF
    | succ fuel ih =>
      intro v5 v6 uh25 q25 hF T1 lc1 X1 N1 h1 e1 P1 kont
      rw [own_lowest_L87] at hF
      refine own_by (B := T1.setTop (mkF m 89 #[VR (A 0), VI ux, VI w2, VR (CA i4), VI (q21.1), VI v5, VI v6] [(.int v5)])) (fun _ k => XS.iload X1.here hx rfl (hb hby d12_87) rfl  k) ?_
      by_cases hc26 : v5 = (0 : Int32)
      · rw [if_pos hc26] at hF
        refine own_by (B := T1.setTop (mkF m 92 #[VR (A 0), VI ux, VI w2, VR (CA i4), VI (q21.1), VI v5, VI v6] [])) (fun _ k => XS.ifNo X1.here hx rfl (hb hby d12_89) rfl (XT.i0_ne_f hc26) k) ?_
        refine own_by (B := T1.setTop (mkF m 94 #[VR (A 0), VI ux, VI w2, VR (CA i4), VI (q21.1), VI v5, VI v6] [(.int v6)])) (fun _ k => XS.iload X1.here hx rfl (hb hby d12_92) rfl  k) ?_
        refine own_by (B := T1.setTop (mkF m 95 #[VR (A 0), VI ux, VI w2, VR (CA i4), VI (q21.1), VI v5, VI v6] [(.ref (CA i4)), (.int v6)])) (fun _ k => XS.aloadN X1.here hx rfl (hb hby d12_94) rfl rfl  k) ?_
        refine own_by (B := T1.setTop (mkF m 96 #[VR (A 0), VI ux, VI w2, VR (CA i4), VI (q21.1), VI v5, VI v6] [(.int (Int32.ofNat Lc4.length)), (.int v6)])) (own_lenI X1 hx hZ e1 ((own_PS_cc P1) _ _ hLc4).1 (g := (mkF m 95 #[VR (A 0), VI ux, VI w2, VR (CA i4), VI (q21.1), VI v5, VI v6] [(.ref (CA i4)), (.int v6)])) rfl rfl (hb hby d12_95)) ?_
        by_cases hc27 : v6 < (Int32.ofNat Lc4.length)
        · rw [if_pos hc27] at hF
          refine own_by (B := T1.setTop (mkF m 99 #[VR (A 0), VI ux, VI w2, VR (CA i4), VI (q21.1), VI v5, VI v6] [])) (fun _ k => XS.icmpNo X1.here hx rfl (hb hby d12_96) rfl (XT.ii_ge_f hc27) k) ?_
          refine own_by (B := T1.setTop (mkF m 100 #[VR (A 0), VI ux, VI w2, VR (CA i4), VI (q21.1), VI v5, VI v6] [(.ref (CA i4))])) (fun _ k => XS.aloadN X1.here hx rfl (hb hby d12_99) rfl rfl  k) ?_
          refine own_by (B := T1.setTop (mkF m 102 #[VR (A 0), VI ux, VI w2, VR (CA i4), VI (q21.1), VI v5, VI v6] [(.int v6), (.ref (CA i4))])) (fun _ k => XS.iload X1.here hx rfl (hb hby d12_100) rfl  k) ?_
          obtain ⟨w28, hw28, hF⟩ := own_bind hF
          refine own_by (B := T1.setTop (mkF m 103 #[VR (A 0), VI ux, VI w2, VR (CA i4), VI (q21.1), VI v5, VI v6] [(.int w28)])) (own_ldI X1 hx hZ e1 ((own_PS_cc P1) _ _ hLc4).1 hw28 (g := (mkF m 102 #[VR (A 0), VI ux, VI w2, VR (CA i4), VI (q21.1), VI v5, VI v6] [(.int v6), (.ref (CA i4))])) rfl rfl (hb hby d12_102)) ?_
          refine own_by (B := T1.setTop (mkF m 104 #[VR (A 0), VI ux, VI w2, VR (CA i4), VI (q21.1), VI v5, VI v6] [(.ref (A 0)), (.int w28)])) (fun _ k => XS.aloadN X1.here hx rfl (hb hby d12_103) rfl rfl  k) ?_
          obtain ⟨T29, X29, e29, st29⟩ := getF X1 hx hZ hown (host := "") (Or.inl (own_hw 23 hw rfl)) Via.refl e1 (own_PS_f3 P1) (g := (mkF m 104 #[VR (A 0), VI ux, VI w2, VR (CA i4), VI (q21.1), VI v5, VI v6] [(.ref (A 0)), (.int w28)])) rfl rfl (hb hby d12_104)
          refine own_by (B := T29.setTop (mkF m 107 #[VR (A 0), VI ux, VI w2, VR (CA i4), VI (q21.1), VI v5, VI v6] [(.ref (A 3)), (.int w28)])) st29 ?_
          refine own_by (B := T29.setTop (mkF m 108 #[VR (A 0), VI ux, VI w2, VR (CA i4), VI (q21.1), VI v5, VI v6] [(.int ux), (.ref (A 3)), (.int w28)])) (fun _ k => XS.iloadN X29.here hx rfl (hb hby d12_107) rfl  k) ?_
          obtain ⟨w30, hw30, hF⟩ := own_bind hF
          refine own_by (B := T29.setTop (mkF m 109 #[VR (A 0), VI ux, VI w2, VR (CA i4), VI (q21.1), VI v5, VI v6] [(.int w30), (.int w28)])) (own_ldI X29 hx hZ e29 (own_PS_v3 P1) hw30 (g := (mkF m 108 #[VR (A 0), VI ux, VI w2, VR (CA i4), VI (q21.1), VI v5, VI v6] [(.int ux), (.ref (A 3)), (.int w28)])) rfl rfl (hb hby d12_108)) ?_
          by_cases hc31 : w28 < w30
          · rw [if_pos hc31] at hF
            refine own_by (B := T29.setTop (mkF m 112 #[VR (A 0), VI ux, VI w2, VR (CA i4), VI (q21.1), VI v5, VI v6] [])) (fun _ k => XS.icmpNo X29.here hx rfl (hb hby d12_109) rfl (XT.ii_ge_f hc31) k) ?_
            refine own_by (B := T29.setTop (mkF m 113 #[VR (A 0), VI ux, VI w2, VR (CA i4), VI (q21.1), VI v5, VI v6] [(.ref (A 0))])) (fun _ k => XS.aloadN X29.here hx rfl (hb hby d12_112) rfl rfl  k) ?_
            refine own_by (B := T29.setTop (mkF m 114 #[VR (A 0), VI ux, VI w2, VR (CA i4), VI (q21.1), VI v5, VI v6] [(.int ux), (.ref (A 0))])) (fun _ k => XS.iloadN X29.here hx rfl (hb hby d12_113) rfl  k) ?_
            refine own_by (B := T29.setTop (mkF m 115 #[VR (A 0), VI ux, VI w2, VR (CA i4), VI (q21.1), VI v5, VI v6] [(.ref (CA i4)), (.int ux), (.ref (A 0))])) (fun _ k => XS.aloadN X29.here hx rfl (hb hby d12_114) rfl rfl  k) ?_
            refine own_by (B := T29.setTop (mkF m 117 #[VR (A 0), VI ux, VI w2, VR (CA i4), VI (q21.1), VI v5, VI v6] [(.int v6), (.ref (CA i4)), (.int ux), (.ref (A 0))])) (fun _ k => XS.iload X29.here hx rfl (hb hby d12_115) rfl  k) ?_
            obtain ⟨w32, hw32, hF⟩ := own_bind hF
            refine own_by (B := T29.setTop (mkF m 118 #[VR (A 0), VI ux, VI w2, VR (CA i4), VI (q21.1), VI v5, VI v6] [(.int w32), (.int ux), (.ref (A 0))])) (own_ldI X29 hx hZ e29 ((own_PS_cc P1) _ _ hLc4).1 hw32 (g := (mkF m 117 #[VR (A 0), VI ux, VI w2, VR (CA i4), VI (q21.1), VI v5, VI v6] [(.int v6), (.ref (CA i4)), (.int ux), (.ref (A 0))])) rfl rfl (hb hby d12_117)) ?_
            obtain ⟨q33, hq33, hF⟩ := own_bind hF
            obtain ⟨cq34, qa34, qc34⟩ := Exa.cell (own_PS_E P1)
            obtain ⟨_, _, ⟨T34, L34, k34, n34⟩, -, X34, ⟨Lc34, hQ34, l34, y34, z34⟩, st34⟩ := X29.privateBack hx (y := (⟨"com/example/document_pattern_rules/documentpatternrules/pattern/Pairing", "take", "(II)Z"⟩ : MethodName)) hown (mvT hZ (own_hw 103 hw rfl)) (mvT hZ (own_hw 104 hw rfl)) (mvT hZ (own_selpriv (y := (⟨"com/example/document_pattern_rules/documentpatternrules/pattern/Pairing", "take", "(II)Z"⟩ : MethodName)) (own_hw 9 hw rfl) (own_hw 105 hw rfl) (own_hw 104 hw rfl) (by decide))) (Cond.privateMethod_at (mvP hZ (own_hw 105 hw rfl) (args := #[]))) (mvT hZ (own_hw 106 hw rfl)) (by decide) (backOf (W := 0) (rm_take l Z a0 hw [] A K zr zc CA CK CL uh25 _ ux w32 h1 n0 (Nat.le_trans (own_PS_gn P1).1 (Nat.le_of_lt (own_PS_E P1).lt)) P1 hq33) hZ (own_hw 106 hw rfl) (own_hw 10 hw rfl) (by decide) (by decide)) (g := (mkF m 118 #[VR (A 0), VI ux, VI w2, VR (CA i4), VI (q21.1), VI v5, VI v6] [(.int w32), (.int ux), (.ref (A 0))])) rfl (by rw [hml]; rfl) (Steps.refl _) (a := (A 0)) (by rw [e29]; exact qa34) qc34 (argsL := [(.int ux), (.int w32)]) (rest := []) (lenOf pd_12__II_Z rfl) rfl (by show 2 * 0 + _ ≤ _; exact Nat.le_of_eq rfl) (hb hby d12_118) (fun _ _ => ⟨rfl, e29, (by decide : 0 + 0 ≤ _), (by decide : 0 + 0 ≤ _)⟩)
            dsimp only [Pt.U, Pt.locs, Pt.cells, Pt.slots] at X34 l34 y34 z34 st34 hQ34
            subst l34 y34 z34
            obtain ⟨rfl, NC34, PC34⟩ := hQ34
            refine own_by (B := T34.setTop (mkF m 121 #[VR (A 0), VI ux, VI w2, VR (CA i4), VI (q21.1), VI v5, VI v6] [(.int (q33.1))])) (fun _ k => st34.trans k) ?_
            obtain ⟨h34, e34⟩ : ∃ z, T34.heap = z := ⟨_, rfl⟩
            rw [e34] at PC34
            have N34 := Fr.app N1 NC34
            refine own_by (B := T34.setTop (mkF m 123 #[VR (A 0), VI ux, VI w2, VR (CA i4), VI (q21.1), VI (q33.1), VI v6] [])) (fun _ k => XS.istore X34.here hx rfl (hb hby d12_121) rfl (l' := #[VR (A 0), VI ux, VI w2, VR (CA i4), VI (q21.1), VI (q33.1), VI v6]) rfl k) ?_
            refine own_by (B := T34.setTop (mkF m 126 #[VR (A 0), VI ux, VI w2, VR (CA i4), VI (q21.1), VI (q33.1), VI (v6 + (1 : Int32))] [])) (fun _ k => XS.iinc X34.here hx rfl (hb hby d12_123) rfl (l' := #[VR (A 0), VI ux, VI w2, VR (CA i4), VI (q21.1), VI (q33.1), VI (v6 + (1 : Int32))]) rfl k) ?_
            refine own_by (B := T34.setTop (mkF m 87 #[VR (A 0), VI ux, VI w2, VR (CA i4), VI (q21.1), VI (q33.1), VI (v6 + (1 : Int32))] [])) (fun _ k => XS.goto X34.here hx rfl (pc0 := 126) (pc' := 87) rfl (hb hby d12_126) (by decide) (by decide) k) ?_
            exact ih (q33.1) (v6 + (1 : Int32)) (q33.2) _ hF _ _ X34 N34 _ e34 PC34 kont
          · rw [if_neg hc31] at hF
            refine own_by (B := T29.setTop (mkF m 129 #[VR (A 0), VI ux, VI w2, VR (CA i4), VI (q21.1), VI v5, VI v6] [])) (fun _ k => XS.icmpYes X29.here hx rfl (pc0 := 109) (pc' := 129) rfl (hb hby d12_109) rfl (XT.ii_ge_t hc31) (by decide) (by decide) k) ?_
            obtain rfl := Option.some.inj hF
            exact kont _ _ X29 N1 _ e29 P1
        · rw [if_neg hc27] at hF
          refine own_by (B := T1.setTop (mkF m 129 #[VR (A 0), VI ux, VI w2, VR (CA i4), VI (q21.1), VI v5, VI v6] [])) (fun _ k => XS.icmpYes X1.here hx rfl (pc0 := 96) (pc' := 129) rfl (hb hby d12_96) rfl (XT.ii_ge_t hc27) (by decide) (by decide) k) ?_
          obtain rfl := Option.some.inj hF
          exact kont _ _ X1 N1 _ e1 P1
      · rw [if_neg hc26] at hF
        refine own_by (B := T1.setTop (mkF m 129 #[VR (A 0), VI ux, VI w2, VR (CA i4), VI (q21.1), VI v5, VI v6] [])) (fun _ k => XS.ifYes X1.here hx rfl (pc0 := 89) (pc' := 129) rfl (hb hby d12_89) rfl (XT.i0_ne_t hc26) (by decide) (by decide) k) ?_
        obtain rfl := Option.some.inj hF
        exact kont _ _ X1 N1 _ e1 P1
  obtain ⟨q35, hq35, hF⟩ := own_bind hF
  refine hloop87 8 (0 : Int32) (q21.1) u24 _ hq35 _ _ X24 N24 _ e24 P24 ?_
  intro T36 lc36 X36 N36 h36 e36 P36
  refine own_by (B := T36.setTop (mkF m 130 #[VR (A 0), VI ux, VI w2, VR (CA i4), VI (q21.1), VI (q35.1), VI (q35.2.1)] [(.ref (A 0))])) (fun _ k => XS.aloadN X36.here hx rfl (hb hby d12_129) rfl rfl  k) ?_
  obtain ⟨T37, X37, e37, st37⟩ := getF X36 hx hZ hown (host := "") (Or.inl (own_hw 23 hw rfl)) Via.refl e36 (own_PS_f3 P36) (g := (mkF m 130 #[VR (A 0), VI ux, VI w2, VR (CA i4), VI (q21.1), VI (q35.1), VI (q35.2.1)] [(.ref (A 0))])) rfl rfl (hb hby d12_130)
  refine own_by (B := T37.setTop (mkF m 133 #[VR (A 0), VI ux, VI w2, VR (CA i4), VI (q21.1), VI (q35.1), VI (q35.2.1)] [(.ref (A 3))])) st37 ?_
  refine own_by (B := T37.setTop (mkF m 134 #[VR (A 0), VI ux, VI w2, VR (CA i4), VI (q21.1), VI (q35.1), VI (q35.2.1)] [(.int ux), (.ref (A 3))])) (fun _ k => XS.iloadN X37.here hx rfl (hb hby d12_133) rfl  k) ?_
  obtain ⟨w38, hw38, hF⟩ := own_bind hF
  refine own_by (B := T37.setTop (mkF m 135 #[VR (A 0), VI ux, VI w2, VR (CA i4), VI (q21.1), VI (q35.1), VI (q35.2.1)] [(.int w38)])) (own_ldI X37 hx hZ e37 (own_PS_v3 P36) hw38 (g := (mkF m 134 #[VR (A 0), VI ux, VI w2, VR (CA i4), VI (q21.1), VI (q35.1), VI (q35.2.1)] [(.int ux), (.ref (A 3))])) rfl rfl (hb hby d12_134)) ?_
  obtain rfl := Option.some.inj hF
  exact own_retI X37 hx hrt hlk (hb hby d12_135) (by decide) (by decide) (by show own_QPr Z ((w38, (q35.2.2))) n0 A K zr zc CA CK CL _ T37.heap _; rw [e37]; exact ⟨rfl, N36, P36⟩)

def own_add (CL : List (List Int32)) (u0 : own_S) (ui : Nat) : Option own_S := (own_st_F u0 (own_ro u0) ui).bind fun u3 => (own_st_ki u3 (own_ro u3) (own_ro u3)).bind fun u7 => (own_st_pa u7 (own_ro u7) (-1 : Int32)).bind fun u10 => ((some (own_ro_set u10 ((own_ro u10) + (1 : Int32))) : Option own_S)).bind fun u12 => some u12

theorem d6_0 : decode prog_77_method_2_code 0 = .ok (.aload_n 0, 1) := by decide +kernel
theorem d6_1 : decode prog_77_method_2_code 1 = .ok (.getfield 9, 3) := by decide +kernel
theorem d6_4 : decode prog_77_method_2_code 4 = .ok (.aload_n 0, 1) := by decide +kernel
theorem d6_5 : decode prog_77_method_2_code 5 = .ok (.getfield 56, 3) := by decide +kernel
theorem d6_8 : decode prog_77_method_2_code 8 = .ok (.aload_n 1, 1) := by decide +kernel
theorem d6_9 : decode prog_77_method_2_code 9 = .ok (.aastore, 1) := by decide +kernel
theorem d6_10 : decode prog_77_method_2_code 10 = .ok (.aload_n 0, 1) := by decide +kernel
theorem d6_11 : decode prog_77_method_2_code 11 = .ok (.getfield 15, 3) := by decide +kernel
theorem d6_14 : decode prog_77_method_2_code 14 = .ok (.aload_n 0, 1) := by decide +kernel
theorem d6_15 : decode prog_77_method_2_code 15 = .ok (.getfield 56, 3) := by decide +kernel
theorem d6_18 : decode prog_77_method_2_code 18 = .ok (.aload_n 0, 1) := by decide +kernel
theorem d6_19 : decode prog_77_method_2_code 19 = .ok (.getfield 56, 3) := by decide +kernel
theorem d6_22 : decode prog_77_method_2_code 22 = .ok (.iastore, 1) := by decide +kernel
theorem d6_23 : decode prog_77_method_2_code 23 = .ok (.aload_n 0, 1) := by decide +kernel
theorem d6_24 : decode prog_77_method_2_code 24 = .ok (.getfield 18, 3) := by decide +kernel
theorem d6_27 : decode prog_77_method_2_code 27 = .ok (.aload_n 0, 1) := by decide +kernel
theorem d6_28 : decode prog_77_method_2_code 28 = .ok (.getfield 56, 3) := by decide +kernel
theorem d6_31 : decode prog_77_method_2_code 31 = .ok (.iconst (-1), 1) := by decide +kernel
theorem d6_32 : decode prog_77_method_2_code 32 = .ok (.iastore, 1) := by decide +kernel
theorem d6_33 : decode prog_77_method_2_code 33 = .ok (.aload_n 0, 1) := by decide +kernel
theorem d6_34 : decode prog_77_method_2_code 34 = .ok (.dup, 1) := by decide +kernel
theorem d6_35 : decode prog_77_method_2_code 35 = .ok (.getfield 56, 3) := by decide +kernel
theorem d6_38 : decode prog_77_method_2_code 38 = .ok (.iconst 1, 1) := by decide +kernel
theorem d6_39 : decode prog_77_method_2_code 39 = .ok (.iadd, 1) := by decide +kernel
theorem d6_40 : decode prog_77_method_2_code 40 = .ok (.putfield 56, 3) := by decide +kernel
theorem d6_43 : decode prog_77_method_2_code 43 = .ok (.return_, 1) := by decide +kernel
theorem pn_rm_add : plainFor (⟨"com/example/document_pattern_rules/documentpatternrules/pattern/Pairing", "add", "([I)V"⟩ : MethodName) = true := by first | exact plainFor_of_name (by first | (simp [plainName, overriddenIn]; done) | decide +kernel) | exact Jvm.Free.JP.mathPlain rfl (by decide +kernel) | decide +kernel
theorem ef_rm_add (m : MethodId) (x0 : Nat) (x1 : Nat) : entryFrame m #[(.ref x0), (.ref x1)] 2 = mkF m 0 #[VR x0, VR x1] [] := by first | (simp [entryFrame, mkF, argsToLocals, Value.category]; done) | rfl
set_option maxRecDepth 65536 in
set_option maxHeartbeats 40000000 in
theorem rm_add (l : Launch) (Z : State) (a0 : Array Value) (hw : ∀ d ∈ tables_1, d.before a0 Z = true) (ws : List Jvm.Cond) (A : Nat → Nat) (K : Nat → ClassId) (zr zc : Int32) (CA : Nat → Nat) (CK : Nat → ClassId) (CL : List (List Int32)) (u0 : own_S) (ru : own_S) (ui : Nat) (Lu : List Int32) (h0 : Heap) (n0 : Nat) (Z0 : n0 ≤ h0.size) (P0 : own_PS Z h0 n0 A K zr zc CA CK CL u0) (hF : own_add CL u0 ui = some ru) (hLu : CL[ui]? = some Lu) :
    MetFree l (⟨"com/example/document_pattern_rules/documentpatternrules/pattern/Pairing", "add", "([I)V"⟩ : MethodName) (head1 (Jvm.Cond.code (⟨"com/example/document_pattern_rules/documentpatternrules/pattern/Pairing", "add", "([I)V"⟩ : MethodName) prog_77_method_2_code 2 none :: ws) ({ frames := 0, cells := 0, slots := 0, locals := 0 } : Room)) (fun a U => a = #[(.ref (A 0)), (.ref (CA ui))] ∧ Z.Warmed39 U.vm ∧ U.heap = h0) (fun _ _ _ _ _ => True) (fun _ U o U' => ∃ v L, o = .returned v ∧ (own_QPv Z ru n0 A K zr zc CA CK CL) v U'.heap L ∧ FrameEnd U o U' L 0 0) := by
  refine MetFree.of_bodySF pn_rm_add hisR ?_
  intro p e s m args below meth c s₁ Bd hml0 hP hK
  obtain ⟨rfl, hZ, hh⟩ := hP
  have hx := Bd.exec
  have hby := Bd.bytes
  have hml : c.maxLocals = 2 := hml0
  have hown : s.vm.findClass "com/example/document_pattern_rules/documentpatternrules/pattern/Pairing" = some m.cls := findClass_of_methodNamed Bd.named
  have hnm := (name_of_methodNamed Bd.named Bd.method).1
  have hrt := Bd.returns
  have hlk := Bd.notSynchronized
  have X0 : Stand p l e ({ frames := 0, cells := 0, slots := 0, locals := 0 } : Room) s m #[(.ref (A 0)), (.ref (CA ui))] below meth c s₁ [] 0 0 := Stand.of_body Bd
  have e0 : s₁.heap = h0 := by rw [← hh, Bd.state]; rfl
  have N0 := Fr.nil n0
  unfold own_add at hF
  refine own_done (B := s₁.setTop (mkF m 0 #[VR (A 0), VR (CA ui)] [])) (fun t k => castTop (ef_rm_add m (A 0) (CA ui)) k) ?_
  refine own_by (B := s₁.setTop (mkF m 1 #[VR (A 0), VR (CA ui)] [(.ref (A 0))])) (fun _ k => XS.aloadN X0.here hx rfl (hb hby d6_0) rfl rfl  k) ?_
  obtain ⟨T1, X1, e1, st1⟩ := getF X0 hx hZ hown (host := "") (Or.inl (own_hw 19 hw rfl)) Via.refl e0 (own_PS_f1 P0) (g := (mkF m 1 #[VR (A 0), VR (CA ui)] [(.ref (A 0))])) rfl rfl (hb hby d6_1)
  refine own_by (B := T1.setTop (mkF m 4 #[VR (A 0), VR (CA ui)] [(.ref (A 1))])) st1 ?_
  refine own_by (B := T1.setTop (mkF m 5 #[VR (A 0), VR (CA ui)] [(.ref (A 0)), (.ref (A 1))])) (fun _ k => XS.aloadN X1.here hx rfl (hb hby d6_4) rfl rfl  k) ?_
  obtain ⟨T2, X2, e2, st2⟩ := getF X1 hx hZ hown (host := "") (Or.inl (own_hw 54 hw rfl)) Via.refl e1 (own_PS_fro P0) (g := (mkF m 5 #[VR (A 0), VR (CA ui)] [(.ref (A 0)), (.ref (A 1))])) rfl rfl (hb hby d6_5)
  refine own_by (B := T2.setTop (mkF m 8 #[VR (A 0), VR (CA ui)] [(.int (own_ro u0)), (.ref (A 1))])) st2 ?_
  refine own_by (B := T2.setTop (mkF m 9 #[VR (A 0), VR (CA ui)] [(.ref (CA ui)), (.int (own_ro u0)), (.ref (A 1))])) (fun _ k => XS.aloadN X2.here hx rfl (hb hby d6_8) rfl rfl  k) ?_
  obtain ⟨u3, hu3, hF⟩ := own_bind hF
  obtain ⟨zl3, hz3, hu3'⟩ := Option.map_eq_some_iff.mp hu3
  obtain ⟨T3, h3, X3, e3, W3, V3, st3⟩ := own_stF X2 hx hZ e2 (own_PS_v1 P0) ((own_PS_cc P0) _ _ hLu).2.1 hz3 (g := (mkF m 9 #[VR (A 0), VR (CA ui)] [(.ref (CA ui)), (.int (own_ro u0)), (.ref (A 1))])) rfl rfl (hb hby d6_9)
  have P3 : own_PS Z h3 n0 A K zr zc CA CK CL u3 := hu3' ▸ own_w_F P0 W3 V3
  have N3 := Fr.snoc X3 N0 (own_PS_gn P0).2.1
  refine own_by (B := T3.setTop (mkF m 10 #[VR (A 0), VR (CA ui)] [])) st3 ?_
  refine own_by (B := T3.setTop (mkF m 11 #[VR (A 0), VR (CA ui)] [(.ref (A 0))])) (fun _ k => XS.aloadN X3.here hx rfl (hb hby d6_10) rfl rfl  k) ?_
  obtain ⟨T4, X4, e4, st4⟩ := getF X3 hx hZ hown (host := "") (Or.inl (own_hw 21 hw rfl)) Via.refl e3 (own_PS_f2 P3) (g := (mkF m 11 #[VR (A 0), VR (CA ui)] [(.ref (A 0))])) rfl rfl (hb hby d6_11)
  refine own_by (B := T4.setTop (mkF m 14 #[VR (A 0), VR (CA ui)] [(.ref (A 2))])) st4 ?_
  refine own_by (B := T4.setTop (mkF m 15 #[VR (A 0), VR (CA ui)] [(.ref (A 0)), (.ref (A 2))])) (fun _ k => XS.aloadN X4.here hx rfl (hb hby d6_14) rfl rfl  k) ?_
  obtain ⟨T5, X5, e5, st5⟩ := getF X4 hx hZ hown (host := "") (Or.inl (own_hw 54 hw rfl)) Via.refl e4 (own_PS_fro P3) (g := (mkF m 15 #[VR (A 0), VR (CA ui)] [(.ref (A 0)), (.ref (A 2))])) rfl rfl (hb hby d6_15)
  refine own_by (B := T5.setTop (mkF m 18 #[VR (A 0), VR (CA ui)] [(.int (own_ro u3)), (.ref (A 2))])) st5 ?_
  refine own_by (B := T5.setTop (mkF m 19 #[VR (A 0), VR (CA ui)] [(.ref (A 0)), (.int (own_ro u3)), (.ref (A 2))])) (fun _ k => XS.aloadN X5.here hx rfl (hb hby d6_18) rfl rfl  k) ?_
  obtain ⟨T6, X6, e6, st6⟩ := getF X5 hx hZ hown (host := "") (Or.inl (own_hw 54 hw rfl)) Via.refl e5 (own_PS_fro P3) (g := (mkF m 19 #[VR (A 0), VR (CA ui)] [(.ref (A 0)), (.int (own_ro u3)), (.ref (A 2))])) rfl rfl (hb hby d6_19)
  refine own_by (B := T6.setTop (mkF m 22 #[VR (A 0), VR (CA ui)] [(.int (own_ro u3)), (.int (own_ro u3)), (.ref (A 2))])) st6 ?_
  obtain ⟨u7, hu7, hF⟩ := own_bind hF
  obtain ⟨zl7, hz7, hu7'⟩ := Option.map_eq_some_iff.mp hu7
  obtain ⟨T7, h7, X7, e7, W7, V7, st7⟩ := own_stI X6 hx hZ e6 (own_PS_v2 P3) hz7 (g := (mkF m 22 #[VR (A 0), VR (CA ui)] [(.int (own_ro u3)), (.int (own_ro u3)), (.ref (A 2))])) rfl rfl (hb hby d6_22)
  have P7 : own_PS Z h7 n0 A K zr zc CA CK CL u7 := hu7' ▸ own_w_ki P3 W7 V7
  have N7 := Fr.snoc X7 N3 (own_PS_gn P3).2.2.1
  refine own_by (B := T7.setTop (mkF m 23 #[VR (A 0), VR (CA ui)] [])) st7 ?_
  refine own_by (B := T7.setTop (mkF m 24 #[VR (A 0), VR (CA ui)] [(.ref (A 0))])) (fun _ k => XS.aloadN X7.here hx rfl (hb hby d6_23) rfl rfl  k) ?_
  obtain ⟨T8, X8, e8, st8⟩ := getF X7 hx hZ hown (host := "") (Or.inl (own_hw 23 hw rfl)) Via.refl e7 (own_PS_f3 P7) (g := (mkF m 24 #[VR (A 0), VR (CA ui)] [(.ref (A 0))])) rfl rfl (hb hby d6_24)
  refine own_by (B := T8.setTop (mkF m 27 #[VR (A 0), VR (CA ui)] [(.ref (A 3))])) st8 ?_
  refine own_by (B := T8.setTop (mkF m 28 #[VR (A 0), VR (CA ui)] [(.ref (A 0)), (.ref (A 3))])) (fun _ k => XS.aloadN X8.here hx rfl (hb hby d6_27) rfl rfl  k) ?_
  obtain ⟨T9, X9, e9, st9⟩ := getF X8 hx hZ hown (host := "") (Or.inl (own_hw 54 hw rfl)) Via.refl e8 (own_PS_fro P7) (g := (mkF m 28 #[VR (A 0), VR (CA ui)] [(.ref (A 0)), (.ref (A 3))])) rfl rfl (hb hby d6_28)
  refine own_by (B := T9.setTop (mkF m 31 #[VR (A 0), VR (CA ui)] [(.int (own_ro u7)), (.ref (A 3))])) st9 ?_
  refine own_by (B := T9.setTop (mkF m 32 #[VR (A 0), VR (CA ui)] [(.int (-1 : Int32)), (.int (own_ro u7)), (.ref (A 3))])) (fun _ k => XS.iconst X9.here hx rfl (hb hby d6_31) k) ?_
  obtain ⟨u10, hu10, hF⟩ := own_bind hF
  obtain ⟨zl10, hz10, hu10'⟩ := Option.map_eq_some_iff.mp hu10
  obtain ⟨T10, h10, X10, e10, W10, V10, st10⟩ := own_stI X9 hx hZ e9 (own_PS_v3 P7) hz10 (g := (mkF m 32 #[VR (A 0), VR (CA ui)] [(.int (-1 : Int32)), (.int (own_ro u7)), (.ref (A 3))])) rfl rfl (hb hby d6_32)
  have P10 : own_PS Z h10 n0 A K zr zc CA CK CL u10 := hu10' ▸ own_w_pa P7 W10 V10
  have N10 := Fr.snoc X10 N7 (own_PS_gn P7).2.2.2.1
  refine own_by (B := T10.setTop (mkF m 33 #[VR (A 0), VR (CA ui)] [])) st10 ?_
  refine own_by (B := T10.setTop (mkF m 34 #[VR (A 0), VR (CA ui)] [(.ref (A 0))])) (fun _ k => XS.aloadN X10.here hx rfl (hb hby d6_33) rfl rfl  k) ?_
  refine own_by (B := T10.setTop (mkF m 35 #[VR (A 0), VR (CA ui)] [(.ref (A 0)), (.ref (A 0))])) (fun _ k => XS.dup X10.here hx rfl (hb hby d6_34) rfl rfl k) ?_
  obtain ⟨T11, X11, e11, st11⟩ := getF X10 hx hZ hown (host := "") (Or.inl (own_hw 54 hw rfl)) Via.refl e10 (own_PS_fro P10) (g := (mkF m 35 #[VR (A 0), VR (CA ui)] [(.ref (A 0)), (.ref (A 0))])) rfl rfl (hb hby d6_35)
  refine own_by (B := T11.setTop (mkF m 38 #[VR (A 0), VR (CA ui)] [(.int (own_ro u10)), (.ref (A 0))])) st11 ?_
  refine own_by (B := T11.setTop (mkF m 39 #[VR (A 0), VR (CA ui)] [(.int 1), (.int (own_ro u10)), (.ref (A 0))])) (fun _ k => XS.iconst X11.here hx rfl (hb hby d6_38) k) ?_
  refine own_by (B := T11.setTop (mkF m 40 #[VR (A 0), VR (CA ui)] [(.int ((own_ro u10) + (1 : Int32))), (.ref (A 0))])) (fun _ k => XS.iadd X11.here hx rfl (hb hby d6_39) rfl k) ?_
  obtain ⟨u12, hu12, hF⟩ := own_bind hF
  obtain ⟨T12, h12, X12, e12, W12, st12⟩ := putF X11 hx hZ hown (host := "") (Or.inl (own_hw 54 hw rfl)) Via.refl e11 (own_PS_fro P10) (own_PS_E P10) (Or.inl (own_hw 55 hw rfl)) (own_hw 9 hw rfl) (ty := .int) (by decide) rfl rfl (g := (mkF m 40 #[VR (A 0), VR (CA ui)] [(.int ((own_ro u10) + (1 : Int32))), (.ref (A 0))])) rfl rfl (hb hby d6_40)
  have P12 : own_PS Z h12 n0 A K zr zc CA CK CL u12 := Option.some.inj hu12 ▸ own_w_ro P10 hw W12
  have N12 := Fr.snoc X12 N10 (own_PS_gn P10).1
  refine own_by (B := T12.setTop (mkF m 43 #[VR (A 0), VR (CA ui)] [])) st12 ?_
  obtain rfl := Option.some.inj hF
  exact own_retV X12 hx hrt hlk (hb hby d6_43) (by decide) (by decide) (by show own_QPv Z (u12) n0 A K zr zc CA CK CL _ T12.heap _; rw [e12]; exact ⟨rfl, N12, P12⟩)

def own_QFi (Z : State) (ua : Nat) (ka : ClassId) (h0 : Heap) (n0 : Nat) (v : Option Value) (h : Heap) (L : List Loc) : Prop := v = none ∧ Fr n0 L ∧ Keep h0 h [ua] ∧ Arv Z h ua ka .int 4 [(.int (-1 : Int32)), (.int (-1 : Int32)), (.int (-1 : Int32)), (.int (-1 : Int32))] (.int 0)

theorem d5_0 : decode jdk_65_method_103_code 0 = .ok (.iconst 0, 1) := by decide +kernel
theorem d5_1 : decode jdk_65_method_103_code 1 = .ok (.istore_n 2, 1) := by decide +kernel
theorem d5_2 : decode jdk_65_method_103_code 2 = .ok (.aload_n 0, 1) := by decide +kernel
theorem d5_3 : decode jdk_65_method_103_code 3 = .ok (.arraylength, 1) := by decide +kernel
theorem d5_4 : decode jdk_65_method_103_code 4 = .ok (.istore_n 3, 1) := by decide +kernel
theorem d5_5 : decode jdk_65_method_103_code 5 = .ok (.iload_n 2, 1) := by decide +kernel
theorem d5_6 : decode jdk_65_method_103_code 6 = .ok (.iload_n 3, 1) := by decide +kernel
theorem d5_7 : decode jdk_65_method_103_code 7 = .ok (.if_icmp .ge 13, 3) := by decide +kernel
theorem d5_10 : decode jdk_65_method_103_code 10 = .ok (.aload_n 0, 1) := by decide +kernel
theorem d5_11 : decode jdk_65_method_103_code 11 = .ok (.iload_n 2, 1) := by decide +kernel
theorem d5_12 : decode jdk_65_method_103_code 12 = .ok (.iload_n 1, 1) := by decide +kernel
theorem d5_13 : decode jdk_65_method_103_code 13 = .ok (.iastore, 1) := by decide +kernel
theorem d5_14 : decode jdk_65_method_103_code 14 = .ok (.iinc 2 1, 3) := by decide +kernel
theorem d5_17 : decode jdk_65_method_103_code 17 = .ok (.goto (-12), 3) := by decide +kernel
theorem d5_20 : decode jdk_65_method_103_code 20 = .ok (.return_, 1) := by decide +kernel
theorem pn_rmFill : plainFor (⟨"java/util/Arrays", "fill", "([II)V"⟩ : MethodName) = true := by first | exact plainFor_of_name (by first | (simp [plainName, overriddenIn]; done) | decide +kernel) | exact Jvm.Free.JP.mathPlain rfl (by decide +kernel) | decide +kernel
theorem ef_rmFill (m : MethodId) (x0 : Nat) (x1 : Int32) : entryFrame m #[(.ref x0), (.int x1)] 4 = mkF m 0 #[VR x0, VI x1, UU, UU] [] := by first | (simp [entryFrame, mkF, argsToLocals, Value.category]; done) | rfl
set_option maxRecDepth 65536 in
set_option maxHeartbeats 40000000 in
theorem rmFill (l : Launch) (Z : State) (a0 : Array Value) (hw : ∀ d ∈ tables_1, d.before a0 Z = true) (ws : List Jvm.Cond) (ua : Nat) (ka : ClassId) (h0 : Heap) (n0 : Nat) (Z0 : n0 ≤ h0.size) (O0 : Old Z n0 h0) (V_ua : Arv Z h0 ua ka .int 4 [(.int 0), (.int 0), (.int 0), (.int 0)] (.int 0)) (gn_ua : n0 ≤ ua) :
    MetFree l (⟨"java/util/Arrays", "fill", "([II)V"⟩ : MethodName) (head1 (Jvm.Cond.code (⟨"java/util/Arrays", "fill", "([II)V"⟩ : MethodName) jdk_65_method_103_code 4 none :: ws) ({ frames := 0, cells := 0, slots := 0, locals := 0 } : Room)) (fun a U => a = #[(.ref ua), (.int (-1 : Int32))] ∧ Z.Warmed39 U.vm ∧ U.heap = h0) (fun _ _ _ _ _ => True) (fun _ U o U' => ∃ v L, o = .returned v ∧ (own_QFi Z ua ka h0 n0) v U'.heap L ∧ FrameEnd U o U' L 0 0) := by
  refine MetFree.of_bodySF pn_rmFill hisR ?_
  intro p e s m args below meth c s₁ Bd hml0 hP hK
  obtain ⟨rfl, hZ, hh⟩ := hP
  have hx := Bd.exec
  have hby := Bd.bytes
  have hml : c.maxLocals = 4 := hml0
  have hown : s.vm.findClass "java/util/Arrays" = some m.cls := findClass_of_methodNamed Bd.named
  have hnm := (name_of_methodNamed Bd.named Bd.method).1
  have hrt := Bd.returns
  have hlk := Bd.notSynchronized
  have X0 : Stand p l e ({ frames := 0, cells := 0, slots := 0, locals := 0 } : Room) s m #[(.ref ua), (.int (-1 : Int32))] below meth c s₁ [] 0 0 := Stand.of_body Bd
  have e0 : s₁.heap = h0 := by rw [← hh, Bd.state]; rfl
  have N0 := Fr.nil n0
  have K0 := Keep.refl h0 [ua]
  refine own_done (B := s₁.setTop (mkF m 0 #[VR ua, VI (-1 : Int32), UU, UU] [])) (fun t k => castTop (ef_rmFill m ua (-1 : Int32)) k) ?_
  refine own_by (B := s₁.setTop (mkF m 1 #[VR ua, VI (-1 : Int32), UU, UU] [(.int 0)])) (fun _ k => XS.iconst X0.here hx rfl (hb hby d5_0) k) ?_
  refine own_by (B := s₁.setTop (mkF m 2 #[VR ua, VI (-1 : Int32), VI 0, UU] [])) (fun _ k => XS.istoreN X0.here hx rfl (hb hby d5_1) rfl (l' := #[VR ua, VI (-1 : Int32), VI 0, UU]) rfl k) ?_
  refine own_by (B := s₁.setTop (mkF m 3 #[VR ua, VI (-1 : Int32), VI 0, UU] [(.ref ua)])) (fun _ k => XS.aloadN X0.here hx rfl (hb hby d5_2) rfl rfl  k) ?_
  obtain ⟨cl1, Ar1, qq1, Sz1, Nn1, Hh1, Gg1⟩ := id (V_ua)
  refine own_by (B := s₁.setTop (mkF m 4 #[VR ua, VI (-1 : Int32), VI 0, UU] [(.int 4)])) (fun t k => X0.arraylength hx (by rw [e0]; exact Ar1.1) (State.isArrayOf_alike hZ.alike Ar1.2.1) (g := (mkF m 3 #[VR ua, VI (-1 : Int32), VI 0, UU] [(.ref ua)])) rfl rfl (hb hby d5_3) t (by rw [len_of Sz1 Nn1]; exact k)) ?_
  refine own_by (B := s₁.setTop (mkF m 5 #[VR ua, VI (-1 : Int32), VI 0, VI 4] [])) (fun _ k => XS.istoreN X0.here hx rfl (hb hby d5_4) rfl (l' := #[VR ua, VI (-1 : Int32), VI 0, VI 4]) rfl k) ?_
  refine own_by (B := s₁.setTop (mkF m 6 #[VR ua, VI (-1 : Int32), VI 0, VI 4] [(.int 0)])) (fun _ k => XS.iloadN X0.here hx rfl (hb hby d5_5) rfl  k) ?_
  refine own_by (B := s₁.setTop (mkF m 7 #[VR ua, VI (-1 : Int32), VI 0, VI 4] [(.int 4), (.int 0)])) (fun _ k => XS.iloadN X0.here hx rfl (hb hby d5_6) rfl  k) ?_
  refine own_by (B := s₁.setTop (mkF m 10 #[VR ua, VI (-1 : Int32), VI 0, VI 4] [])) (fun _ k => XS.icmpNo X0.here hx rfl (hb hby d5_7) rfl (XT.ii_ge_f (by decide)) k) ?_
  refine own_by (B := s₁.setTop (mkF m 11 #[VR ua, VI (-1 : Int32), VI 0, VI 4] [(.ref ua)])) (fun _ k => XS.aloadN X0.here hx rfl (hb hby d5_10) rfl rfl  k) ?_
  refine own_by (B := s₁.setTop (mkF m 12 #[VR ua, VI (-1 : Int32), VI 0, VI 4] [(.int 0), (.ref ua)])) (fun _ k => XS.iloadN X0.here hx rfl (hb hby d5_11) rfl  k) ?_
  refine own_by (B := s₁.setTop (mkF m 13 #[VR ua, VI (-1 : Int32), VI 0, VI 4] [(.int (-1 : Int32)), (.int 0), (.ref ua)])) (fun _ k => XS.iloadN X0.here hx rfl (hb hby d5_12) rfl  k) ?_
  obtain ⟨cl2, Ar2, qq2, Sz2, Nn2, Hh2, Gg2⟩ := id (V_ua)
  have hin2 : ¬ ((0 : Int32) < 0 ∨ cl2.slots.size ≤ ((0 : Int32)).toNatClampNeg) := inb_of Sz2 ⟨by decide, by decide⟩
  obtain ⟨T2, h2, X2, e2, W2, st2⟩ := stI X0 hx hZ e0 Ar2 (j := (0 : Int32)) hin2 (g := (mkF m 13 #[VR ua, VI (-1 : Int32), VI 0, VI 4] [(.int (-1 : Int32)), (.int 0), (.ref ua)])) rfl rfl (hb hby d5_13)
  have sz2 := W2.size
  have O2 := O0.wr W2 gn_ua
  have K2 := K0.wr W2 (Or.inl (List.mem_of_getElem? (i := 0) rfl))
  have N2 := Fr.snoc X2 N0 gn_ua
  have V2 : Arv Z h2 ua ka .int 4 [(.int (-1 : Int32)), (.int 0), (.int 0), (.int 0)] (.int 0) := Arv.set Ar2 qq2 Sz2 Nn2 Hh2 Gg2 rfl W2 0 rfl (Nat.le_of_ble_eq_true rfl)
  refine own_by (B := T2.setTop (mkF m 14 #[VR ua, VI (-1 : Int32), VI 0, VI 4] [])) st2 ?_
  refine own_by (B := T2.setTop (mkF m 17 #[VR ua, VI (-1 : Int32), VI 1, VI 4] [])) (fun _ k => XS.iinc X2.here hx rfl (hb hby d5_14) rfl (l' := #[VR ua, VI (-1 : Int32), VI 1, VI 4]) rfl k) ?_
  refine own_by (B := T2.setTop (mkF m 5 #[VR ua, VI (-1 : Int32), VI 1, VI 4] [])) (fun _ k => XS.goto X2.here hx rfl (pc0 := 17) (pc' := 5) rfl (hb hby d5_17) (by decide) (by decide) k) ?_
  refine own_by (B := T2.setTop (mkF m 6 #[VR ua, VI (-1 : Int32), VI 1, VI 4] [(.int 1)])) (fun _ k => XS.iloadN X2.here hx rfl (hb hby d5_5) rfl  k) ?_
  refine own_by (B := T2.setTop (mkF m 7 #[VR ua, VI (-1 : Int32), VI 1, VI 4] [(.int 4), (.int 1)])) (fun _ k => XS.iloadN X2.here hx rfl (hb hby d5_6) rfl  k) ?_
  refine own_by (B := T2.setTop (mkF m 10 #[VR ua, VI (-1 : Int32), VI 1, VI 4] [])) (fun _ k => XS.icmpNo X2.here hx rfl (hb hby d5_7) rfl (XT.ii_ge_f (by decide)) k) ?_
  refine own_by (B := T2.setTop (mkF m 11 #[VR ua, VI (-1 : Int32), VI 1, VI 4] [(.ref ua)])) (fun _ k => XS.aloadN X2.here hx rfl (hb hby d5_10) rfl rfl  k) ?_
  refine own_by (B := T2.setTop (mkF m 12 #[VR ua, VI (-1 : Int32), VI 1, VI 4] [(.int 1), (.ref ua)])) (fun _ k => XS.iloadN X2.here hx rfl (hb hby d5_11) rfl  k) ?_
  refine own_by (B := T2.setTop (mkF m 13 #[VR ua, VI (-1 : Int32), VI 1, VI 4] [(.int (-1 : Int32)), (.int 1), (.ref ua)])) (fun _ k => XS.iloadN X2.here hx rfl (hb hby d5_12) rfl  k) ?_
  obtain ⟨cl3, Ar3, qq3, Sz3, Nn3, Hh3, Gg3⟩ := id (V2)
  have hin3 : ¬ ((1 : Int32) < 0 ∨ cl3.slots.size ≤ ((1 : Int32)).toNatClampNeg) := inb_of Sz3 ⟨by decide, by decide⟩
  obtain ⟨T3, h3, X3, e3, W3, st3⟩ := stI X2 hx hZ e2 Ar3 (j := (1 : Int32)) hin3 (g := (mkF m 13 #[VR ua, VI (-1 : Int32), VI 1, VI 4] [(.int (-1 : Int32)), (.int 1), (.ref ua)])) rfl rfl (hb hby d5_13)
  have sz3 := W3.size
  have O3 := O2.wr W3 gn_ua
  have K3 := K2.wr W3 (Or.inl (List.mem_of_getElem? (i := 0) rfl))
  have N3 := Fr.snoc X3 N2 gn_ua
  have V3 : Arv Z h3 ua ka .int 4 [(.int (-1 : Int32)), (.int (-1 : Int32)), (.int 0), (.int 0)] (.int 0) := Arv.set Ar3 qq3 Sz3 Nn3 Hh3 Gg3 rfl W3 1 rfl (Nat.le_of_ble_eq_true rfl)
  refine own_by (B := T3.setTop (mkF m 14 #[VR ua, VI (-1 : Int32), VI 1, VI 4] [])) st3 ?_
  refine own_by (B := T3.setTop (mkF m 17 #[VR ua, VI (-1 : Int32), VI 2, VI 4] [])) (fun _ k => XS.iinc X3.here hx rfl (hb hby d5_14) rfl (l' := #[VR ua, VI (-1 : Int32), VI 2, VI 4]) rfl k) ?_
  refine own_by (B := T3.setTop (mkF m 5 #[VR ua, VI (-1 : Int32), VI 2, VI 4] [])) (fun _ k => XS.goto X3.here hx rfl (pc0 := 17) (pc' := 5) rfl (hb hby d5_17) (by decide) (by decide) k) ?_
  refine own_by (B := T3.setTop (mkF m 6 #[VR ua, VI (-1 : Int32), VI 2, VI 4] [(.int 2)])) (fun _ k => XS.iloadN X3.here hx rfl (hb hby d5_5) rfl  k) ?_
  refine own_by (B := T3.setTop (mkF m 7 #[VR ua, VI (-1 : Int32), VI 2, VI 4] [(.int 4), (.int 2)])) (fun _ k => XS.iloadN X3.here hx rfl (hb hby d5_6) rfl  k) ?_
  refine own_by (B := T3.setTop (mkF m 10 #[VR ua, VI (-1 : Int32), VI 2, VI 4] [])) (fun _ k => XS.icmpNo X3.here hx rfl (hb hby d5_7) rfl (XT.ii_ge_f (by decide)) k) ?_
  refine own_by (B := T3.setTop (mkF m 11 #[VR ua, VI (-1 : Int32), VI 2, VI 4] [(.ref ua)])) (fun _ k => XS.aloadN X3.here hx rfl (hb hby d5_10) rfl rfl  k) ?_
  refine own_by (B := T3.setTop (mkF m 12 #[VR ua, VI (-1 : Int32), VI 2, VI 4] [(.int 2), (.ref ua)])) (fun _ k => XS.iloadN X3.here hx rfl (hb hby d5_11) rfl  k) ?_
  refine own_by (B := T3.setTop (mkF m 13 #[VR ua, VI (-1 : Int32), VI 2, VI 4] [(.int (-1 : Int32)), (.int 2), (.ref ua)])) (fun _ k => XS.iloadN X3.here hx rfl (hb hby d5_12) rfl  k) ?_
  obtain ⟨cl4, Ar4, qq4, Sz4, Nn4, Hh4, Gg4⟩ := id (V3)
  have hin4 : ¬ ((2 : Int32) < 0 ∨ cl4.slots.size ≤ ((2 : Int32)).toNatClampNeg) := inb_of Sz4 ⟨by decide, by decide⟩
  obtain ⟨T4, h4, X4, e4, W4, st4⟩ := stI X3 hx hZ e3 Ar4 (j := (2 : Int32)) hin4 (g := (mkF m 13 #[VR ua, VI (-1 : Int32), VI 2, VI 4] [(.int (-1 : Int32)), (.int 2), (.ref ua)])) rfl rfl (hb hby d5_13)
  have sz4 := W4.size
  have O4 := O3.wr W4 gn_ua
  have K4 := K3.wr W4 (Or.inl (List.mem_of_getElem? (i := 0) rfl))
  have N4 := Fr.snoc X4 N3 gn_ua
  have V4 : Arv Z h4 ua ka .int 4 [(.int (-1 : Int32)), (.int (-1 : Int32)), (.int (-1 : Int32)), (.int 0)] (.int 0) := Arv.set Ar4 qq4 Sz4 Nn4 Hh4 Gg4 rfl W4 2 rfl (Nat.le_of_ble_eq_true rfl)
  refine own_by (B := T4.setTop (mkF m 14 #[VR ua, VI (-1 : Int32), VI 2, VI 4] [])) st4 ?_
  refine own_by (B := T4.setTop (mkF m 17 #[VR ua, VI (-1 : Int32), VI 3, VI 4] [])) (fun _ k => XS.iinc X4.here hx rfl (hb hby d5_14) rfl (l' := #[VR ua, VI (-1 : Int32), VI 3, VI 4]) rfl k) ?_
  refine own_by (B := T4.setTop (mkF m 5 #[VR ua, VI (-1 : Int32), VI 3, VI 4] [])) (fun _ k => XS.goto X4.here hx rfl (pc0 := 17) (pc' := 5) rfl (hb hby d5_17) (by decide) (by decide) k) ?_
  refine own_by (B := T4.setTop (mkF m 6 #[VR ua, VI (-1 : Int32), VI 3, VI 4] [(.int 3)])) (fun _ k => XS.iloadN X4.here hx rfl (hb hby d5_5) rfl  k) ?_
  refine own_by (B := T4.setTop (mkF m 7 #[VR ua, VI (-1 : Int32), VI 3, VI 4] [(.int 4), (.int 3)])) (fun _ k => XS.iloadN X4.here hx rfl (hb hby d5_6) rfl  k) ?_
  refine own_by (B := T4.setTop (mkF m 10 #[VR ua, VI (-1 : Int32), VI 3, VI 4] [])) (fun _ k => XS.icmpNo X4.here hx rfl (hb hby d5_7) rfl (XT.ii_ge_f (by decide)) k) ?_
  refine own_by (B := T4.setTop (mkF m 11 #[VR ua, VI (-1 : Int32), VI 3, VI 4] [(.ref ua)])) (fun _ k => XS.aloadN X4.here hx rfl (hb hby d5_10) rfl rfl  k) ?_
  refine own_by (B := T4.setTop (mkF m 12 #[VR ua, VI (-1 : Int32), VI 3, VI 4] [(.int 3), (.ref ua)])) (fun _ k => XS.iloadN X4.here hx rfl (hb hby d5_11) rfl  k) ?_
  refine own_by (B := T4.setTop (mkF m 13 #[VR ua, VI (-1 : Int32), VI 3, VI 4] [(.int (-1 : Int32)), (.int 3), (.ref ua)])) (fun _ k => XS.iloadN X4.here hx rfl (hb hby d5_12) rfl  k) ?_
  obtain ⟨cl5, Ar5, qq5, Sz5, Nn5, Hh5, Gg5⟩ := id (V4)
  have hin5 : ¬ ((3 : Int32) < 0 ∨ cl5.slots.size ≤ ((3 : Int32)).toNatClampNeg) := inb_of Sz5 ⟨by decide, by decide⟩
  obtain ⟨T5, h5, X5, e5, W5, st5⟩ := stI X4 hx hZ e4 Ar5 (j := (3 : Int32)) hin5 (g := (mkF m 13 #[VR ua, VI (-1 : Int32), VI 3, VI 4] [(.int (-1 : Int32)), (.int 3), (.ref ua)])) rfl rfl (hb hby d5_13)
  have sz5 := W5.size
  have O5 := O4.wr W5 gn_ua
  have K5 := K4.wr W5 (Or.inl (List.mem_of_getElem? (i := 0) rfl))
  have N5 := Fr.snoc X5 N4 gn_ua
  have V5 : Arv Z h5 ua ka .int 4 [(.int (-1 : Int32)), (.int (-1 : Int32)), (.int (-1 : Int32)), (.int (-1 : Int32))] (.int 0) := Arv.set Ar5 qq5 Sz5 Nn5 Hh5 Gg5 rfl W5 3 rfl (Nat.le_of_ble_eq_true rfl)
  refine own_by (B := T5.setTop (mkF m 14 #[VR ua, VI (-1 : Int32), VI 3, VI 4] [])) st5 ?_
  refine own_by (B := T5.setTop (mkF m 17 #[VR ua, VI (-1 : Int32), VI 4, VI 4] [])) (fun _ k => XS.iinc X5.here hx rfl (hb hby d5_14) rfl (l' := #[VR ua, VI (-1 : Int32), VI 4, VI 4]) rfl k) ?_
  refine own_by (B := T5.setTop (mkF m 5 #[VR ua, VI (-1 : Int32), VI 4, VI 4] [])) (fun _ k => XS.goto X5.here hx rfl (pc0 := 17) (pc' := 5) rfl (hb hby d5_17) (by decide) (by decide) k) ?_
  refine own_by (B := T5.setTop (mkF m 6 #[VR ua, VI (-1 : Int32), VI 4, VI 4] [(.int 4)])) (fun _ k => XS.iloadN X5.here hx rfl (hb hby d5_5) rfl  k) ?_
  refine own_by (B := T5.setTop (mkF m 7 #[VR ua, VI (-1 : Int32), VI 4, VI 4] [(.int 4), (.int 4)])) (fun _ k => XS.iloadN X5.here hx rfl (hb hby d5_6) rfl  k) ?_
  refine own_by (B := T5.setTop (mkF m 20 #[VR ua, VI (-1 : Int32), VI 4, VI 4] [])) (fun _ k => XS.icmpYes X5.here hx rfl (pc0 := 7) (pc' := 20) rfl (hb hby d5_7) rfl (XT.ii_ge_t (by decide)) (by decide) (by decide) k) ?_
  exact own_retV X5 hx hrt hlk (hb hby d5_20) (by decide) (by decide) (by show own_QFi Z ua ka h0 n0 _ T5.heap _; rw [e5]; exact ⟨rfl, N5, K5, V5⟩)

def own_u0 : own_S := (List.replicate 3 none, List.replicate 3 (0 : Int32), List.replicate 3 (0 : Int32), List.replicate 4 (-1 : Int32), List.replicate 3 (0 : Int32), List.replicate 4 (0 : Int64), List.replicate 3 (0 : Int32), List.replicate 3 (0 : Int32), List.replicate 3 (0 : Int32), List.replicate 3 (0 : Int64), List.replicate 3 (0 : Int32), List.replicate 3 (0 : Int32), (0 : Int64), (0 : Int32))
def own_lst (L : List Nat) (i : Nat) : Nat := L.getD i 0
def own_QCt (Z : State) (ua : Nat) (CA : Nat → Nat) (CK : Nat → ClassId) (CL : List (List Int32)) (n0 : Nat) (v : Option Value) (h : Heap) (L : List Loc) : Prop := ∃ (A : Nat → Nat) (K : Nat → ClassId), v = none ∧ Fr n0 L ∧ A 0 = ua ∧ own_PS Z h n0 A K (3 : Int32) (4 : Int32) CA CK CL own_u0

theorem d3_0 : decode prog_77_method_1_code 0 = .ok (.aload_n 0, 1) := by decide +kernel
theorem d3_1 : decode prog_77_method_1_code 1 = .ok (.invokespecial 1, 3) := by decide +kernel
theorem d3_4 : decode prog_77_method_1_code 4 = .ok (.aload_n 0, 1) := by decide +kernel
theorem d3_5 : decode prog_77_method_1_code 5 = .ok (.iload_n 1, 1) := by decide +kernel
theorem d3_6 : decode prog_77_method_1_code 6 = .ok (.anewarray 7, 3) := by decide +kernel
theorem d3_9 : decode prog_77_method_1_code 9 = .ok (.putfield 9, 3) := by decide +kernel
theorem d3_12 : decode prog_77_method_1_code 12 = .ok (.aload_n 0, 1) := by decide +kernel
theorem d3_13 : decode prog_77_method_1_code 13 = .ok (.iload_n 1, 1) := by decide +kernel
theorem d3_14 : decode prog_77_method_1_code 14 = .ok (.newarray .int, 2) := by decide +kernel
theorem d3_16 : decode prog_77_method_1_code 16 = .ok (.putfield 15, 3) := by decide +kernel
theorem d3_19 : decode prog_77_method_1_code 19 = .ok (.aload_n 0, 1) := by decide +kernel
theorem d3_20 : decode prog_77_method_1_code 20 = .ok (.iload_n 1, 1) := by decide +kernel
theorem d3_21 : decode prog_77_method_1_code 21 = .ok (.newarray .int, 2) := by decide +kernel
theorem d3_23 : decode prog_77_method_1_code 23 = .ok (.putfield 18, 3) := by decide +kernel
theorem d3_26 : decode prog_77_method_1_code 26 = .ok (.aload_n 0, 1) := by decide +kernel
theorem d3_27 : decode prog_77_method_1_code 27 = .ok (.iload_n 2, 1) := by decide +kernel
theorem d3_28 : decode prog_77_method_1_code 28 = .ok (.newarray .int, 2) := by decide +kernel
theorem d3_30 : decode prog_77_method_1_code 30 = .ok (.putfield 21, 3) := by decide +kernel
theorem d3_33 : decode prog_77_method_1_code 33 = .ok (.aload_n 0, 1) := by decide +kernel
theorem d3_34 : decode prog_77_method_1_code 34 = .ok (.iload_n 1, 1) := by decide +kernel
theorem d3_35 : decode prog_77_method_1_code 35 = .ok (.newarray .boolean, 2) := by decide +kernel
theorem d3_37 : decode prog_77_method_1_code 37 = .ok (.putfield 24, 3) := by decide +kernel
theorem d3_40 : decode prog_77_method_1_code 40 = .ok (.aload_n 0, 1) := by decide +kernel
theorem d3_41 : decode prog_77_method_1_code 41 = .ok (.iload_n 2, 1) := by decide +kernel
theorem d3_42 : decode prog_77_method_1_code 42 = .ok (.newarray .long, 2) := by decide +kernel
theorem d3_44 : decode prog_77_method_1_code 44 = .ok (.putfield 28, 3) := by decide +kernel
theorem d3_47 : decode prog_77_method_1_code 47 = .ok (.aload_n 0, 1) := by decide +kernel
theorem d3_48 : decode prog_77_method_1_code 48 = .ok (.iload_n 1, 1) := by decide +kernel
theorem d3_49 : decode prog_77_method_1_code 49 = .ok (.newarray .int, 2) := by decide +kernel
theorem d3_51 : decode prog_77_method_1_code 51 = .ok (.putfield 32, 3) := by decide +kernel
theorem d3_54 : decode prog_77_method_1_code 54 = .ok (.aload_n 0, 1) := by decide +kernel
theorem d3_55 : decode prog_77_method_1_code 55 = .ok (.iload_n 1, 1) := by decide +kernel
theorem d3_56 : decode prog_77_method_1_code 56 = .ok (.newarray .int, 2) := by decide +kernel
theorem d3_58 : decode prog_77_method_1_code 58 = .ok (.putfield 35, 3) := by decide +kernel
theorem d3_61 : decode prog_77_method_1_code 61 = .ok (.aload_n 0, 1) := by decide +kernel
theorem d3_62 : decode prog_77_method_1_code 62 = .ok (.iload_n 1, 1) := by decide +kernel
theorem d3_63 : decode prog_77_method_1_code 63 = .ok (.newarray .int, 2) := by decide +kernel
theorem d3_65 : decode prog_77_method_1_code 65 = .ok (.putfield 38, 3) := by decide +kernel
theorem d3_68 : decode prog_77_method_1_code 68 = .ok (.aload_n 0, 1) := by decide +kernel
theorem d3_69 : decode prog_77_method_1_code 69 = .ok (.iload_n 1, 1) := by decide +kernel
theorem d3_70 : decode prog_77_method_1_code 70 = .ok (.newarray .long, 2) := by decide +kernel
theorem d3_72 : decode prog_77_method_1_code 72 = .ok (.putfield 41, 3) := by decide +kernel
theorem d3_75 : decode prog_77_method_1_code 75 = .ok (.aload_n 0, 1) := by decide +kernel
theorem d3_76 : decode prog_77_method_1_code 76 = .ok (.iload_n 1, 1) := by decide +kernel
theorem d3_77 : decode prog_77_method_1_code 77 = .ok (.newarray .int, 2) := by decide +kernel
theorem d3_79 : decode prog_77_method_1_code 79 = .ok (.putfield 44, 3) := by decide +kernel
theorem d3_82 : decode prog_77_method_1_code 82 = .ok (.aload_n 0, 1) := by decide +kernel
theorem d3_83 : decode prog_77_method_1_code 83 = .ok (.iload_n 1, 1) := by decide +kernel
theorem d3_84 : decode prog_77_method_1_code 84 = .ok (.newarray .int, 2) := by decide +kernel
theorem d3_86 : decode prog_77_method_1_code 86 = .ok (.putfield 47, 3) := by decide +kernel
theorem d3_89 : decode prog_77_method_1_code 89 = .ok (.aload_n 0, 1) := by decide +kernel
theorem d3_90 : decode prog_77_method_1_code 90 = .ok (.getfield 21, 3) := by decide +kernel
theorem d3_93 : decode prog_77_method_1_code 93 = .ok (.iconst (-1), 1) := by decide +kernel
theorem d3_94 : decode prog_77_method_1_code 94 = .ok (.invokestatic 50, 3) := by decide +kernel
theorem d3_97 : decode prog_77_method_1_code 97 = .ok (.return_, 1) := by decide +kernel
theorem pd_3___II_V : parseMethodDescriptor "([II)V" = some ⟨[(.array .int), .int], none⟩ := by decide +kernel
theorem pn_rmCt : plainFor (⟨"com/example/document_pattern_rules/documentpatternrules/pattern/Pairing", "<init>", "(II)V"⟩ : MethodName) = true := by first | exact plainFor_of_name (by first | (simp [plainName, overriddenIn]; done) | decide +kernel) | exact Jvm.Free.JP.mathPlain rfl (by decide +kernel) | decide +kernel
theorem ef_rmCt (m : MethodId) (x0 : Nat) (x1 : Int32) (x2 : Int32) : entryFrame m #[(.ref x0), (.int x1), (.int x2)] 3 = mkF m 0 #[VR x0, VI x1, VI x2] [] := by first | (simp [entryFrame, mkF, argsToLocals, Value.category]; done) | rfl
set_option maxRecDepth 65536 in
set_option maxHeartbeats 40000000 in
theorem rmCt (l : Launch) (Z : State) (a0 : Array Value) (hw : ∀ d ∈ tables_1, d.before a0 Z = true) (ws : List Jvm.Cond) (ua : Nat) (CA : Nat → Nat) (CK : Nat → ClassId) (CL : List (List Int32)) (h0 : Heap) (n0 : Nat) (Z0 : n0 ≤ h0.size) (O0 : Old Z n0 h0) (E_ua : Exa Z h0 ua "com/example/document_pattern_rules/documentpatternrules/pattern/Pairing") (F_fits : Fld Z h0 ua "com/example/document_pattern_rules/documentpatternrules/pattern/Pairing" "fits" "[[I" .null) (F_kind : Fld Z h0 ua "com/example/document_pattern_rules/documentpatternrules/pattern/Pairing" "kind" "[I" .null) (F_partner : Fld Z h0 ua "com/example/document_pattern_rules/documentpatternrules/pattern/Pairing" "partner" "[I" .null) (F_holder : Fld Z h0 ua "com/example/document_pattern_rules/documentpatternrules/pattern/Pairing" "holder" "[I" .null) (F_fixed : Fld Z h0 ua "com/example/document_pattern_rules/documentpatternrules/pattern/Pairing" "fixed" "[Z" .null) (F_visited : Fld Z h0 ua "com/example/document_pattern_rules/documentpatternrules/pattern/Pairing" "visited" "[J" .null) (F_path : Fld Z h0 ua "com/example/document_pattern_rules/documentpatternrules/pattern/Pairing" "path" "[I" .null) (F_via : Fld Z h0 ua "com/example/document_pattern_rules/documentpatternrules/pattern/Pairing" "via" "[I" .null) (F_ownFrom : Fld Z h0 ua "com/example/document_pattern_rules/documentpatternrules/pattern/Pairing" "ownFrom" "[I" .null) (F_scanned : Fld Z h0 ua "com/example/document_pattern_rules/documentpatternrules/pattern/Pairing" "scanned" "[J" .null) (F_next : Fld Z h0 ua "com/example/document_pattern_rules/documentpatternrules/pattern/Pairing" "next" "[I" .null) (F_fixedFrom : Fld Z h0 ua "com/example/document_pattern_rules/documentpatternrules/pattern/Pairing" "fixedFrom" "[I" .null) (F_searches : Fld Z h0 ua "com/example/document_pattern_rules/documentpatternrules/pattern/Pairing" "searches" "J" (.long (0 : Int64))) (F_rows : Fld Z h0 ua "com/example/document_pattern_rules/documentpatternrules/pattern/Pairing" "rows" "I" (.int 0)) (gn_ua : n0 ≤ ua) (cc : ∀ i L, CL[i]? = some L → own_IA Z h0 (CA i) (CK i) .int (Int32.ofNat L.length) L ∧ Exa Z h0 (CA i) "[I" ∧ CA i < ua) :
    MetFree l (⟨"com/example/document_pattern_rules/documentpatternrules/pattern/Pairing", "<init>", "(II)V"⟩ : MethodName) (head1 (Jvm.Cond.code (⟨"com/example/document_pattern_rules/documentpatternrules/pattern/Pairing", "<init>", "(II)V"⟩ : MethodName) prog_77_method_1_code 3 none :: ws) ({ frames := 1, cells := 12, slots := 38, locals := 15 } : Room)) (fun a U => a = #[(.ref ua), (.int 3), (.int 4)] ∧ Z.Warmed39 U.vm ∧ U.heap = h0) (fun _ _ _ _ _ => True) (fun _ U o U' => ∃ v L, o = .returned v ∧ (own_QCt Z ua CA CK CL n0) v U'.heap L ∧ FrameEnd U o U' L 12 38) := by
  refine MetFree.of_bodySF pn_rmCt hisR ?_
  intro p e s m args below meth c s₁ Bd hml0 hP hK
  obtain ⟨rfl, hZ, hh⟩ := hP
  have hx := Bd.exec
  have hby := Bd.bytes
  have hml : c.maxLocals = 3 := hml0
  have hown : s.vm.findClass "com/example/document_pattern_rules/documentpatternrules/pattern/Pairing" = some m.cls := findClass_of_methodNamed Bd.named
  have hnm := (name_of_methodNamed Bd.named Bd.method).1
  have hrt := Bd.returns
  have hlk := Bd.notSynchronized
  have X0 : Stand p l e ({ frames := 1, cells := 12, slots := 38, locals := 15 } : Room) s m #[(.ref ua), (.int 3), (.int 4)] below meth c s₁ [] 0 0 := Stand.of_body Bd
  have e0 : s₁.heap = h0 := by rw [← hh, Bd.state]; rfl
  have N0 := Fr.nil n0
  have K0 := Keep.refl h0 [ua]
  have lt_ua := own_lt E_ua.lt
  refine own_done (B := s₁.setTop (mkF m 0 #[VR ua, VI 3, VI 4] [])) (fun t k => castTop (ef_rmCt m ua (3 : Int32) (4 : Int32)) k) ?_
  refine own_by (B := s₁.setTop (mkF m 1 #[VR ua, VI 3, VI 4] [(.ref ua)])) (fun _ k => XS.aloadN X0.here hx rfl (hb hby d3_0) rfl rfl  k) ?_
  obtain ⟨T1, X1, e1, st1⟩ := initO X0 hx hZ hown (own_hw 14 hw rfl) (own_hw 15 hw rfl) (own_hw 16 hw rfl) e0 (g := (mkF m 1 #[VR ua, VI 3, VI 4] [(.ref ua)])) rfl (by rw [hml]; rfl) rfl (hb hby d3_1) (by decide) (W := 0) (by show 2 * 0 + _ ≤ _; exact Nat.le_of_eq rfl) (by decide)
  refine own_by (B := T1.setTop (mkF m 4 #[VR ua, VI 3, VI 4] [])) st1 ?_
  refine own_by (B := T1.setTop (mkF m 5 #[VR ua, VI 3, VI 4] [(.ref ua)])) (fun _ k => XS.aloadN X1.here hx rfl (hb hby d3_4) rfl rfl  k) ?_
  refine own_by (B := T1.setTop (mkF m 6 #[VR ua, VI 3, VI 4] [(.int 3), (.ref ua)])) (fun _ k => XS.iloadN X1.here hx rfl (hb hby d3_5) rfl  k) ?_
  obtain ⟨T2, h2, ka2, X2, e2, E2, A2, EA2, Ov2, st2⟩ := newRA X1 hx hZ hown (ty := .int) (C := "[I") (by decide) (own_hw 17 hw rfl) (own_hw 18 hw rfl) e1 (g := (mkF m 6 #[VR ua, VI 3, VI 4] [(.int 3), (.ref ua)])) rfl (hb hby d3_6) rfl (by decide) (cap := 3) (by decide) (by decide) (by decide) (by decide) (ad := "[[I") (by decide)
  obtain ⟨b2, g2⟩ : ∃ z, z = h0.size := ⟨_, rfl⟩
  rw [← g2] at A2 EA2 st2
  have sz2 := E2.1
  have gn2 : n0 ≤ b2 := g2 ▸ own_old_le O0
  have fz2 : h0.size ≤ b2 := g2 ▸ K0.1
  have lt2 := own_lt A2.lt
  have O2 := O0.ext E2
  have K2 := K0.ext E2
  have V2 : Arv Z h2 b2 ka2 (.array .int) (3 : Int32) [.null, .null, .null] .null := (Arv.new A2 (by decide)).pad (pad_rep [] .null 3)
  refine own_by (B := T2.setTop (mkF m 9 #[VR ua, VI 3, VI 4] [(.ref b2), (.ref ua)])) st2 ?_
  have c4 := (E_ua.ext E2)
  have c5 := (F_fits.ext E2)
  obtain ⟨T3, h3, X3, e3, W3, st3⟩ := putF X2 hx hZ hown (host := "") (Or.inl (own_hw 19 hw rfl)) Via.refl e2 c5 c4 (Or.inr ⟨(own_hw 20 hw rfl), rfl, hnm⟩) (own_hw 9 hw rfl) (ty := (.array (.array .int))) (by decide) rfl rfl (g := (mkF m 9 #[VR ua, VI 3, VI 4] [(.ref b2), (.ref ua)])) rfl rfl (hb hby d3_9)
  have sz3 := W3.size
  have O3 := O2.wr W3 gn_ua
  have K3 := K2.wr W3 (Or.inl (List.mem_of_getElem? (i := 0) rfl))
  have N3 := Fr.snoc X3 N0 gn_ua
  have F3 := c5.same W3
  refine own_by (B := T3.setTop (mkF m 12 #[VR ua, VI 3, VI 4] [])) st3 ?_
  refine own_by (B := T3.setTop (mkF m 13 #[VR ua, VI 3, VI 4] [(.ref ua)])) (fun _ k => XS.aloadN X3.here hx rfl (hb hby d3_12) rfl rfl  k) ?_
  refine own_by (B := T3.setTop (mkF m 14 #[VR ua, VI 3, VI 4] [(.int 3), (.ref ua)])) (fun _ k => XS.iloadN X3.here hx rfl (hb hby d3_13) rfl  k) ?_
  obtain ⟨T6, h6, ka6, X6, e6, E6, A6, EA6, st6⟩ := newPE X3 hx hZ (own_hw 7 hw rfl) e3 (g := (mkF m 14 #[VR ua, VI 3, VI 4] [(.int 3), (.ref ua)])) rfl (hb hby d3_14) rfl (by decide) (cap := 3) (by decide) (by decide) (by decide) (by decide) (ad := "[I") (by decide)
  obtain ⟨b6, g6⟩ : ∃ z, z = h3.size := ⟨_, rfl⟩
  rw [← g6] at A6 EA6 st6
  have sz6 := E6.1
  have gn6 : n0 ≤ b6 := g6 ▸ own_old_le O3
  have fz6 : h0.size ≤ b6 := g6 ▸ K3.1
  have lt6 := own_lt A6.lt
  have O6 := O3.ext E6
  have K6 := K3.ext E6
  have V6 : Arv Z h6 b6 ka6 .int 3 [(.int 0), (.int 0), (.int 0)] (.int 0) := (Arv.new A6 (by decide)).pad (pad_rep [] (.int 0) 3)
  refine own_by (B := T6.setTop (mkF m 16 #[VR ua, VI 3, VI 4] [(.ref b6), (.ref ua)])) st6 ?_
  have c8 := ((c4.wr W3).ext E6)
  have c9 := (((F_kind.ext E2).other W3 (Or.inr (slot_ne (Or.inr (own_hw 22 hw rfl)) (Or.inr (own_hw 20 hw rfl)) (by decide) (t := (.array .int)) (t' := (.array (.array .int))) (by decide) (by decide)))).ext E6)
  obtain ⟨T7, h7, X7, e7, W7, st7⟩ := putF X6 hx hZ hown (host := "") (Or.inl (own_hw 21 hw rfl)) Via.refl e6 c9 c8 (Or.inr ⟨(own_hw 22 hw rfl), rfl, hnm⟩) (own_hw 9 hw rfl) (ty := (.array .int)) (by decide) rfl rfl (g := (mkF m 16 #[VR ua, VI 3, VI 4] [(.ref b6), (.ref ua)])) rfl rfl (hb hby d3_16)
  have sz7 := W7.size
  have O7 := O6.wr W7 gn_ua
  have K7 := K6.wr W7 (Or.inl (List.mem_of_getElem? (i := 0) rfl))
  have N7 := Fr.snoc X7 N3 gn_ua
  have F7 := c9.same W7
  refine own_by (B := T7.setTop (mkF m 19 #[VR ua, VI 3, VI 4] [])) st7 ?_
  refine own_by (B := T7.setTop (mkF m 20 #[VR ua, VI 3, VI 4] [(.ref ua)])) (fun _ k => XS.aloadN X7.here hx rfl (hb hby d3_19) rfl rfl  k) ?_
  refine own_by (B := T7.setTop (mkF m 21 #[VR ua, VI 3, VI 4] [(.int 3), (.ref ua)])) (fun _ k => XS.iloadN X7.here hx rfl (hb hby d3_20) rfl  k) ?_
  obtain ⟨T10, h10, ka10, X10, e10, E10, A10, EA10, st10⟩ := newPE X7 hx hZ (own_hw 7 hw rfl) e7 (g := (mkF m 21 #[VR ua, VI 3, VI 4] [(.int 3), (.ref ua)])) rfl (hb hby d3_21) rfl (by decide) (cap := 3) (by decide) (by decide) (by decide) (by decide) (ad := "[I") (by decide)
  obtain ⟨b10, g10⟩ : ∃ z, z = h7.size := ⟨_, rfl⟩
  rw [← g10] at A10 EA10 st10
  have sz10 := E10.1
  have gn10 : n0 ≤ b10 := g10 ▸ own_old_le O7
  have fz10 : h0.size ≤ b10 := g10 ▸ K7.1
  have lt10 := own_lt A10.lt
  have O10 := O7.ext E10
  have K10 := K7.ext E10
  have V10 : Arv Z h10 b10 ka10 .int 3 [(.int 0), (.int 0), (.int 0)] (.int 0) := (Arv.new A10 (by decide)).pad (pad_rep [] (.int 0) 3)
  refine own_by (B := T10.setTop (mkF m 23 #[VR ua, VI 3, VI 4] [(.ref b10), (.ref ua)])) st10 ?_
  have c12 := ((c8.wr W7).ext E10)
  have c13 := (((((F_partner.ext E2).other W3 (Or.inr (slot_ne (Or.inr (own_hw 24 hw rfl)) (Or.inr (own_hw 20 hw rfl)) (by decide) (t := (.array .int)) (t' := (.array (.array .int))) (by decide) (by decide)))).ext E6).other W7 (Or.inr (slot_ne (Or.inr (own_hw 24 hw rfl)) (Or.inr (own_hw 22 hw rfl)) (by decide) (t := (.array .int)) (t' := (.array .int)) (by decide) (by decide)))).ext E10)
  obtain ⟨T11, h11, X11, e11, W11, st11⟩ := putF X10 hx hZ hown (host := "") (Or.inl (own_hw 23 hw rfl)) Via.refl e10 c13 c12 (Or.inr ⟨(own_hw 24 hw rfl), rfl, hnm⟩) (own_hw 9 hw rfl) (ty := (.array .int)) (by decide) rfl rfl (g := (mkF m 23 #[VR ua, VI 3, VI 4] [(.ref b10), (.ref ua)])) rfl rfl (hb hby d3_23)
  have sz11 := W11.size
  have O11 := O10.wr W11 gn_ua
  have K11 := K10.wr W11 (Or.inl (List.mem_of_getElem? (i := 0) rfl))
  have N11 := Fr.snoc X11 N7 gn_ua
  have F11 := c13.same W11
  refine own_by (B := T11.setTop (mkF m 26 #[VR ua, VI 3, VI 4] [])) st11 ?_
  refine own_by (B := T11.setTop (mkF m 27 #[VR ua, VI 3, VI 4] [(.ref ua)])) (fun _ k => XS.aloadN X11.here hx rfl (hb hby d3_26) rfl rfl  k) ?_
  refine own_by (B := T11.setTop (mkF m 28 #[VR ua, VI 3, VI 4] [(.int 4), (.ref ua)])) (fun _ k => XS.iloadN X11.here hx rfl (hb hby d3_27) rfl  k) ?_
  obtain ⟨T14, h14, ka14, X14, e14, E14, A14, EA14, st14⟩ := newPE X11 hx hZ (own_hw 7 hw rfl) e11 (g := (mkF m 28 #[VR ua, VI 3, VI 4] [(.int 4), (.ref ua)])) rfl (hb hby d3_28) rfl (by decide) (cap := 4) (by decide) (by decide) (by decide) (by decide) (ad := "[I") (by decide)
  obtain ⟨b14, g14⟩ : ∃ z, z = h11.size := ⟨_, rfl⟩
  rw [← g14] at A14 EA14 st14
  have sz14 := E14.1
  have gn14 : n0 ≤ b14 := g14 ▸ own_old_le O11
  have fz14 : h0.size ≤ b14 := g14 ▸ K11.1
  have lt14 := own_lt A14.lt
  have O14 := O11.ext E14
  have K14 := K11.ext E14
  have V14 : Arv Z h14 b14 ka14 .int 4 [(.int 0), (.int 0), (.int 0), (.int 0)] (.int 0) := (Arv.new A14 (by decide)).pad (pad_rep [] (.int 0) 4)
  refine own_by (B := T14.setTop (mkF m 30 #[VR ua, VI 3, VI 4] [(.ref b14), (.ref ua)])) st14 ?_
  have c16 := ((c12.wr W11).ext E14)
  have c17 := (((((((F_holder.ext E2).other W3 (Or.inr (slot_ne (Or.inr (own_hw 26 hw rfl)) (Or.inr (own_hw 20 hw rfl)) (by decide) (t := (.array .int)) (t' := (.array (.array .int))) (by decide) (by decide)))).ext E6).other W7 (Or.inr (slot_ne (Or.inr (own_hw 26 hw rfl)) (Or.inr (own_hw 22 hw rfl)) (by decide) (t := (.array .int)) (t' := (.array .int)) (by decide) (by decide)))).ext E10).other W11 (Or.inr (slot_ne (Or.inr (own_hw 26 hw rfl)) (Or.inr (own_hw 24 hw rfl)) (by decide) (t := (.array .int)) (t' := (.array .int)) (by decide) (by decide)))).ext E14)
  obtain ⟨T15, h15, X15, e15, W15, st15⟩ := putF X14 hx hZ hown (host := "") (Or.inl (own_hw 25 hw rfl)) Via.refl e14 c17 c16 (Or.inr ⟨(own_hw 26 hw rfl), rfl, hnm⟩) (own_hw 9 hw rfl) (ty := (.array .int)) (by decide) rfl rfl (g := (mkF m 30 #[VR ua, VI 3, VI 4] [(.ref b14), (.ref ua)])) rfl rfl (hb hby d3_30)
  have sz15 := W15.size
  have O15 := O14.wr W15 gn_ua
  have K15 := K14.wr W15 (Or.inl (List.mem_of_getElem? (i := 0) rfl))
  have N15 := Fr.snoc X15 N11 gn_ua
  have F15 := c17.same W15
  refine own_by (B := T15.setTop (mkF m 33 #[VR ua, VI 3, VI 4] [])) st15 ?_
  refine own_by (B := T15.setTop (mkF m 34 #[VR ua, VI 3, VI 4] [(.ref ua)])) (fun _ k => XS.aloadN X15.here hx rfl (hb hby d3_33) rfl rfl  k) ?_
  refine own_by (B := T15.setTop (mkF m 35 #[VR ua, VI 3, VI 4] [(.int 3), (.ref ua)])) (fun _ k => XS.iloadN X15.here hx rfl (hb hby d3_34) rfl  k) ?_
  obtain ⟨T18, h18, ka18, X18, e18, E18, A18, EA18, st18⟩ := newPE X15 hx hZ (own_hw 27 hw rfl) e15 (g := (mkF m 35 #[VR ua, VI 3, VI 4] [(.int 3), (.ref ua)])) rfl (hb hby d3_35) rfl (by decide) (cap := 3) (by decide) (by decide) (by decide) (by decide) (ad := "[Z") (by decide)
  obtain ⟨b18, g18⟩ : ∃ z, z = h15.size := ⟨_, rfl⟩
  rw [← g18] at A18 EA18 st18
  have sz18 := E18.1
  have gn18 : n0 ≤ b18 := g18 ▸ own_old_le O15
  have fz18 : h0.size ≤ b18 := g18 ▸ K15.1
  have lt18 := own_lt A18.lt
  have O18 := O15.ext E18
  have K18 := K15.ext E18
  have V18 : Arv Z h18 b18 ka18 .boolean (3 : Int32) [(.int 0), (.int 0), (.int 0)] (.int 0) := (Arv.new A18 (by decide)).pad (pad_rep [] (.int 0) 3)
  refine own_by (B := T18.setTop (mkF m 37 #[VR ua, VI 3, VI 4] [(.ref b18), (.ref ua)])) st18 ?_
  have c20 := ((c16.wr W15).ext E18)
  have c21 := (((((((((F_fixed.ext E2).other W3 (Or.inr (slot_ne (Or.inr (own_hw 29 hw rfl)) (Or.inr (own_hw 20 hw rfl)) (by decide) (t := (.array .boolean)) (t' := (.array (.array .int))) (by decide) (by decide)))).ext E6).other W7 (Or.inr (slot_ne (Or.inr (own_hw 29 hw rfl)) (Or.inr (own_hw 22 hw rfl)) (by decide) (t := (.array .boolean)) (t' := (.array .int)) (by decide) (by decide)))).ext E10).other W11 (Or.inr (slot_ne (Or.inr (own_hw 29 hw rfl)) (Or.inr (own_hw 24 hw rfl)) (by decide) (t := (.array .boolean)) (t' := (.array .int)) (by decide) (by decide)))).ext E14).other W15 (Or.inr (slot_ne (Or.inr (own_hw 29 hw rfl)) (Or.inr (own_hw 26 hw rfl)) (by decide) (t := (.array .boolean)) (t' := (.array .int)) (by decide) (by decide)))).ext E18)
  obtain ⟨T19, h19, X19, e19, W19, st19⟩ := putF X18 hx hZ hown (host := "") (Or.inl (own_hw 28 hw rfl)) Via.refl e18 c21 c20 (Or.inr ⟨(own_hw 29 hw rfl), rfl, hnm⟩) (own_hw 9 hw rfl) (ty := (.array .boolean)) (by decide) rfl rfl (g := (mkF m 37 #[VR ua, VI 3, VI 4] [(.ref b18), (.ref ua)])) rfl rfl (hb hby d3_37)
  have sz19 := W19.size
  have O19 := O18.wr W19 gn_ua
  have K19 := K18.wr W19 (Or.inl (List.mem_of_getElem? (i := 0) rfl))
  have N19 := Fr.snoc X19 N15 gn_ua
  have F19 := c21.same W19
  refine own_by (B := T19.setTop (mkF m 40 #[VR ua, VI 3, VI 4] [])) st19 ?_
  refine own_by (B := T19.setTop (mkF m 41 #[VR ua, VI 3, VI 4] [(.ref ua)])) (fun _ k => XS.aloadN X19.here hx rfl (hb hby d3_40) rfl rfl  k) ?_
  refine own_by (B := T19.setTop (mkF m 42 #[VR ua, VI 3, VI 4] [(.int 4), (.ref ua)])) (fun _ k => XS.iloadN X19.here hx rfl (hb hby d3_41) rfl  k) ?_
  obtain ⟨T22, h22, ka22, X22, e22, E22, A22, EA22, st22⟩ := newPE X19 hx hZ (own_hw 30 hw rfl) e19 (g := (mkF m 42 #[VR ua, VI 3, VI 4] [(.int 4), (.ref ua)])) rfl (hb hby d3_42) rfl (by decide) (cap := 4) (by decide) (by decide) (by decide) (by decide) (ad := "[J") (by decide)
  obtain ⟨b22, g22⟩ : ∃ z, z = h19.size := ⟨_, rfl⟩
  rw [← g22] at A22 EA22 st22
  have sz22 := E22.1
  have gn22 : n0 ≤ b22 := g22 ▸ own_old_le O19
  have fz22 : h0.size ≤ b22 := g22 ▸ K19.1
  have lt22 := own_lt A22.lt
  have O22 := O19.ext E22
  have K22 := K19.ext E22
  have V22 : Arv Z h22 b22 ka22 .long (4 : Int32) [(.long (0 : Int64)), (.long (0 : Int64)), (.long (0 : Int64)), (.long (0 : Int64))] (.long (0 : Int64)) := (Arv.new A22 (by decide)).pad (pad_rep [] (.long (0 : Int64)) 4)
  refine own_by (B := T22.setTop (mkF m 44 #[VR ua, VI 3, VI 4] [(.ref b22), (.ref ua)])) st22 ?_
  have c24 := ((c20.wr W19).ext E22)
  have c25 := (((((((((((F_visited.ext E2).other W3 (Or.inr (slot_ne (Or.inr (own_hw 32 hw rfl)) (Or.inr (own_hw 20 hw rfl)) (by decide) (t := (.array .long)) (t' := (.array (.array .int))) (by decide) (by decide)))).ext E6).other W7 (Or.inr (slot_ne (Or.inr (own_hw 32 hw rfl)) (Or.inr (own_hw 22 hw rfl)) (by decide) (t := (.array .long)) (t' := (.array .int)) (by decide) (by decide)))).ext E10).other W11 (Or.inr (slot_ne (Or.inr (own_hw 32 hw rfl)) (Or.inr (own_hw 24 hw rfl)) (by decide) (t := (.array .long)) (t' := (.array .int)) (by decide) (by decide)))).ext E14).other W15 (Or.inr (slot_ne (Or.inr (own_hw 32 hw rfl)) (Or.inr (own_hw 26 hw rfl)) (by decide) (t := (.array .long)) (t' := (.array .int)) (by decide) (by decide)))).ext E18).other W19 (Or.inr (slot_ne (Or.inr (own_hw 32 hw rfl)) (Or.inr (own_hw 29 hw rfl)) (by decide) (t := (.array .long)) (t' := (.array .boolean)) (by decide) (by decide)))).ext E22)
  obtain ⟨T23, h23, X23, e23, W23, st23⟩ := putF X22 hx hZ hown (host := "") (Or.inl (own_hw 31 hw rfl)) Via.refl e22 c25 c24 (Or.inr ⟨(own_hw 32 hw rfl), rfl, hnm⟩) (own_hw 9 hw rfl) (ty := (.array .long)) (by decide) rfl rfl (g := (mkF m 44 #[VR ua, VI 3, VI 4] [(.ref b22), (.ref ua)])) rfl rfl (hb hby d3_44)
  have sz23 := W23.size
  have O23 := O22.wr W23 gn_ua
  have K23 := K22.wr W23 (Or.inl (List.mem_of_getElem? (i := 0) rfl))
  have N23 := Fr.snoc X23 N19 gn_ua
  have F23 := c25.same W23
  refine own_by (B := T23.setTop (mkF m 47 #[VR ua, VI 3, VI 4] [])) st23 ?_
  refine own_by (B := T23.setTop (mkF m 48 #[VR ua, VI 3, VI 4] [(.ref ua)])) (fun _ k => XS.aloadN X23.here hx rfl (hb hby d3_47) rfl rfl  k) ?_
  refine own_by (B := T23.setTop (mkF m 49 #[VR ua, VI 3, VI 4] [(.int 3), (.ref ua)])) (fun _ k => XS.iloadN X23.here hx rfl (hb hby d3_48) rfl  k) ?_
  obtain ⟨T26, h26, ka26, X26, e26, E26, A26, EA26, st26⟩ := newPE X23 hx hZ (own_hw 7 hw rfl) e23 (g := (mkF m 49 #[VR ua, VI 3, VI 4] [(.int 3), (.ref ua)])) rfl (hb hby d3_49) rfl (by decide) (cap := 3) (by decide) (by decide) (by decide) (by decide) (ad := "[I") (by decide)
  obtain ⟨b26, g26⟩ : ∃ z, z = h23.size := ⟨_, rfl⟩
  rw [← g26] at A26 EA26 st26
  have sz26 := E26.1
  have gn26 : n0 ≤ b26 := g26 ▸ own_old_le O23
  have fz26 : h0.size ≤ b26 := g26 ▸ K23.1
  have lt26 := own_lt A26.lt
  have O26 := O23.ext E26
  have K26 := K23.ext E26
  have V26 : Arv Z h26 b26 ka26 .int 3 [(.int 0), (.int 0), (.int 0)] (.int 0) := (Arv.new A26 (by decide)).pad (pad_rep [] (.int 0) 3)
  refine own_by (B := T26.setTop (mkF m 51 #[VR ua, VI 3, VI 4] [(.ref b26), (.ref ua)])) st26 ?_
  have c28 := ((c24.wr W23).ext E26)
  have c29 := (((((((((((((F_path.ext E2).other W3 (Or.inr (slot_ne (Or.inr (own_hw 34 hw rfl)) (Or.inr (own_hw 20 hw rfl)) (by decide) (t := (.array .int)) (t' := (.array (.array .int))) (by decide) (by decide)))).ext E6).other W7 (Or.inr (slot_ne (Or.inr (own_hw 34 hw rfl)) (Or.inr (own_hw 22 hw rfl)) (by decide) (t := (.array .int)) (t' := (.array .int)) (by decide) (by decide)))).ext E10).other W11 (Or.inr (slot_ne (Or.inr (own_hw 34 hw rfl)) (Or.inr (own_hw 24 hw rfl)) (by decide) (t := (.array .int)) (t' := (.array .int)) (by decide) (by decide)))).ext E14).other W15 (Or.inr (slot_ne (Or.inr (own_hw 34 hw rfl)) (Or.inr (own_hw 26 hw rfl)) (by decide) (t := (.array .int)) (t' := (.array .int)) (by decide) (by decide)))).ext E18).other W19 (Or.inr (slot_ne (Or.inr (own_hw 34 hw rfl)) (Or.inr (own_hw 29 hw rfl)) (by decide) (t := (.array .int)) (t' := (.array .boolean)) (by decide) (by decide)))).ext E22).other W23 (Or.inr (slot_ne (Or.inr (own_hw 34 hw rfl)) (Or.inr (own_hw 32 hw rfl)) (by decide) (t := (.array .int)) (t' := (.array .long)) (by decide) (by decide)))).ext E26)
  obtain ⟨T27, h27, X27, e27, W27, st27⟩ := putF X26 hx hZ hown (host := "") (Or.inl (own_hw 33 hw rfl)) Via.refl e26 c29 c28 (Or.inr ⟨(own_hw 34 hw rfl), rfl, hnm⟩) (own_hw 9 hw rfl) (ty := (.array .int)) (by decide) rfl rfl (g := (mkF m 51 #[VR ua, VI 3, VI 4] [(.ref b26), (.ref ua)])) rfl rfl (hb hby d3_51)
  have sz27 := W27.size
  have O27 := O26.wr W27 gn_ua
  have K27 := K26.wr W27 (Or.inl (List.mem_of_getElem? (i := 0) rfl))
  have N27 := Fr.snoc X27 N23 gn_ua
  have F27 := c29.same W27
  refine own_by (B := T27.setTop (mkF m 54 #[VR ua, VI 3, VI 4] [])) st27 ?_
  refine own_by (B := T27.setTop (mkF m 55 #[VR ua, VI 3, VI 4] [(.ref ua)])) (fun _ k => XS.aloadN X27.here hx rfl (hb hby d3_54) rfl rfl  k) ?_
  refine own_by (B := T27.setTop (mkF m 56 #[VR ua, VI 3, VI 4] [(.int 3), (.ref ua)])) (fun _ k => XS.iloadN X27.here hx rfl (hb hby d3_55) rfl  k) ?_
  obtain ⟨T30, h30, ka30, X30, e30, E30, A30, EA30, st30⟩ := newPE X27 hx hZ (own_hw 7 hw rfl) e27 (g := (mkF m 56 #[VR ua, VI 3, VI 4] [(.int 3), (.ref ua)])) rfl (hb hby d3_56) rfl (by decide) (cap := 3) (by decide) (by decide) (by decide) (by decide) (ad := "[I") (by decide)
  obtain ⟨b30, g30⟩ : ∃ z, z = h27.size := ⟨_, rfl⟩
  rw [← g30] at A30 EA30 st30
  have sz30 := E30.1
  have gn30 : n0 ≤ b30 := g30 ▸ own_old_le O27
  have fz30 : h0.size ≤ b30 := g30 ▸ K27.1
  have lt30 := own_lt A30.lt
  have O30 := O27.ext E30
  have K30 := K27.ext E30
  have V30 : Arv Z h30 b30 ka30 .int 3 [(.int 0), (.int 0), (.int 0)] (.int 0) := (Arv.new A30 (by decide)).pad (pad_rep [] (.int 0) 3)
  refine own_by (B := T30.setTop (mkF m 58 #[VR ua, VI 3, VI 4] [(.ref b30), (.ref ua)])) st30 ?_
  have c32 := ((c28.wr W27).ext E30)
  have c33 := (((((((((((((((F_via.ext E2).other W3 (Or.inr (slot_ne (Or.inr (own_hw 36 hw rfl)) (Or.inr (own_hw 20 hw rfl)) (by decide) (t := (.array .int)) (t' := (.array (.array .int))) (by decide) (by decide)))).ext E6).other W7 (Or.inr (slot_ne (Or.inr (own_hw 36 hw rfl)) (Or.inr (own_hw 22 hw rfl)) (by decide) (t := (.array .int)) (t' := (.array .int)) (by decide) (by decide)))).ext E10).other W11 (Or.inr (slot_ne (Or.inr (own_hw 36 hw rfl)) (Or.inr (own_hw 24 hw rfl)) (by decide) (t := (.array .int)) (t' := (.array .int)) (by decide) (by decide)))).ext E14).other W15 (Or.inr (slot_ne (Or.inr (own_hw 36 hw rfl)) (Or.inr (own_hw 26 hw rfl)) (by decide) (t := (.array .int)) (t' := (.array .int)) (by decide) (by decide)))).ext E18).other W19 (Or.inr (slot_ne (Or.inr (own_hw 36 hw rfl)) (Or.inr (own_hw 29 hw rfl)) (by decide) (t := (.array .int)) (t' := (.array .boolean)) (by decide) (by decide)))).ext E22).other W23 (Or.inr (slot_ne (Or.inr (own_hw 36 hw rfl)) (Or.inr (own_hw 32 hw rfl)) (by decide) (t := (.array .int)) (t' := (.array .long)) (by decide) (by decide)))).ext E26).other W27 (Or.inr (slot_ne (Or.inr (own_hw 36 hw rfl)) (Or.inr (own_hw 34 hw rfl)) (by decide) (t := (.array .int)) (t' := (.array .int)) (by decide) (by decide)))).ext E30)
  obtain ⟨T31, h31, X31, e31, W31, st31⟩ := putF X30 hx hZ hown (host := "") (Or.inl (own_hw 35 hw rfl)) Via.refl e30 c33 c32 (Or.inr ⟨(own_hw 36 hw rfl), rfl, hnm⟩) (own_hw 9 hw rfl) (ty := (.array .int)) (by decide) rfl rfl (g := (mkF m 58 #[VR ua, VI 3, VI 4] [(.ref b30), (.ref ua)])) rfl rfl (hb hby d3_58)
  have sz31 := W31.size
  have O31 := O30.wr W31 gn_ua
  have K31 := K30.wr W31 (Or.inl (List.mem_of_getElem? (i := 0) rfl))
  have N31 := Fr.snoc X31 N27 gn_ua
  have F31 := c33.same W31
  refine own_by (B := T31.setTop (mkF m 61 #[VR ua, VI 3, VI 4] [])) st31 ?_
  refine own_by (B := T31.setTop (mkF m 62 #[VR ua, VI 3, VI 4] [(.ref ua)])) (fun _ k => XS.aloadN X31.here hx rfl (hb hby d3_61) rfl rfl  k) ?_
  refine own_by (B := T31.setTop (mkF m 63 #[VR ua, VI 3, VI 4] [(.int 3), (.ref ua)])) (fun _ k => XS.iloadN X31.here hx rfl (hb hby d3_62) rfl  k) ?_
  obtain ⟨T34, h34, ka34, X34, e34, E34, A34, EA34, st34⟩ := newPE X31 hx hZ (own_hw 7 hw rfl) e31 (g := (mkF m 63 #[VR ua, VI 3, VI 4] [(.int 3), (.ref ua)])) rfl (hb hby d3_63) rfl (by decide) (cap := 3) (by decide) (by decide) (by decide) (by decide) (ad := "[I") (by decide)
  obtain ⟨b34, g34⟩ : ∃ z, z = h31.size := ⟨_, rfl⟩
  rw [← g34] at A34 EA34 st34
  have sz34 := E34.1
  have gn34 : n0 ≤ b34 := g34 ▸ own_old_le O31
  have fz34 : h0.size ≤ b34 := g34 ▸ K31.1
  have lt34 := own_lt A34.lt
  have O34 := O31.ext E34
  have K34 := K31.ext E34
  have V34 : Arv Z h34 b34 ka34 .int 3 [(.int 0), (.int 0), (.int 0)] (.int 0) := (Arv.new A34 (by decide)).pad (pad_rep [] (.int 0) 3)
  refine own_by (B := T34.setTop (mkF m 65 #[VR ua, VI 3, VI 4] [(.ref b34), (.ref ua)])) st34 ?_
  have c36 := ((c32.wr W31).ext E34)
  have c37 := (((((((((((((((((F_ownFrom.ext E2).other W3 (Or.inr (slot_ne (Or.inr (own_hw 38 hw rfl)) (Or.inr (own_hw 20 hw rfl)) (by decide) (t := (.array .int)) (t' := (.array (.array .int))) (by decide) (by decide)))).ext E6).other W7 (Or.inr (slot_ne (Or.inr (own_hw 38 hw rfl)) (Or.inr (own_hw 22 hw rfl)) (by decide) (t := (.array .int)) (t' := (.array .int)) (by decide) (by decide)))).ext E10).other W11 (Or.inr (slot_ne (Or.inr (own_hw 38 hw rfl)) (Or.inr (own_hw 24 hw rfl)) (by decide) (t := (.array .int)) (t' := (.array .int)) (by decide) (by decide)))).ext E14).other W15 (Or.inr (slot_ne (Or.inr (own_hw 38 hw rfl)) (Or.inr (own_hw 26 hw rfl)) (by decide) (t := (.array .int)) (t' := (.array .int)) (by decide) (by decide)))).ext E18).other W19 (Or.inr (slot_ne (Or.inr (own_hw 38 hw rfl)) (Or.inr (own_hw 29 hw rfl)) (by decide) (t := (.array .int)) (t' := (.array .boolean)) (by decide) (by decide)))).ext E22).other W23 (Or.inr (slot_ne (Or.inr (own_hw 38 hw rfl)) (Or.inr (own_hw 32 hw rfl)) (by decide) (t := (.array .int)) (t' := (.array .long)) (by decide) (by decide)))).ext E26).other W27 (Or.inr (slot_ne (Or.inr (own_hw 38 hw rfl)) (Or.inr (own_hw 34 hw rfl)) (by decide) (t := (.array .int)) (t' := (.array .int)) (by decide) (by decide)))).ext E30).other W31 (Or.inr (slot_ne (Or.inr (own_hw 38 hw rfl)) (Or.inr (own_hw 36 hw rfl)) (by decide) (t := (.array .int)) (t' := (.array .int)) (by decide) (by decide)))).ext E34)
  obtain ⟨T35, h35, X35, e35, W35, st35⟩ := putF X34 hx hZ hown (host := "") (Or.inl (own_hw 37 hw rfl)) Via.refl e34 c37 c36 (Or.inr ⟨(own_hw 38 hw rfl), rfl, hnm⟩) (own_hw 9 hw rfl) (ty := (.array .int)) (by decide) rfl rfl (g := (mkF m 65 #[VR ua, VI 3, VI 4] [(.ref b34), (.ref ua)])) rfl rfl (hb hby d3_65)
  have sz35 := W35.size
  have O35 := O34.wr W35 gn_ua
  have K35 := K34.wr W35 (Or.inl (List.mem_of_getElem? (i := 0) rfl))
  have N35 := Fr.snoc X35 N31 gn_ua
  have F35 := c37.same W35
  refine own_by (B := T35.setTop (mkF m 68 #[VR ua, VI 3, VI 4] [])) st35 ?_
  refine own_by (B := T35.setTop (mkF m 69 #[VR ua, VI 3, VI 4] [(.ref ua)])) (fun _ k => XS.aloadN X35.here hx rfl (hb hby d3_68) rfl rfl  k) ?_
  refine own_by (B := T35.setTop (mkF m 70 #[VR ua, VI 3, VI 4] [(.int 3), (.ref ua)])) (fun _ k => XS.iloadN X35.here hx rfl (hb hby d3_69) rfl  k) ?_
  obtain ⟨T38, h38, ka38, X38, e38, E38, A38, EA38, st38⟩ := newPE X35 hx hZ (own_hw 30 hw rfl) e35 (g := (mkF m 70 #[VR ua, VI 3, VI 4] [(.int 3), (.ref ua)])) rfl (hb hby d3_70) rfl (by decide) (cap := 3) (by decide) (by decide) (by decide) (by decide) (ad := "[J") (by decide)
  obtain ⟨b38, g38⟩ : ∃ z, z = h35.size := ⟨_, rfl⟩
  rw [← g38] at A38 EA38 st38
  have sz38 := E38.1
  have gn38 : n0 ≤ b38 := g38 ▸ own_old_le O35
  have fz38 : h0.size ≤ b38 := g38 ▸ K35.1
  have lt38 := own_lt A38.lt
  have O38 := O35.ext E38
  have K38 := K35.ext E38
  have V38 : Arv Z h38 b38 ka38 .long (3 : Int32) [(.long (0 : Int64)), (.long (0 : Int64)), (.long (0 : Int64))] (.long (0 : Int64)) := (Arv.new A38 (by decide)).pad (pad_rep [] (.long (0 : Int64)) 3)
  refine own_by (B := T38.setTop (mkF m 72 #[VR ua, VI 3, VI 4] [(.ref b38), (.ref ua)])) st38 ?_
  have c40 := ((c36.wr W35).ext E38)
  have c41 := (((((((((((((((((((F_scanned.ext E2).other W3 (Or.inr (slot_ne (Or.inr (own_hw 40 hw rfl)) (Or.inr (own_hw 20 hw rfl)) (by decide) (t := (.array .long)) (t' := (.array (.array .int))) (by decide) (by decide)))).ext E6).other W7 (Or.inr (slot_ne (Or.inr (own_hw 40 hw rfl)) (Or.inr (own_hw 22 hw rfl)) (by decide) (t := (.array .long)) (t' := (.array .int)) (by decide) (by decide)))).ext E10).other W11 (Or.inr (slot_ne (Or.inr (own_hw 40 hw rfl)) (Or.inr (own_hw 24 hw rfl)) (by decide) (t := (.array .long)) (t' := (.array .int)) (by decide) (by decide)))).ext E14).other W15 (Or.inr (slot_ne (Or.inr (own_hw 40 hw rfl)) (Or.inr (own_hw 26 hw rfl)) (by decide) (t := (.array .long)) (t' := (.array .int)) (by decide) (by decide)))).ext E18).other W19 (Or.inr (slot_ne (Or.inr (own_hw 40 hw rfl)) (Or.inr (own_hw 29 hw rfl)) (by decide) (t := (.array .long)) (t' := (.array .boolean)) (by decide) (by decide)))).ext E22).other W23 (Or.inr (slot_ne (Or.inr (own_hw 40 hw rfl)) (Or.inr (own_hw 32 hw rfl)) (by decide) (t := (.array .long)) (t' := (.array .long)) (by decide) (by decide)))).ext E26).other W27 (Or.inr (slot_ne (Or.inr (own_hw 40 hw rfl)) (Or.inr (own_hw 34 hw rfl)) (by decide) (t := (.array .long)) (t' := (.array .int)) (by decide) (by decide)))).ext E30).other W31 (Or.inr (slot_ne (Or.inr (own_hw 40 hw rfl)) (Or.inr (own_hw 36 hw rfl)) (by decide) (t := (.array .long)) (t' := (.array .int)) (by decide) (by decide)))).ext E34).other W35 (Or.inr (slot_ne (Or.inr (own_hw 40 hw rfl)) (Or.inr (own_hw 38 hw rfl)) (by decide) (t := (.array .long)) (t' := (.array .int)) (by decide) (by decide)))).ext E38)
  obtain ⟨T39, h39, X39, e39, W39, st39⟩ := putF X38 hx hZ hown (host := "") (Or.inl (own_hw 39 hw rfl)) Via.refl e38 c41 c40 (Or.inr ⟨(own_hw 40 hw rfl), rfl, hnm⟩) (own_hw 9 hw rfl) (ty := (.array .long)) (by decide) rfl rfl (g := (mkF m 72 #[VR ua, VI 3, VI 4] [(.ref b38), (.ref ua)])) rfl rfl (hb hby d3_72)
  have sz39 := W39.size
  have O39 := O38.wr W39 gn_ua
  have K39 := K38.wr W39 (Or.inl (List.mem_of_getElem? (i := 0) rfl))
  have N39 := Fr.snoc X39 N35 gn_ua
  have F39 := c41.same W39
  refine own_by (B := T39.setTop (mkF m 75 #[VR ua, VI 3, VI 4] [])) st39 ?_
  refine own_by (B := T39.setTop (mkF m 76 #[VR ua, VI 3, VI 4] [(.ref ua)])) (fun _ k => XS.aloadN X39.here hx rfl (hb hby d3_75) rfl rfl  k) ?_
  refine own_by (B := T39.setTop (mkF m 77 #[VR ua, VI 3, VI 4] [(.int 3), (.ref ua)])) (fun _ k => XS.iloadN X39.here hx rfl (hb hby d3_76) rfl  k) ?_
  obtain ⟨T42, h42, ka42, X42, e42, E42, A42, EA42, st42⟩ := newPE X39 hx hZ (own_hw 7 hw rfl) e39 (g := (mkF m 77 #[VR ua, VI 3, VI 4] [(.int 3), (.ref ua)])) rfl (hb hby d3_77) rfl (by decide) (cap := 3) (by decide) (by decide) (by decide) (by decide) (ad := "[I") (by decide)
  obtain ⟨b42, g42⟩ : ∃ z, z = h39.size := ⟨_, rfl⟩
  rw [← g42] at A42 EA42 st42
  have sz42 := E42.1
  have gn42 : n0 ≤ b42 := g42 ▸ own_old_le O39
  have fz42 : h0.size ≤ b42 := g42 ▸ K39.1
  have lt42 := own_lt A42.lt
  have O42 := O39.ext E42
  have K42 := K39.ext E42
  have V42 : Arv Z h42 b42 ka42 .int 3 [(.int 0), (.int 0), (.int 0)] (.int 0) := (Arv.new A42 (by decide)).pad (pad_rep [] (.int 0) 3)
  refine own_by (B := T42.setTop (mkF m 79 #[VR ua, VI 3, VI 4] [(.ref b42), (.ref ua)])) st42 ?_
  have c44 := ((c40.wr W39).ext E42)
  have c45 := (((((((((((((((((((((F_next.ext E2).other W3 (Or.inr (slot_ne (Or.inr (own_hw 42 hw rfl)) (Or.inr (own_hw 20 hw rfl)) (by decide) (t := (.array .int)) (t' := (.array (.array .int))) (by decide) (by decide)))).ext E6).other W7 (Or.inr (slot_ne (Or.inr (own_hw 42 hw rfl)) (Or.inr (own_hw 22 hw rfl)) (by decide) (t := (.array .int)) (t' := (.array .int)) (by decide) (by decide)))).ext E10).other W11 (Or.inr (slot_ne (Or.inr (own_hw 42 hw rfl)) (Or.inr (own_hw 24 hw rfl)) (by decide) (t := (.array .int)) (t' := (.array .int)) (by decide) (by decide)))).ext E14).other W15 (Or.inr (slot_ne (Or.inr (own_hw 42 hw rfl)) (Or.inr (own_hw 26 hw rfl)) (by decide) (t := (.array .int)) (t' := (.array .int)) (by decide) (by decide)))).ext E18).other W19 (Or.inr (slot_ne (Or.inr (own_hw 42 hw rfl)) (Or.inr (own_hw 29 hw rfl)) (by decide) (t := (.array .int)) (t' := (.array .boolean)) (by decide) (by decide)))).ext E22).other W23 (Or.inr (slot_ne (Or.inr (own_hw 42 hw rfl)) (Or.inr (own_hw 32 hw rfl)) (by decide) (t := (.array .int)) (t' := (.array .long)) (by decide) (by decide)))).ext E26).other W27 (Or.inr (slot_ne (Or.inr (own_hw 42 hw rfl)) (Or.inr (own_hw 34 hw rfl)) (by decide) (t := (.array .int)) (t' := (.array .int)) (by decide) (by decide)))).ext E30).other W31 (Or.inr (slot_ne (Or.inr (own_hw 42 hw rfl)) (Or.inr (own_hw 36 hw rfl)) (by decide) (t := (.array .int)) (t' := (.array .int)) (by decide) (by decide)))).ext E34).other W35 (Or.inr (slot_ne (Or.inr (own_hw 42 hw rfl)) (Or.inr (own_hw 38 hw rfl)) (by decide) (t := (.array .int)) (t' := (.array .int)) (by decide) (by decide)))).ext E38).other W39 (Or.inr (slot_ne (Or.inr (own_hw 42 hw rfl)) (Or.inr (own_hw 40 hw rfl)) (by decide) (t := (.array .int)) (t' := (.array .long)) (by decide) (by decide)))).ext E42)
  obtain ⟨T43, h43, X43, e43, W43, st43⟩ := putF X42 hx hZ hown (host := "") (Or.inl (own_hw 41 hw rfl)) Via.refl e42 c45 c44 (Or.inr ⟨(own_hw 42 hw rfl), rfl, hnm⟩) (own_hw 9 hw rfl) (ty := (.array .int)) (by decide) rfl rfl (g := (mkF m 79 #[VR ua, VI 3, VI 4] [(.ref b42), (.ref ua)])) rfl rfl (hb hby d3_79)
  have sz43 := W43.size
  have O43 := O42.wr W43 gn_ua
  have K43 := K42.wr W43 (Or.inl (List.mem_of_getElem? (i := 0) rfl))
  have N43 := Fr.snoc X43 N39 gn_ua
  have F43 := c45.same W43
  refine own_by (B := T43.setTop (mkF m 82 #[VR ua, VI 3, VI 4] [])) st43 ?_
  refine own_by (B := T43.setTop (mkF m 83 #[VR ua, VI 3, VI 4] [(.ref ua)])) (fun _ k => XS.aloadN X43.here hx rfl (hb hby d3_82) rfl rfl  k) ?_
  refine own_by (B := T43.setTop (mkF m 84 #[VR ua, VI 3, VI 4] [(.int 3), (.ref ua)])) (fun _ k => XS.iloadN X43.here hx rfl (hb hby d3_83) rfl  k) ?_
  obtain ⟨T46, h46, ka46, X46, e46, E46, A46, EA46, st46⟩ := newPE X43 hx hZ (own_hw 7 hw rfl) e43 (g := (mkF m 84 #[VR ua, VI 3, VI 4] [(.int 3), (.ref ua)])) rfl (hb hby d3_84) rfl (by decide) (cap := 3) (by decide) (by decide) (by decide) (by decide) (ad := "[I") (by decide)
  obtain ⟨b46, g46⟩ : ∃ z, z = h43.size := ⟨_, rfl⟩
  rw [← g46] at A46 EA46 st46
  have sz46 := E46.1
  have gn46 : n0 ≤ b46 := g46 ▸ own_old_le O43
  have fz46 : h0.size ≤ b46 := g46 ▸ K43.1
  have lt46 := own_lt A46.lt
  have O46 := O43.ext E46
  have K46 := K43.ext E46
  have V46 : Arv Z h46 b46 ka46 .int 3 [(.int 0), (.int 0), (.int 0)] (.int 0) := (Arv.new A46 (by decide)).pad (pad_rep [] (.int 0) 3)
  refine own_by (B := T46.setTop (mkF m 86 #[VR ua, VI 3, VI 4] [(.ref b46), (.ref ua)])) st46 ?_
  have c48 := ((c44.wr W43).ext E46)
  have c49 := (((((((((((((((((((((((F_fixedFrom.ext E2).other W3 (Or.inr (slot_ne (Or.inr (own_hw 44 hw rfl)) (Or.inr (own_hw 20 hw rfl)) (by decide) (t := (.array .int)) (t' := (.array (.array .int))) (by decide) (by decide)))).ext E6).other W7 (Or.inr (slot_ne (Or.inr (own_hw 44 hw rfl)) (Or.inr (own_hw 22 hw rfl)) (by decide) (t := (.array .int)) (t' := (.array .int)) (by decide) (by decide)))).ext E10).other W11 (Or.inr (slot_ne (Or.inr (own_hw 44 hw rfl)) (Or.inr (own_hw 24 hw rfl)) (by decide) (t := (.array .int)) (t' := (.array .int)) (by decide) (by decide)))).ext E14).other W15 (Or.inr (slot_ne (Or.inr (own_hw 44 hw rfl)) (Or.inr (own_hw 26 hw rfl)) (by decide) (t := (.array .int)) (t' := (.array .int)) (by decide) (by decide)))).ext E18).other W19 (Or.inr (slot_ne (Or.inr (own_hw 44 hw rfl)) (Or.inr (own_hw 29 hw rfl)) (by decide) (t := (.array .int)) (t' := (.array .boolean)) (by decide) (by decide)))).ext E22).other W23 (Or.inr (slot_ne (Or.inr (own_hw 44 hw rfl)) (Or.inr (own_hw 32 hw rfl)) (by decide) (t := (.array .int)) (t' := (.array .long)) (by decide) (by decide)))).ext E26).other W27 (Or.inr (slot_ne (Or.inr (own_hw 44 hw rfl)) (Or.inr (own_hw 34 hw rfl)) (by decide) (t := (.array .int)) (t' := (.array .int)) (by decide) (by decide)))).ext E30).other W31 (Or.inr (slot_ne (Or.inr (own_hw 44 hw rfl)) (Or.inr (own_hw 36 hw rfl)) (by decide) (t := (.array .int)) (t' := (.array .int)) (by decide) (by decide)))).ext E34).other W35 (Or.inr (slot_ne (Or.inr (own_hw 44 hw rfl)) (Or.inr (own_hw 38 hw rfl)) (by decide) (t := (.array .int)) (t' := (.array .int)) (by decide) (by decide)))).ext E38).other W39 (Or.inr (slot_ne (Or.inr (own_hw 44 hw rfl)) (Or.inr (own_hw 40 hw rfl)) (by decide) (t := (.array .int)) (t' := (.array .long)) (by decide) (by decide)))).ext E42).other W43 (Or.inr (slot_ne (Or.inr (own_hw 44 hw rfl)) (Or.inr (own_hw 42 hw rfl)) (by decide) (t := (.array .int)) (t' := (.array .int)) (by decide) (by decide)))).ext E46)
  obtain ⟨T47, h47, X47, e47, W47, st47⟩ := putF X46 hx hZ hown (host := "") (Or.inl (own_hw 43 hw rfl)) Via.refl e46 c49 c48 (Or.inr ⟨(own_hw 44 hw rfl), rfl, hnm⟩) (own_hw 9 hw rfl) (ty := (.array .int)) (by decide) rfl rfl (g := (mkF m 86 #[VR ua, VI 3, VI 4] [(.ref b46), (.ref ua)])) rfl rfl (hb hby d3_86)
  have sz47 := W47.size
  have O47 := O46.wr W47 gn_ua
  have K47 := K46.wr W47 (Or.inl (List.mem_of_getElem? (i := 0) rfl))
  have N47 := Fr.snoc X47 N43 gn_ua
  have F47 := c49.same W47
  refine own_by (B := T47.setTop (mkF m 89 #[VR ua, VI 3, VI 4] [])) st47 ?_
  refine own_by (B := T47.setTop (mkF m 90 #[VR ua, VI 3, VI 4] [(.ref ua)])) (fun _ k => XS.aloadN X47.here hx rfl (hb hby d3_89) rfl rfl  k) ?_
  have c50 := ((((((((((((((((F15.ext E18).other W19 (Or.inr (slot_ne (Or.inr (own_hw 26 hw rfl)) (Or.inr (own_hw 29 hw rfl)) (by decide) (t := (.array .int)) (t' := (.array .boolean)) (by decide) (by decide)))).ext E22).other W23 (Or.inr (slot_ne (Or.inr (own_hw 26 hw rfl)) (Or.inr (own_hw 32 hw rfl)) (by decide) (t := (.array .int)) (t' := (.array .long)) (by decide) (by decide)))).ext E26).other W27 (Or.inr (slot_ne (Or.inr (own_hw 26 hw rfl)) (Or.inr (own_hw 34 hw rfl)) (by decide) (t := (.array .int)) (t' := (.array .int)) (by decide) (by decide)))).ext E30).other W31 (Or.inr (slot_ne (Or.inr (own_hw 26 hw rfl)) (Or.inr (own_hw 36 hw rfl)) (by decide) (t := (.array .int)) (t' := (.array .int)) (by decide) (by decide)))).ext E34).other W35 (Or.inr (slot_ne (Or.inr (own_hw 26 hw rfl)) (Or.inr (own_hw 38 hw rfl)) (by decide) (t := (.array .int)) (t' := (.array .int)) (by decide) (by decide)))).ext E38).other W39 (Or.inr (slot_ne (Or.inr (own_hw 26 hw rfl)) (Or.inr (own_hw 40 hw rfl)) (by decide) (t := (.array .int)) (t' := (.array .long)) (by decide) (by decide)))).ext E42).other W43 (Or.inr (slot_ne (Or.inr (own_hw 26 hw rfl)) (Or.inr (own_hw 42 hw rfl)) (by decide) (t := (.array .int)) (t' := (.array .int)) (by decide) (by decide)))).ext E46).other W47 (Or.inr (slot_ne (Or.inr (own_hw 26 hw rfl)) (Or.inr (own_hw 44 hw rfl)) (by decide) (t := (.array .int)) (t' := (.array .int)) (by decide) (by decide))))
  obtain ⟨T51, X51, e51, st51⟩ := getF X47 hx hZ hown (host := "") (Or.inl (own_hw 25 hw rfl)) Via.refl e47 c50 (g := (mkF m 90 #[VR ua, VI 3, VI 4] [(.ref ua)])) rfl rfl (hb hby d3_90)
  refine own_by (B := T51.setTop (mkF m 93 #[VR ua, VI 3, VI 4] [(.ref b14)])) st51 ?_
  refine own_by (B := T51.setTop (mkF m 94 #[VR ua, VI 3, VI 4] [(.int (-1 : Int32)), (.ref b14)])) (fun _ k => XS.iconst X51.here hx rfl (hb hby d3_93) k) ?_
  have c52 := (((((((((((((((((V14.other W15 (own_ne (by omega))).ext E18).other W19 (own_ne (by omega))).ext E22).other W23 (own_ne (by omega))).ext E26).other W27 (own_ne (by omega))).ext E30).other W31 (own_ne (by omega))).ext E34).other W35 (own_ne (by omega))).ext E38).other W39 (own_ne (by omega))).ext E42).other W43 (own_ne (by omega))).ext E46).other W47 (own_ne (by omega)))
  obtain ⟨_, _, ⟨T53, L53, k53, n53⟩, -, X53, ⟨Lc53, hQ53, l53, y53, z53⟩, st53⟩ := Jvm.LawKit.callS X51 hx (y := (⟨"java/util/Arrays", "fill", "([II)V"⟩ : MethodName)) hown (mvT hZ (own_hw 45 hw rfl)) (mvT hZ (own_hw 46 hw rfl)) (mvT hZ (own_hw 47 hw rfl)) (mvT hZ (own_hw 48 hw rfl)) (by decide) (backOf (W := 0) (rmFill l Z a0 hw [] b14 ka14 h47 n0 (own_old_le O47) O47 c52 gn14) hZ (own_hw 48 hw rfl) (own_hw 47 hw rfl) (by decide) (by decide)) (g := (mkF m 94 #[VR ua, VI 3, VI 4] [(.int (-1 : Int32)), (.ref b14)])) rfl (by rw [hml]; rfl) (argsL := [(.ref b14), (.int (-1 : Int32))]) (rest := []) (lenOf pd_3___II_V rfl) rfl (by show 2 * 0 + _ ≤ _; exact Nat.le_of_eq rfl) (hb hby d3_94) (fun _ _ => ⟨rfl, e51, (by decide : 12 + 0 ≤ _), (by decide : 38 + 0 ≤ _)⟩)
  dsimp only [Pt.U, Pt.locs, Pt.cells, Pt.slots] at X53 l53 y53 z53 st53 hQ53
  subst l53 y53 z53
  obtain ⟨rfl, NC53, KC53, VC53⟩ := hQ53
  refine own_by (B := T53.setTop (mkF m 97 #[VR ua, VI 3, VI 4] [])) st53 ?_
  obtain ⟨h53, e53⟩ : ∃ z, T53.heap = z := ⟨_, rfl⟩
  rw [e53] at KC53 VC53
  have sz53 := KC53.1
  have O53 := O47.keep KC53 (allS gn14 all0)
  have K53 := K47.trans KC53 (allS (Or.inr fz14) all0)
  have N53 := Fr.app N47 NC53
  have c54 := ((c48.wr W47).keep KC53)
  have c55 := (((((((((((((((((((((((F3.ext E6).other W7 (Or.inr (slot_ne (Or.inr (own_hw 20 hw rfl)) (Or.inr (own_hw 22 hw rfl)) (by decide) (t := (.array (.array .int))) (t' := (.array .int)) (by decide) (by decide)))).ext E10).other W11 (Or.inr (slot_ne (Or.inr (own_hw 20 hw rfl)) (Or.inr (own_hw 24 hw rfl)) (by decide) (t := (.array (.array .int))) (t' := (.array .int)) (by decide) (by decide)))).ext E14).other W15 (Or.inr (slot_ne (Or.inr (own_hw 20 hw rfl)) (Or.inr (own_hw 26 hw rfl)) (by decide) (t := (.array (.array .int))) (t' := (.array .int)) (by decide) (by decide)))).ext E18).other W19 (Or.inr (slot_ne (Or.inr (own_hw 20 hw rfl)) (Or.inr (own_hw 29 hw rfl)) (by decide) (t := (.array (.array .int))) (t' := (.array .boolean)) (by decide) (by decide)))).ext E22).other W23 (Or.inr (slot_ne (Or.inr (own_hw 20 hw rfl)) (Or.inr (own_hw 32 hw rfl)) (by decide) (t := (.array (.array .int))) (t' := (.array .long)) (by decide) (by decide)))).ext E26).other W27 (Or.inr (slot_ne (Or.inr (own_hw 20 hw rfl)) (Or.inr (own_hw 34 hw rfl)) (by decide) (t := (.array (.array .int))) (t' := (.array .int)) (by decide) (by decide)))).ext E30).other W31 (Or.inr (slot_ne (Or.inr (own_hw 20 hw rfl)) (Or.inr (own_hw 36 hw rfl)) (by decide) (t := (.array (.array .int))) (t' := (.array .int)) (by decide) (by decide)))).ext E34).other W35 (Or.inr (slot_ne (Or.inr (own_hw 20 hw rfl)) (Or.inr (own_hw 38 hw rfl)) (by decide) (t := (.array (.array .int))) (t' := (.array .int)) (by decide) (by decide)))).ext E38).other W39 (Or.inr (slot_ne (Or.inr (own_hw 20 hw rfl)) (Or.inr (own_hw 40 hw rfl)) (by decide) (t := (.array (.array .int))) (t' := (.array .long)) (by decide) (by decide)))).ext E42).other W43 (Or.inr (slot_ne (Or.inr (own_hw 20 hw rfl)) (Or.inr (own_hw 42 hw rfl)) (by decide) (t := (.array (.array .int))) (t' := (.array .int)) (by decide) (by decide)))).ext E46).other W47 (Or.inr (slot_ne (Or.inr (own_hw 20 hw rfl)) (Or.inr (own_hw 44 hw rfl)) (by decide) (t := (.array (.array .int))) (t' := (.array .int)) (by decide) (by decide)))).keep KC53 (ninS (own_ne (by omega)) nin0))
  have c56 := (((((((((((((((((((((F7.ext E10).other W11 (Or.inr (slot_ne (Or.inr (own_hw 22 hw rfl)) (Or.inr (own_hw 24 hw rfl)) (by decide) (t := (.array .int)) (t' := (.array .int)) (by decide) (by decide)))).ext E14).other W15 (Or.inr (slot_ne (Or.inr (own_hw 22 hw rfl)) (Or.inr (own_hw 26 hw rfl)) (by decide) (t := (.array .int)) (t' := (.array .int)) (by decide) (by decide)))).ext E18).other W19 (Or.inr (slot_ne (Or.inr (own_hw 22 hw rfl)) (Or.inr (own_hw 29 hw rfl)) (by decide) (t := (.array .int)) (t' := (.array .boolean)) (by decide) (by decide)))).ext E22).other W23 (Or.inr (slot_ne (Or.inr (own_hw 22 hw rfl)) (Or.inr (own_hw 32 hw rfl)) (by decide) (t := (.array .int)) (t' := (.array .long)) (by decide) (by decide)))).ext E26).other W27 (Or.inr (slot_ne (Or.inr (own_hw 22 hw rfl)) (Or.inr (own_hw 34 hw rfl)) (by decide) (t := (.array .int)) (t' := (.array .int)) (by decide) (by decide)))).ext E30).other W31 (Or.inr (slot_ne (Or.inr (own_hw 22 hw rfl)) (Or.inr (own_hw 36 hw rfl)) (by decide) (t := (.array .int)) (t' := (.array .int)) (by decide) (by decide)))).ext E34).other W35 (Or.inr (slot_ne (Or.inr (own_hw 22 hw rfl)) (Or.inr (own_hw 38 hw rfl)) (by decide) (t := (.array .int)) (t' := (.array .int)) (by decide) (by decide)))).ext E38).other W39 (Or.inr (slot_ne (Or.inr (own_hw 22 hw rfl)) (Or.inr (own_hw 40 hw rfl)) (by decide) (t := (.array .int)) (t' := (.array .long)) (by decide) (by decide)))).ext E42).other W43 (Or.inr (slot_ne (Or.inr (own_hw 22 hw rfl)) (Or.inr (own_hw 42 hw rfl)) (by decide) (t := (.array .int)) (t' := (.array .int)) (by decide) (by decide)))).ext E46).other W47 (Or.inr (slot_ne (Or.inr (own_hw 22 hw rfl)) (Or.inr (own_hw 44 hw rfl)) (by decide) (t := (.array .int)) (t' := (.array .int)) (by decide) (by decide)))).keep KC53 (ninS (own_ne (by omega)) nin0))
  have c57 := (((((((((((((((((((F11.ext E14).other W15 (Or.inr (slot_ne (Or.inr (own_hw 24 hw rfl)) (Or.inr (own_hw 26 hw rfl)) (by decide) (t := (.array .int)) (t' := (.array .int)) (by decide) (by decide)))).ext E18).other W19 (Or.inr (slot_ne (Or.inr (own_hw 24 hw rfl)) (Or.inr (own_hw 29 hw rfl)) (by decide) (t := (.array .int)) (t' := (.array .boolean)) (by decide) (by decide)))).ext E22).other W23 (Or.inr (slot_ne (Or.inr (own_hw 24 hw rfl)) (Or.inr (own_hw 32 hw rfl)) (by decide) (t := (.array .int)) (t' := (.array .long)) (by decide) (by decide)))).ext E26).other W27 (Or.inr (slot_ne (Or.inr (own_hw 24 hw rfl)) (Or.inr (own_hw 34 hw rfl)) (by decide) (t := (.array .int)) (t' := (.array .int)) (by decide) (by decide)))).ext E30).other W31 (Or.inr (slot_ne (Or.inr (own_hw 24 hw rfl)) (Or.inr (own_hw 36 hw rfl)) (by decide) (t := (.array .int)) (t' := (.array .int)) (by decide) (by decide)))).ext E34).other W35 (Or.inr (slot_ne (Or.inr (own_hw 24 hw rfl)) (Or.inr (own_hw 38 hw rfl)) (by decide) (t := (.array .int)) (t' := (.array .int)) (by decide) (by decide)))).ext E38).other W39 (Or.inr (slot_ne (Or.inr (own_hw 24 hw rfl)) (Or.inr (own_hw 40 hw rfl)) (by decide) (t := (.array .int)) (t' := (.array .long)) (by decide) (by decide)))).ext E42).other W43 (Or.inr (slot_ne (Or.inr (own_hw 24 hw rfl)) (Or.inr (own_hw 42 hw rfl)) (by decide) (t := (.array .int)) (t' := (.array .int)) (by decide) (by decide)))).ext E46).other W47 (Or.inr (slot_ne (Or.inr (own_hw 24 hw rfl)) (Or.inr (own_hw 44 hw rfl)) (by decide) (t := (.array .int)) (t' := (.array .int)) (by decide) (by decide)))).keep KC53 (ninS (own_ne (by omega)) nin0))
  have c58 := (c50.keep KC53 (ninS (own_ne (by omega)) nin0))
  have c59 := (((((((((((((((F19.ext E22).other W23 (Or.inr (slot_ne (Or.inr (own_hw 29 hw rfl)) (Or.inr (own_hw 32 hw rfl)) (by decide) (t := (.array .boolean)) (t' := (.array .long)) (by decide) (by decide)))).ext E26).other W27 (Or.inr (slot_ne (Or.inr (own_hw 29 hw rfl)) (Or.inr (own_hw 34 hw rfl)) (by decide) (t := (.array .boolean)) (t' := (.array .int)) (by decide) (by decide)))).ext E30).other W31 (Or.inr (slot_ne (Or.inr (own_hw 29 hw rfl)) (Or.inr (own_hw 36 hw rfl)) (by decide) (t := (.array .boolean)) (t' := (.array .int)) (by decide) (by decide)))).ext E34).other W35 (Or.inr (slot_ne (Or.inr (own_hw 29 hw rfl)) (Or.inr (own_hw 38 hw rfl)) (by decide) (t := (.array .boolean)) (t' := (.array .int)) (by decide) (by decide)))).ext E38).other W39 (Or.inr (slot_ne (Or.inr (own_hw 29 hw rfl)) (Or.inr (own_hw 40 hw rfl)) (by decide) (t := (.array .boolean)) (t' := (.array .long)) (by decide) (by decide)))).ext E42).other W43 (Or.inr (slot_ne (Or.inr (own_hw 29 hw rfl)) (Or.inr (own_hw 42 hw rfl)) (by decide) (t := (.array .boolean)) (t' := (.array .int)) (by decide) (by decide)))).ext E46).other W47 (Or.inr (slot_ne (Or.inr (own_hw 29 hw rfl)) (Or.inr (own_hw 44 hw rfl)) (by decide) (t := (.array .boolean)) (t' := (.array .int)) (by decide) (by decide)))).keep KC53 (ninS (own_ne (by omega)) nin0))
  have c60 := (((((((((((((F23.ext E26).other W27 (Or.inr (slot_ne (Or.inr (own_hw 32 hw rfl)) (Or.inr (own_hw 34 hw rfl)) (by decide) (t := (.array .long)) (t' := (.array .int)) (by decide) (by decide)))).ext E30).other W31 (Or.inr (slot_ne (Or.inr (own_hw 32 hw rfl)) (Or.inr (own_hw 36 hw rfl)) (by decide) (t := (.array .long)) (t' := (.array .int)) (by decide) (by decide)))).ext E34).other W35 (Or.inr (slot_ne (Or.inr (own_hw 32 hw rfl)) (Or.inr (own_hw 38 hw rfl)) (by decide) (t := (.array .long)) (t' := (.array .int)) (by decide) (by decide)))).ext E38).other W39 (Or.inr (slot_ne (Or.inr (own_hw 32 hw rfl)) (Or.inr (own_hw 40 hw rfl)) (by decide) (t := (.array .long)) (t' := (.array .long)) (by decide) (by decide)))).ext E42).other W43 (Or.inr (slot_ne (Or.inr (own_hw 32 hw rfl)) (Or.inr (own_hw 42 hw rfl)) (by decide) (t := (.array .long)) (t' := (.array .int)) (by decide) (by decide)))).ext E46).other W47 (Or.inr (slot_ne (Or.inr (own_hw 32 hw rfl)) (Or.inr (own_hw 44 hw rfl)) (by decide) (t := (.array .long)) (t' := (.array .int)) (by decide) (by decide)))).keep KC53 (ninS (own_ne (by omega)) nin0))
  have c61 := (((((((((((F27.ext E30).other W31 (Or.inr (slot_ne (Or.inr (own_hw 34 hw rfl)) (Or.inr (own_hw 36 hw rfl)) (by decide) (t := (.array .int)) (t' := (.array .int)) (by decide) (by decide)))).ext E34).other W35 (Or.inr (slot_ne (Or.inr (own_hw 34 hw rfl)) (Or.inr (own_hw 38 hw rfl)) (by decide) (t := (.array .int)) (t' := (.array .int)) (by decide) (by decide)))).ext E38).other W39 (Or.inr (slot_ne (Or.inr (own_hw 34 hw rfl)) (Or.inr (own_hw 40 hw rfl)) (by decide) (t := (.array .int)) (t' := (.array .long)) (by decide) (by decide)))).ext E42).other W43 (Or.inr (slot_ne (Or.inr (own_hw 34 hw rfl)) (Or.inr (own_hw 42 hw rfl)) (by decide) (t := (.array .int)) (t' := (.array .int)) (by decide) (by decide)))).ext E46).other W47 (Or.inr (slot_ne (Or.inr (own_hw 34 hw rfl)) (Or.inr (own_hw 44 hw rfl)) (by decide) (t := (.array .int)) (t' := (.array .int)) (by decide) (by decide)))).keep KC53 (ninS (own_ne (by omega)) nin0))
  have c62 := (((((((((F31.ext E34).other W35 (Or.inr (slot_ne (Or.inr (own_hw 36 hw rfl)) (Or.inr (own_hw 38 hw rfl)) (by decide) (t := (.array .int)) (t' := (.array .int)) (by decide) (by decide)))).ext E38).other W39 (Or.inr (slot_ne (Or.inr (own_hw 36 hw rfl)) (Or.inr (own_hw 40 hw rfl)) (by decide) (t := (.array .int)) (t' := (.array .long)) (by decide) (by decide)))).ext E42).other W43 (Or.inr (slot_ne (Or.inr (own_hw 36 hw rfl)) (Or.inr (own_hw 42 hw rfl)) (by decide) (t := (.array .int)) (t' := (.array .int)) (by decide) (by decide)))).ext E46).other W47 (Or.inr (slot_ne (Or.inr (own_hw 36 hw rfl)) (Or.inr (own_hw 44 hw rfl)) (by decide) (t := (.array .int)) (t' := (.array .int)) (by decide) (by decide)))).keep KC53 (ninS (own_ne (by omega)) nin0))
  have c63 := (((((((F35.ext E38).other W39 (Or.inr (slot_ne (Or.inr (own_hw 38 hw rfl)) (Or.inr (own_hw 40 hw rfl)) (by decide) (t := (.array .int)) (t' := (.array .long)) (by decide) (by decide)))).ext E42).other W43 (Or.inr (slot_ne (Or.inr (own_hw 38 hw rfl)) (Or.inr (own_hw 42 hw rfl)) (by decide) (t := (.array .int)) (t' := (.array .int)) (by decide) (by decide)))).ext E46).other W47 (Or.inr (slot_ne (Or.inr (own_hw 38 hw rfl)) (Or.inr (own_hw 44 hw rfl)) (by decide) (t := (.array .int)) (t' := (.array .int)) (by decide) (by decide)))).keep KC53 (ninS (own_ne (by omega)) nin0))
  have c64 := (((((F39.ext E42).other W43 (Or.inr (slot_ne (Or.inr (own_hw 40 hw rfl)) (Or.inr (own_hw 42 hw rfl)) (by decide) (t := (.array .long)) (t' := (.array .int)) (by decide) (by decide)))).ext E46).other W47 (Or.inr (slot_ne (Or.inr (own_hw 40 hw rfl)) (Or.inr (own_hw 44 hw rfl)) (by decide) (t := (.array .long)) (t' := (.array .int)) (by decide) (by decide)))).keep KC53 (ninS (own_ne (by omega)) nin0))
  have c65 := (((F43.ext E46).other W47 (Or.inr (slot_ne (Or.inr (own_hw 42 hw rfl)) (Or.inr (own_hw 44 hw rfl)) (by decide) (t := (.array .int)) (t' := (.array .int)) (by decide) (by decide)))).keep KC53 (ninS (own_ne (by omega)) nin0))
  have c66 := (F47.keep KC53 (ninS (own_ne (by omega)) nin0))
  have c67 := (((((((((((((((((((((((((F_searches.ext E2).other W3 (Or.inr (slot_ne (Or.inl (own_hw 63 hw rfl)) (Or.inr (own_hw 20 hw rfl)) (by decide) (t := .long) (t' := (.array (.array .int))) (by decide) (by decide)))).ext E6).other W7 (Or.inr (slot_ne (Or.inl (own_hw 63 hw rfl)) (Or.inr (own_hw 22 hw rfl)) (by decide) (t := .long) (t' := (.array .int)) (by decide) (by decide)))).ext E10).other W11 (Or.inr (slot_ne (Or.inl (own_hw 63 hw rfl)) (Or.inr (own_hw 24 hw rfl)) (by decide) (t := .long) (t' := (.array .int)) (by decide) (by decide)))).ext E14).other W15 (Or.inr (slot_ne (Or.inl (own_hw 63 hw rfl)) (Or.inr (own_hw 26 hw rfl)) (by decide) (t := .long) (t' := (.array .int)) (by decide) (by decide)))).ext E18).other W19 (Or.inr (slot_ne (Or.inl (own_hw 63 hw rfl)) (Or.inr (own_hw 29 hw rfl)) (by decide) (t := .long) (t' := (.array .boolean)) (by decide) (by decide)))).ext E22).other W23 (Or.inr (slot_ne (Or.inl (own_hw 63 hw rfl)) (Or.inr (own_hw 32 hw rfl)) (by decide) (t := .long) (t' := (.array .long)) (by decide) (by decide)))).ext E26).other W27 (Or.inr (slot_ne (Or.inl (own_hw 63 hw rfl)) (Or.inr (own_hw 34 hw rfl)) (by decide) (t := .long) (t' := (.array .int)) (by decide) (by decide)))).ext E30).other W31 (Or.inr (slot_ne (Or.inl (own_hw 63 hw rfl)) (Or.inr (own_hw 36 hw rfl)) (by decide) (t := .long) (t' := (.array .int)) (by decide) (by decide)))).ext E34).other W35 (Or.inr (slot_ne (Or.inl (own_hw 63 hw rfl)) (Or.inr (own_hw 38 hw rfl)) (by decide) (t := .long) (t' := (.array .int)) (by decide) (by decide)))).ext E38).other W39 (Or.inr (slot_ne (Or.inl (own_hw 63 hw rfl)) (Or.inr (own_hw 40 hw rfl)) (by decide) (t := .long) (t' := (.array .long)) (by decide) (by decide)))).ext E42).other W43 (Or.inr (slot_ne (Or.inl (own_hw 63 hw rfl)) (Or.inr (own_hw 42 hw rfl)) (by decide) (t := .long) (t' := (.array .int)) (by decide) (by decide)))).ext E46).other W47 (Or.inr (slot_ne (Or.inl (own_hw 63 hw rfl)) (Or.inr (own_hw 44 hw rfl)) (by decide) (t := .long) (t' := (.array .int)) (by decide) (by decide)))).keep KC53 (ninS (own_ne (by omega)) nin0))
  have c68 := (((((((((((((((((((((((((F_rows.ext E2).other W3 (Or.inr (slot_ne (Or.inl (own_hw 55 hw rfl)) (Or.inr (own_hw 20 hw rfl)) (by decide) (t := .int) (t' := (.array (.array .int))) (by decide) (by decide)))).ext E6).other W7 (Or.inr (slot_ne (Or.inl (own_hw 55 hw rfl)) (Or.inr (own_hw 22 hw rfl)) (by decide) (t := .int) (t' := (.array .int)) (by decide) (by decide)))).ext E10).other W11 (Or.inr (slot_ne (Or.inl (own_hw 55 hw rfl)) (Or.inr (own_hw 24 hw rfl)) (by decide) (t := .int) (t' := (.array .int)) (by decide) (by decide)))).ext E14).other W15 (Or.inr (slot_ne (Or.inl (own_hw 55 hw rfl)) (Or.inr (own_hw 26 hw rfl)) (by decide) (t := .int) (t' := (.array .int)) (by decide) (by decide)))).ext E18).other W19 (Or.inr (slot_ne (Or.inl (own_hw 55 hw rfl)) (Or.inr (own_hw 29 hw rfl)) (by decide) (t := .int) (t' := (.array .boolean)) (by decide) (by decide)))).ext E22).other W23 (Or.inr (slot_ne (Or.inl (own_hw 55 hw rfl)) (Or.inr (own_hw 32 hw rfl)) (by decide) (t := .int) (t' := (.array .long)) (by decide) (by decide)))).ext E26).other W27 (Or.inr (slot_ne (Or.inl (own_hw 55 hw rfl)) (Or.inr (own_hw 34 hw rfl)) (by decide) (t := .int) (t' := (.array .int)) (by decide) (by decide)))).ext E30).other W31 (Or.inr (slot_ne (Or.inl (own_hw 55 hw rfl)) (Or.inr (own_hw 36 hw rfl)) (by decide) (t := .int) (t' := (.array .int)) (by decide) (by decide)))).ext E34).other W35 (Or.inr (slot_ne (Or.inl (own_hw 55 hw rfl)) (Or.inr (own_hw 38 hw rfl)) (by decide) (t := .int) (t' := (.array .int)) (by decide) (by decide)))).ext E38).other W39 (Or.inr (slot_ne (Or.inl (own_hw 55 hw rfl)) (Or.inr (own_hw 40 hw rfl)) (by decide) (t := .int) (t' := (.array .long)) (by decide) (by decide)))).ext E42).other W43 (Or.inr (slot_ne (Or.inl (own_hw 55 hw rfl)) (Or.inr (own_hw 42 hw rfl)) (by decide) (t := .int) (t' := (.array .int)) (by decide) (by decide)))).ext E46).other W47 (Or.inr (slot_ne (Or.inl (own_hw 55 hw rfl)) (Or.inr (own_hw 44 hw rfl)) (by decide) (t := .int) (t' := (.array .int)) (by decide) (by decide)))).keep KC53 (ninS (own_ne (by omega)) nin0))
  have c69 := ((((((((((((((((((((((((V2.other W3 (own_ne (by omega))).ext E6).other W7 (own_ne (by omega))).ext E10).other W11 (own_ne (by omega))).ext E14).other W15 (own_ne (by omega))).ext E18).other W19 (own_ne (by omega))).ext E22).other W23 (own_ne (by omega))).ext E26).other W27 (own_ne (by omega))).ext E30).other W31 (own_ne (by omega))).ext E34).other W35 (own_ne (by omega))).ext E38).other W39 (own_ne (by omega))).ext E42).other W43 (own_ne (by omega))).ext E46).other W47 (own_ne (by omega))).keep KC53 (ninS (own_ne (by omega)) nin0))
  have c70 := ((((((((((((((((((((((V6.other W7 (own_ne (by omega))).ext E10).other W11 (own_ne (by omega))).ext E14).other W15 (own_ne (by omega))).ext E18).other W19 (own_ne (by omega))).ext E22).other W23 (own_ne (by omega))).ext E26).other W27 (own_ne (by omega))).ext E30).other W31 (own_ne (by omega))).ext E34).other W35 (own_ne (by omega))).ext E38).other W39 (own_ne (by omega))).ext E42).other W43 (own_ne (by omega))).ext E46).other W47 (own_ne (by omega))).keep KC53 (ninS (own_ne (by omega)) nin0))
  have c71 := ((((((((((((((((((((V10.other W11 (own_ne (by omega))).ext E14).other W15 (own_ne (by omega))).ext E18).other W19 (own_ne (by omega))).ext E22).other W23 (own_ne (by omega))).ext E26).other W27 (own_ne (by omega))).ext E30).other W31 (own_ne (by omega))).ext E34).other W35 (own_ne (by omega))).ext E38).other W39 (own_ne (by omega))).ext E42).other W43 (own_ne (by omega))).ext E46).other W47 (own_ne (by omega))).keep KC53 (ninS (own_ne (by omega)) nin0))
  have c72 := ((((((((((((((((V18.other W19 (own_ne (by omega))).ext E22).other W23 (own_ne (by omega))).ext E26).other W27 (own_ne (by omega))).ext E30).other W31 (own_ne (by omega))).ext E34).other W35 (own_ne (by omega))).ext E38).other W39 (own_ne (by omega))).ext E42).other W43 (own_ne (by omega))).ext E46).other W47 (own_ne (by omega))).keep KC53 (ninS (own_ne (by omega)) nin0))
  have c73 := ((((((((((((((V22.other W23 (own_ne (by omega))).ext E26).other W27 (own_ne (by omega))).ext E30).other W31 (own_ne (by omega))).ext E34).other W35 (own_ne (by omega))).ext E38).other W39 (own_ne (by omega))).ext E42).other W43 (own_ne (by omega))).ext E46).other W47 (own_ne (by omega))).keep KC53 (ninS (own_ne (by omega)) nin0))
  have c74 := ((((((((((((V26.other W27 (own_ne (by omega))).ext E30).other W31 (own_ne (by omega))).ext E34).other W35 (own_ne (by omega))).ext E38).other W39 (own_ne (by omega))).ext E42).other W43 (own_ne (by omega))).ext E46).other W47 (own_ne (by omega))).keep KC53 (ninS (own_ne (by omega)) nin0))
  have c75 := ((((((((((V30.other W31 (own_ne (by omega))).ext E34).other W35 (own_ne (by omega))).ext E38).other W39 (own_ne (by omega))).ext E42).other W43 (own_ne (by omega))).ext E46).other W47 (own_ne (by omega))).keep KC53 (ninS (own_ne (by omega)) nin0))
  have c76 := ((((((((V34.other W35 (own_ne (by omega))).ext E38).other W39 (own_ne (by omega))).ext E42).other W43 (own_ne (by omega))).ext E46).other W47 (own_ne (by omega))).keep KC53 (ninS (own_ne (by omega)) nin0))
  have c77 := ((((((V38.other W39 (own_ne (by omega))).ext E42).other W43 (own_ne (by omega))).ext E46).other W47 (own_ne (by omega))).keep KC53 (ninS (own_ne (by omega)) nin0))
  have c78 := ((((V42.other W43 (own_ne (by omega))).ext E46).other W47 (own_ne (by omega))).keep KC53 (ninS (own_ne (by omega)) nin0))
  have c79 := ((V46.other W47 (own_ne (by omega))).keep KC53 (ninS (own_ne (by omega)) nin0))
  have own_o0 : ua < b2 := by omega
  have own_o1 : b2 < b6 := by omega
  have own_o2 : b6 < b10 := by omega
  have own_o3 : b10 < b14 := by omega
  have own_o4 : b14 < b18 := by omega
  have own_o5 : b18 < b22 := by omega
  have own_o6 : b22 < b26 := by omega
  have own_o7 : b26 < b30 := by omega
  have own_o8 : b30 < b34 := by omega
  have own_o9 : b34 < b38 := by omega
  have own_o10 : b38 < b42 := by omega
  have own_o11 : b42 < b46 := by omega
  exact own_retV X53 hx hrt hlk (hb hby d3_97) (by decide) (by decide) (by show own_QCt Z ua CA CK CL n0 _ T53.heap _; rw [e53]; exact ⟨(own_lst [ua, b2, b6, b10, b14, b18, b22, b26, b30, b34, b38, b42, b46]), (own_lst [0, ka2, ka6, ka10, ka14, ka18, ka22, ka26, ka30, ka34, ka38, ka42, ka46]), rfl, N53, rfl, gn_ua, own_o0, own_o1, own_o2, own_o3, own_o4, own_o5, own_o6, own_o7, own_o8, own_o9, own_o10, own_o11, c54, c55, c56, c57, c58, c59, c60, c61, c62, c63, c64, c65, c66, c67, c68, ⟨c69, rfl, Ov2⟩, ⟨c70, rfl⟩, ⟨c71, rfl⟩, ⟨VC53, rfl⟩, ⟨c72, rfl⟩, ⟨c73, rfl⟩, ⟨c74, rfl⟩, ⟨c75, rfl⟩, ⟨c76, rfl⟩, ⟨c77, rfl⟩, ⟨c78, rfl⟩, ⟨c79, rfl⟩, fun i L hi => by obtain ⟨x1, x2, x3⟩ := cc i L hi; exact ⟨⟨x1.1.keep K53 (ninS (Nat.ne_of_lt x3) nin0), x1.2⟩, x2.keep K53, x3⟩⟩)

def own_cols (ux : Int32) : List Int32 := (if ux &&& (1 : Int32) = 0 then [] else [0]) ++ (if ux &&& (2 : Int32) = 0 then [] else [1]) ++ (if ux &&& (4 : Int32) = 0 then [] else [2]) ++ (if ux &&& (8 : Int32) = 0 then [] else [3])

def own_QCo (Z : State) (ux : Int32) (h0 : Heap) (n0 : Nat) (v : Option Value) (h : Heap) (L : List Loc) : Prop := ∃ (b : Nat) (k : ClassId), v = some (.ref b) ∧ Fr n0 L ∧ Keep h0 h [] ∧ h0.size ≤ b ∧ own_IA Z h b k .int (Int32.ofNat (own_cols ux).length) (own_cols ux) ∧ Exa Z h b "[I"

theorem d1_0 : decode method_2_code 0 = .ok (.iload_n 0, 1) := by decide +kernel
theorem d1_1 : decode method_2_code 1 = .ok (.invokestatic 7, 3) := by decide +kernel
theorem d1_4 : decode method_2_code 4 = .ok (.istore_n 1, 1) := by decide +kernel
theorem d1_5 : decode method_2_code 5 = .ok (.iload_n 1, 1) := by decide +kernel
theorem d1_6 : decode method_2_code 6 = .ok (.newarray .int, 2) := by decide +kernel
theorem d1_8 : decode method_2_code 8 = .ok (.astore_n 2, 1) := by decide +kernel
theorem d1_9 : decode method_2_code 9 = .ok (.iconst 0, 1) := by decide +kernel
theorem d1_10 : decode method_2_code 10 = .ok (.istore_n 3, 1) := by decide +kernel
theorem d1_11 : decode method_2_code 11 = .ok (.iload_n 0, 1) := by decide +kernel
theorem d1_12 : decode method_2_code 12 = .ok (.iconst 1, 1) := by decide +kernel
theorem d1_13 : decode method_2_code 13 = .ok (.iand, 1) := by decide +kernel
theorem d1_14 : decode method_2_code 14 = .ok (.ifCond .eq 10, 3) := by decide +kernel
theorem d1_17 : decode method_2_code 17 = .ok (.aload_n 2, 1) := by decide +kernel
theorem d1_18 : decode method_2_code 18 = .ok (.iload_n 3, 1) := by decide +kernel
theorem d1_19 : decode method_2_code 19 = .ok (.iconst 0, 1) := by decide +kernel
theorem d1_20 : decode method_2_code 20 = .ok (.iastore, 1) := by decide +kernel
theorem d1_21 : decode method_2_code 21 = .ok (.iinc 3 1, 3) := by decide +kernel
theorem d1_24 : decode method_2_code 24 = .ok (.iload_n 0, 1) := by decide +kernel
theorem d1_25 : decode method_2_code 25 = .ok (.iconst 2, 1) := by decide +kernel
theorem d1_26 : decode method_2_code 26 = .ok (.iand, 1) := by decide +kernel
theorem d1_27 : decode method_2_code 27 = .ok (.ifCond .eq 10, 3) := by decide +kernel
theorem d1_30 : decode method_2_code 30 = .ok (.aload_n 2, 1) := by decide +kernel
theorem d1_31 : decode method_2_code 31 = .ok (.iload_n 3, 1) := by decide +kernel
theorem d1_32 : decode method_2_code 32 = .ok (.iconst 1, 1) := by decide +kernel
theorem d1_33 : decode method_2_code 33 = .ok (.iastore, 1) := by decide +kernel
theorem d1_34 : decode method_2_code 34 = .ok (.iinc 3 1, 3) := by decide +kernel
theorem d1_37 : decode method_2_code 37 = .ok (.iload_n 0, 1) := by decide +kernel
theorem d1_38 : decode method_2_code 38 = .ok (.iconst 4, 1) := by decide +kernel
theorem d1_39 : decode method_2_code 39 = .ok (.iand, 1) := by decide +kernel
theorem d1_40 : decode method_2_code 40 = .ok (.ifCond .eq 10, 3) := by decide +kernel
theorem d1_43 : decode method_2_code 43 = .ok (.aload_n 2, 1) := by decide +kernel
theorem d1_44 : decode method_2_code 44 = .ok (.iload_n 3, 1) := by decide +kernel
theorem d1_45 : decode method_2_code 45 = .ok (.iconst 2, 1) := by decide +kernel
theorem d1_46 : decode method_2_code 46 = .ok (.iastore, 1) := by decide +kernel
theorem d1_47 : decode method_2_code 47 = .ok (.iinc 3 1, 3) := by decide +kernel
theorem d1_50 : decode method_2_code 50 = .ok (.iload_n 0, 1) := by decide +kernel
theorem d1_51 : decode method_2_code 51 = .ok (.bipush 8, 2) := by decide +kernel
theorem d1_53 : decode method_2_code 53 = .ok (.iand, 1) := by decide +kernel
theorem d1_54 : decode method_2_code 54 = .ok (.ifCond .eq 10, 3) := by decide +kernel
theorem d1_57 : decode method_2_code 57 = .ok (.aload_n 2, 1) := by decide +kernel
theorem d1_58 : decode method_2_code 58 = .ok (.iload_n 3, 1) := by decide +kernel
theorem d1_59 : decode method_2_code 59 = .ok (.iconst 3, 1) := by decide +kernel
theorem d1_60 : decode method_2_code 60 = .ok (.iastore, 1) := by decide +kernel
theorem d1_61 : decode method_2_code 61 = .ok (.iinc 3 1, 3) := by decide +kernel
theorem d1_64 : decode method_2_code 64 = .ok (.aload_n 2, 1) := by decide +kernel
theorem d1_65 : decode method_2_code 65 = .ok (.areturn, 1) := by decide +kernel
theorem pd_1__I_I : parseMethodDescriptor "(I)I" = some ⟨[.int], some .int⟩ := by decide +kernel
theorem pn_rmCo : plainFor (⟨"com/example/document_pattern_rules/documentpatternrules/pattern/PairingAddPinLaw", "cols", "(I)[I"⟩ : MethodName) = true := by first | exact plainFor_of_name (by first | (simp [plainName, overriddenIn]; done) | decide +kernel) | exact Jvm.Free.JP.mathPlain rfl (by decide +kernel) | decide +kernel
theorem ef_rmCo (m : MethodId) (x0 : Int32) : entryFrame m #[(.int x0)] 4 = mkF m 0 #[VI x0, UU, UU, UU] [] := by first | (simp [entryFrame, mkF, argsToLocals, Value.category]; done) | rfl
set_option maxRecDepth 65536 in
set_option maxHeartbeats 40000000 in
theorem rmCo (l : Launch) (Z : State) (a0 : Array Value) (hw : ∀ d ∈ tables_1, d.before a0 Z = true) (ws : List Jvm.Cond) (ux : Int32) (h0 : Heap) (n0 : Nat) (Z0 : n0 ≤ h0.size) (O0 : Old Z n0 h0) (hux : ux = (0 : Int32) ∨ ux = (1 : Int32) ∨ ux = (2 : Int32) ∨ ux = (3 : Int32) ∨ ux = (4 : Int32) ∨ ux = (5 : Int32) ∨ ux = (6 : Int32) ∨ ux = (7 : Int32) ∨ ux = (8 : Int32) ∨ ux = (9 : Int32) ∨ ux = (10 : Int32) ∨ ux = (11 : Int32) ∨ ux = (12 : Int32) ∨ ux = (13 : Int32) ∨ ux = (14 : Int32) ∨ ux = (15 : Int32)) :
    MetFree l (⟨"com/example/document_pattern_rules/documentpatternrules/pattern/PairingAddPinLaw", "cols", "(I)[I"⟩ : MethodName) (head1 (Jvm.Cond.code (⟨"com/example/document_pattern_rules/documentpatternrules/pattern/PairingAddPinLaw", "cols", "(I)[I"⟩ : MethodName) method_2_code 4 (some (.array .int)) :: ws) ({ frames := 1, cells := 1, slots := 4, locals := 12 } : Room)) (fun a U => a = #[(.int ux)] ∧ Z.Warmed39 U.vm ∧ U.heap = h0) (fun _ _ _ _ _ => True) (fun _ U o U' => ∃ v L, o = .returned v ∧ (own_QCo Z ux h0 n0) v U'.heap L ∧ FrameEnd U o U' L 1 4) := by
  refine MetFree.of_bodySF pn_rmCo hisR ?_
  intro p e s m args below meth c s₁ Bd hml0 hP hK
  obtain ⟨rfl, hZ, hh⟩ := hP
  have hx := Bd.exec
  have hby := Bd.bytes
  have hml : c.maxLocals = 4 := hml0
  have hown : s.vm.findClass "com/example/document_pattern_rules/documentpatternrules/pattern/PairingAddPinLaw" = some m.cls := findClass_of_methodNamed Bd.named
  have hnm := (name_of_methodNamed Bd.named Bd.method).1
  have hrt := Bd.returns
  have hlk := Bd.notSynchronized
  have X0 : Stand p l e ({ frames := 1, cells := 1, slots := 4, locals := 12 } : Room) s m #[(.int ux)] below meth c s₁ [] 0 0 := Stand.of_body Bd
  have e0 : s₁.heap = h0 := by rw [← hh, Bd.state]; rfl
  have N0 := Fr.nil n0
  have K0 := Keep.refl h0 []
  refine own_done (B := s₁.setTop (mkF m 0 #[VI ux, UU, UU, UU] [])) (fun t k => castTop (ef_rmCo m ux) k) ?_
  rcases hux with rfl | rfl | rfl | rfl | rfl | rfl | rfl | rfl | rfl | rfl | rfl | rfl | rfl | rfl | rfl | rfl
  · refine own_by (B := s₁.setTop (mkF m 1 #[VI 0, UU, UU, UU] [(.int 0)])) (fun _ k => XS.iloadN X0.here hx rfl (hb hby d1_0) rfl  k) ?_
    obtain ⟨_, _, ⟨T1, L1, k1, n1⟩, -, X1, ⟨Lc1, hQ1, l1, y1, z1⟩, st1⟩ := Jvm.LawKit.callS X0 hx (y := (⟨"com/example/document_pattern_rules/documentpatternrules/pattern/PairingAddPinLaw", "pc", "(I)I"⟩ : MethodName)) hown (mvT hZ (own_hw 4 hw rfl)) (mvT hZ (own_hw 5 hw rfl)) (mvT hZ (own_hw 2 hw rfl)) (mvT hZ (own_hw 6 hw rfl)) (by decide) (backOf (W := 0) (rm2 l Z a0 hw [] (0 : Int32) h0 n0 (own_old_le O0)) hZ (own_hw 6 hw rfl) (own_hw 2 hw rfl) (by decide) (by decide)) (g := (mkF m 1 #[VI 0, UU, UU, UU] [(.int 0)])) rfl (by rw [hml]; rfl) (argsL := [(.int 0)]) (rest := []) (lenOf pd_1__I_I rfl) rfl (by show 2 * 0 + _ ≤ _; exact Nat.le_of_eq rfl) (hb hby d1_1) (fun _ _ => ⟨rfl, e0, (by decide : 0 + 0 ≤ _), (by decide : 0 + 0 ≤ _)⟩)
    dsimp only [Pt.U, Pt.locs, Pt.cells, Pt.slots] at X1 l1 y1 z1 st1 hQ1
    subst l1 y1 z1
    obtain ⟨rfl, N1, e1⟩ := hQ1
    refine own_by (B := T1.setTop (mkF m 4 #[VI 0, UU, UU, UU] [(.int (own_pc (0 : Int32)))])) st1 ?_
    have M1 := Fr.app N0 N1
    rw [show (own_pc (0 : Int32)) = (0 : Int32) from by decide +kernel]
    refine own_by (B := T1.setTop (mkF m 5 #[VI 0, VI 0, UU, UU] [])) (fun _ k => XS.istoreN X1.here hx rfl (hb hby d1_4) rfl (l' := #[VI 0, VI 0, UU, UU]) rfl k) ?_
    refine own_by (B := T1.setTop (mkF m 6 #[VI 0, VI 0, UU, UU] [(.int 0)])) (fun _ k => XS.iloadN X1.here hx rfl (hb hby d1_5) rfl  k) ?_
    obtain ⟨T2, h2, ka2, X2, e2, E2, A2, EA2, st2⟩ := newPE X1 hx hZ (own_hw 7 hw rfl) e1 (g := (mkF m 6 #[VI 0, VI 0, UU, UU] [(.int 0)])) rfl (hb hby d1_6) rfl (by decide) (cap := 0) (by decide) (by decide) (by decide) (by decide) (ad := "[I") (by decide)
    obtain ⟨b2, g2⟩ : ∃ z, z = h0.size := ⟨_, rfl⟩
    rw [← g2] at A2 EA2 st2
    have sz2 := E2.1
    have gn2 : n0 ≤ b2 := g2 ▸ own_old_le O0
    have fz2 : h0.size ≤ b2 := g2 ▸ K0.1
    have lt2 := own_lt A2.lt
    have O2 := O0.ext E2
    have K2 := K0.ext E2
    have V2 : Arv Z h2 b2 ka2 .int 0 [] (.int 0) := (Arv.new A2 (by decide)).pad (pad_rep [] (.int 0) 0)
    refine own_by (B := T2.setTop (mkF m 8 #[VI 0, VI 0, UU, UU] [(.ref b2)])) st2 ?_
    refine own_by (B := T2.setTop (mkF m 9 #[VI 0, VI 0, VR b2, UU] [])) (fun _ k => XS.astoreN X2.here hx rfl (hb hby d1_8) rfl rfl (l' := #[VI 0, VI 0, VR b2, UU]) rfl k) ?_
    refine own_by (B := T2.setTop (mkF m 10 #[VI 0, VI 0, VR b2, UU] [(.int 0)])) (fun _ k => XS.iconst X2.here hx rfl (hb hby d1_9) k) ?_
    refine own_by (B := T2.setTop (mkF m 11 #[VI 0, VI 0, VR b2, VI 0] [])) (fun _ k => XS.istoreN X2.here hx rfl (hb hby d1_10) rfl (l' := #[VI 0, VI 0, VR b2, VI 0]) rfl k) ?_
    refine own_by (B := T2.setTop (mkF m 12 #[VI 0, VI 0, VR b2, VI 0] [(.int 0)])) (fun _ k => XS.iloadN X2.here hx rfl (hb hby d1_11) rfl  k) ?_
    refine own_by (B := T2.setTop (mkF m 13 #[VI 0, VI 0, VR b2, VI 0] [(.int 1), (.int 0)])) (fun _ k => XS.iconst X2.here hx rfl (hb hby d1_12) k) ?_
    refine own_by (B := T2.setTop (mkF m 14 #[VI 0, VI 0, VR b2, VI 0] [(.int ((0 : Int32) &&& (1 : Int32)))])) (fun _ k => XS.iand X2.here hx rfl (hb hby d1_13) rfl k) ?_
    refine own_by (B := T2.setTop (mkF m 24 #[VI 0, VI 0, VR b2, VI 0] [])) (fun _ k => XS.ifYes X2.here hx rfl (pc0 := 14) (pc' := 24) rfl (hb hby d1_14) rfl (XT.i0_eq_t (by decide)) (by decide) (by decide) k) ?_
    refine own_by (B := T2.setTop (mkF m 25 #[VI 0, VI 0, VR b2, VI 0] [(.int 0)])) (fun _ k => XS.iloadN X2.here hx rfl (hb hby d1_24) rfl  k) ?_
    refine own_by (B := T2.setTop (mkF m 26 #[VI 0, VI 0, VR b2, VI 0] [(.int 2), (.int 0)])) (fun _ k => XS.iconst X2.here hx rfl (hb hby d1_25) k) ?_
    refine own_by (B := T2.setTop (mkF m 27 #[VI 0, VI 0, VR b2, VI 0] [(.int ((0 : Int32) &&& (2 : Int32)))])) (fun _ k => XS.iand X2.here hx rfl (hb hby d1_26) rfl k) ?_
    refine own_by (B := T2.setTop (mkF m 37 #[VI 0, VI 0, VR b2, VI 0] [])) (fun _ k => XS.ifYes X2.here hx rfl (pc0 := 27) (pc' := 37) rfl (hb hby d1_27) rfl (XT.i0_eq_t (by decide)) (by decide) (by decide) k) ?_
    refine own_by (B := T2.setTop (mkF m 38 #[VI 0, VI 0, VR b2, VI 0] [(.int 0)])) (fun _ k => XS.iloadN X2.here hx rfl (hb hby d1_37) rfl  k) ?_
    refine own_by (B := T2.setTop (mkF m 39 #[VI 0, VI 0, VR b2, VI 0] [(.int 4), (.int 0)])) (fun _ k => XS.iconst X2.here hx rfl (hb hby d1_38) k) ?_
    refine own_by (B := T2.setTop (mkF m 40 #[VI 0, VI 0, VR b2, VI 0] [(.int ((0 : Int32) &&& (4 : Int32)))])) (fun _ k => XS.iand X2.here hx rfl (hb hby d1_39) rfl k) ?_
    refine own_by (B := T2.setTop (mkF m 50 #[VI 0, VI 0, VR b2, VI 0] [])) (fun _ k => XS.ifYes X2.here hx rfl (pc0 := 40) (pc' := 50) rfl (hb hby d1_40) rfl (XT.i0_eq_t (by decide)) (by decide) (by decide) k) ?_
    refine own_by (B := T2.setTop (mkF m 51 #[VI 0, VI 0, VR b2, VI 0] [(.int 0)])) (fun _ k => XS.iloadN X2.here hx rfl (hb hby d1_50) rfl  k) ?_
    refine own_by (B := T2.setTop (mkF m 53 #[VI 0, VI 0, VR b2, VI 0] [(.int 8), (.int 0)])) (fun _ k => XS.bipush X2.here hx rfl (hb hby d1_51) k) ?_
    refine own_by (B := T2.setTop (mkF m 54 #[VI 0, VI 0, VR b2, VI 0] [(.int ((0 : Int32) &&& (8 : Int32)))])) (fun _ k => XS.iand X2.here hx rfl (hb hby d1_53) rfl k) ?_
    refine own_by (B := T2.setTop (mkF m 64 #[VI 0, VI 0, VR b2, VI 0] [])) (fun _ k => XS.ifYes X2.here hx rfl (pc0 := 54) (pc' := 64) rfl (hb hby d1_54) rfl (XT.i0_eq_t (by decide)) (by decide) (by decide) k) ?_
    refine own_by (B := T2.setTop (mkF m 65 #[VI 0, VI 0, VR b2, VI 0] [(.ref b2)])) (fun _ k => XS.aloadN X2.here hx rfl (hb hby d1_64) rfl rfl  k) ?_
    have hl : own_cols (0 : Int32) = [] := by decide +kernel
    exact own_retA X2 hx hrt rfl rfl hlk (hb hby d1_65) (by decide) (by decide) (by show own_QCo Z (0 : Int32) h0 n0 _ T2.heap _; rw [e2]; exact ⟨_, _, rfl, M1, K2, fz2, by rw [hl]; exact ⟨V2, rfl⟩, EA2⟩)
  · refine own_by (B := s₁.setTop (mkF m 1 #[VI 1, UU, UU, UU] [(.int 1)])) (fun _ k => XS.iloadN X0.here hx rfl (hb hby d1_0) rfl  k) ?_
    obtain ⟨_, _, ⟨T3, L3, k3, n3⟩, -, X3, ⟨Lc3, hQ3, l3, y3, z3⟩, st3⟩ := Jvm.LawKit.callS X0 hx (y := (⟨"com/example/document_pattern_rules/documentpatternrules/pattern/PairingAddPinLaw", "pc", "(I)I"⟩ : MethodName)) hown (mvT hZ (own_hw 4 hw rfl)) (mvT hZ (own_hw 5 hw rfl)) (mvT hZ (own_hw 2 hw rfl)) (mvT hZ (own_hw 6 hw rfl)) (by decide) (backOf (W := 0) (rm2 l Z a0 hw [] (1 : Int32) h0 n0 (own_old_le O0)) hZ (own_hw 6 hw rfl) (own_hw 2 hw rfl) (by decide) (by decide)) (g := (mkF m 1 #[VI 1, UU, UU, UU] [(.int 1)])) rfl (by rw [hml]; rfl) (argsL := [(.int 1)]) (rest := []) (lenOf pd_1__I_I rfl) rfl (by show 2 * 0 + _ ≤ _; exact Nat.le_of_eq rfl) (hb hby d1_1) (fun _ _ => ⟨rfl, e0, (by decide : 0 + 0 ≤ _), (by decide : 0 + 0 ≤ _)⟩)
    dsimp only [Pt.U, Pt.locs, Pt.cells, Pt.slots] at X3 l3 y3 z3 st3 hQ3
    subst l3 y3 z3
    obtain ⟨rfl, N3, e3⟩ := hQ3
    refine own_by (B := T3.setTop (mkF m 4 #[VI 1, UU, UU, UU] [(.int (own_pc (1 : Int32)))])) st3 ?_
    have M3 := Fr.app N0 N3
    rw [show (own_pc (1 : Int32)) = (1 : Int32) from by decide +kernel]
    refine own_by (B := T3.setTop (mkF m 5 #[VI 1, VI 1, UU, UU] [])) (fun _ k => XS.istoreN X3.here hx rfl (hb hby d1_4) rfl (l' := #[VI 1, VI 1, UU, UU]) rfl k) ?_
    refine own_by (B := T3.setTop (mkF m 6 #[VI 1, VI 1, UU, UU] [(.int 1)])) (fun _ k => XS.iloadN X3.here hx rfl (hb hby d1_5) rfl  k) ?_
    obtain ⟨T4, h4, ka4, X4, e4, E4, A4, EA4, st4⟩ := newPE X3 hx hZ (own_hw 7 hw rfl) e3 (g := (mkF m 6 #[VI 1, VI 1, UU, UU] [(.int 1)])) rfl (hb hby d1_6) rfl (by decide) (cap := 1) (by decide) (by decide) (by decide) (by decide) (ad := "[I") (by decide)
    obtain ⟨b4, g4⟩ : ∃ z, z = h0.size := ⟨_, rfl⟩
    rw [← g4] at A4 EA4 st4
    have sz4 := E4.1
    have gn4 : n0 ≤ b4 := g4 ▸ own_old_le O0
    have fz4 : h0.size ≤ b4 := g4 ▸ K0.1
    have lt4 := own_lt A4.lt
    have O4 := O0.ext E4
    have K4 := K0.ext E4
    have V4 : Arv Z h4 b4 ka4 .int 1 [(.int 0)] (.int 0) := (Arv.new A4 (by decide)).pad (pad_rep [] (.int 0) 1)
    refine own_by (B := T4.setTop (mkF m 8 #[VI 1, VI 1, UU, UU] [(.ref b4)])) st4 ?_
    refine own_by (B := T4.setTop (mkF m 9 #[VI 1, VI 1, VR b4, UU] [])) (fun _ k => XS.astoreN X4.here hx rfl (hb hby d1_8) rfl rfl (l' := #[VI 1, VI 1, VR b4, UU]) rfl k) ?_
    refine own_by (B := T4.setTop (mkF m 10 #[VI 1, VI 1, VR b4, UU] [(.int 0)])) (fun _ k => XS.iconst X4.here hx rfl (hb hby d1_9) k) ?_
    refine own_by (B := T4.setTop (mkF m 11 #[VI 1, VI 1, VR b4, VI 0] [])) (fun _ k => XS.istoreN X4.here hx rfl (hb hby d1_10) rfl (l' := #[VI 1, VI 1, VR b4, VI 0]) rfl k) ?_
    refine own_by (B := T4.setTop (mkF m 12 #[VI 1, VI 1, VR b4, VI 0] [(.int 1)])) (fun _ k => XS.iloadN X4.here hx rfl (hb hby d1_11) rfl  k) ?_
    refine own_by (B := T4.setTop (mkF m 13 #[VI 1, VI 1, VR b4, VI 0] [(.int 1), (.int 1)])) (fun _ k => XS.iconst X4.here hx rfl (hb hby d1_12) k) ?_
    refine own_by (B := T4.setTop (mkF m 14 #[VI 1, VI 1, VR b4, VI 0] [(.int ((1 : Int32) &&& (1 : Int32)))])) (fun _ k => XS.iand X4.here hx rfl (hb hby d1_13) rfl k) ?_
    refine own_by (B := T4.setTop (mkF m 17 #[VI 1, VI 1, VR b4, VI 0] [])) (fun _ k => XS.ifNo X4.here hx rfl (hb hby d1_14) rfl (XT.i0_eq_f (by decide)) k) ?_
    refine own_by (B := T4.setTop (mkF m 18 #[VI 1, VI 1, VR b4, VI 0] [(.ref b4)])) (fun _ k => XS.aloadN X4.here hx rfl (hb hby d1_17) rfl rfl  k) ?_
    refine own_by (B := T4.setTop (mkF m 19 #[VI 1, VI 1, VR b4, VI 0] [(.int 0), (.ref b4)])) (fun _ k => XS.iloadN X4.here hx rfl (hb hby d1_18) rfl  k) ?_
    refine own_by (B := T4.setTop (mkF m 20 #[VI 1, VI 1, VR b4, VI 0] [(.int 0), (.int 0), (.ref b4)])) (fun _ k => XS.iconst X4.here hx rfl (hb hby d1_19) k) ?_
    obtain ⟨cl5, Ar5, qq5, Sz5, Nn5, Hh5, Gg5⟩ := id (V4)
    have hin5 : ¬ ((0 : Int32) < 0 ∨ cl5.slots.size ≤ ((0 : Int32)).toNatClampNeg) := inb_of Sz5 ⟨by decide, by decide⟩
    obtain ⟨T5, h5, X5, e5, W5, st5⟩ := stI X4 hx hZ e4 Ar5 (j := (0 : Int32)) hin5 (g := (mkF m 20 #[VI 1, VI 1, VR b4, VI 0] [(.int 0), (.int 0), (.ref b4)])) rfl rfl (hb hby d1_20)
    have sz5 := W5.size
    have O5 := O4.wr W5 gn4
    have K5 := K4.wr W5 (Or.inr fz4)
    have N5 := Fr.snoc X5 M3 gn4
    have V5 : Arv Z h5 b4 ka4 .int 1 [(.int 0)] (.int 0) := Arv.set Ar5 qq5 Sz5 Nn5 Hh5 Gg5 rfl W5 0 rfl (Nat.le_of_ble_eq_true rfl)
    refine own_by (B := T5.setTop (mkF m 21 #[VI 1, VI 1, VR b4, VI 0] [])) st5 ?_
    refine own_by (B := T5.setTop (mkF m 24 #[VI 1, VI 1, VR b4, VI 1] [])) (fun _ k => XS.iinc X5.here hx rfl (hb hby d1_21) rfl (l' := #[VI 1, VI 1, VR b4, VI 1]) rfl k) ?_
    refine own_by (B := T5.setTop (mkF m 25 #[VI 1, VI 1, VR b4, VI 1] [(.int 1)])) (fun _ k => XS.iloadN X5.here hx rfl (hb hby d1_24) rfl  k) ?_
    refine own_by (B := T5.setTop (mkF m 26 #[VI 1, VI 1, VR b4, VI 1] [(.int 2), (.int 1)])) (fun _ k => XS.iconst X5.here hx rfl (hb hby d1_25) k) ?_
    refine own_by (B := T5.setTop (mkF m 27 #[VI 1, VI 1, VR b4, VI 1] [(.int ((1 : Int32) &&& (2 : Int32)))])) (fun _ k => XS.iand X5.here hx rfl (hb hby d1_26) rfl k) ?_
    refine own_by (B := T5.setTop (mkF m 37 #[VI 1, VI 1, VR b4, VI 1] [])) (fun _ k => XS.ifYes X5.here hx rfl (pc0 := 27) (pc' := 37) rfl (hb hby d1_27) rfl (XT.i0_eq_t (by decide)) (by decide) (by decide) k) ?_
    refine own_by (B := T5.setTop (mkF m 38 #[VI 1, VI 1, VR b4, VI 1] [(.int 1)])) (fun _ k => XS.iloadN X5.here hx rfl (hb hby d1_37) rfl  k) ?_
    refine own_by (B := T5.setTop (mkF m 39 #[VI 1, VI 1, VR b4, VI 1] [(.int 4), (.int 1)])) (fun _ k => XS.iconst X5.here hx rfl (hb hby d1_38) k) ?_
    refine own_by (B := T5.setTop (mkF m 40 #[VI 1, VI 1, VR b4, VI 1] [(.int ((1 : Int32) &&& (4 : Int32)))])) (fun _ k => XS.iand X5.here hx rfl (hb hby d1_39) rfl k) ?_
    refine own_by (B := T5.setTop (mkF m 50 #[VI 1, VI 1, VR b4, VI 1] [])) (fun _ k => XS.ifYes X5.here hx rfl (pc0 := 40) (pc' := 50) rfl (hb hby d1_40) rfl (XT.i0_eq_t (by decide)) (by decide) (by decide) k) ?_
    refine own_by (B := T5.setTop (mkF m 51 #[VI 1, VI 1, VR b4, VI 1] [(.int 1)])) (fun _ k => XS.iloadN X5.here hx rfl (hb hby d1_50) rfl  k) ?_
    refine own_by (B := T5.setTop (mkF m 53 #[VI 1, VI 1, VR b4, VI 1] [(.int 8), (.int 1)])) (fun _ k => XS.bipush X5.here hx rfl (hb hby d1_51) k) ?_
    refine own_by (B := T5.setTop (mkF m 54 #[VI 1, VI 1, VR b4, VI 1] [(.int ((1 : Int32) &&& (8 : Int32)))])) (fun _ k => XS.iand X5.here hx rfl (hb hby d1_53) rfl k) ?_
    refine own_by (B := T5.setTop (mkF m 64 #[VI 1, VI 1, VR b4, VI 1] [])) (fun _ k => XS.ifYes X5.here hx rfl (pc0 := 54) (pc' := 64) rfl (hb hby d1_54) rfl (XT.i0_eq_t (by decide)) (by decide) (by decide) k) ?_
    refine own_by (B := T5.setTop (mkF m 65 #[VI 1, VI 1, VR b4, VI 1] [(.ref b4)])) (fun _ k => XS.aloadN X5.here hx rfl (hb hby d1_64) rfl rfl  k) ?_
    have c6 := (EA4.wr W5)
    have hl : own_cols (1 : Int32) = [(0 : Int32)] := by decide +kernel
    exact own_retA X5 hx hrt rfl rfl hlk (hb hby d1_65) (by decide) (by decide) (by show own_QCo Z (1 : Int32) h0 n0 _ T5.heap _; rw [e5]; exact ⟨_, _, rfl, N5, K5, fz4, by rw [hl]; exact ⟨V5, rfl⟩, c6⟩)
  · refine own_by (B := s₁.setTop (mkF m 1 #[VI 2, UU, UU, UU] [(.int 2)])) (fun _ k => XS.iloadN X0.here hx rfl (hb hby d1_0) rfl  k) ?_
    obtain ⟨_, _, ⟨T7, L7, k7, n7⟩, -, X7, ⟨Lc7, hQ7, l7, y7, z7⟩, st7⟩ := Jvm.LawKit.callS X0 hx (y := (⟨"com/example/document_pattern_rules/documentpatternrules/pattern/PairingAddPinLaw", "pc", "(I)I"⟩ : MethodName)) hown (mvT hZ (own_hw 4 hw rfl)) (mvT hZ (own_hw 5 hw rfl)) (mvT hZ (own_hw 2 hw rfl)) (mvT hZ (own_hw 6 hw rfl)) (by decide) (backOf (W := 0) (rm2 l Z a0 hw [] (2 : Int32) h0 n0 (own_old_le O0)) hZ (own_hw 6 hw rfl) (own_hw 2 hw rfl) (by decide) (by decide)) (g := (mkF m 1 #[VI 2, UU, UU, UU] [(.int 2)])) rfl (by rw [hml]; rfl) (argsL := [(.int 2)]) (rest := []) (lenOf pd_1__I_I rfl) rfl (by show 2 * 0 + _ ≤ _; exact Nat.le_of_eq rfl) (hb hby d1_1) (fun _ _ => ⟨rfl, e0, (by decide : 0 + 0 ≤ _), (by decide : 0 + 0 ≤ _)⟩)
    dsimp only [Pt.U, Pt.locs, Pt.cells, Pt.slots] at X7 l7 y7 z7 st7 hQ7
    subst l7 y7 z7
    obtain ⟨rfl, N7, e7⟩ := hQ7
    refine own_by (B := T7.setTop (mkF m 4 #[VI 2, UU, UU, UU] [(.int (own_pc (2 : Int32)))])) st7 ?_
    have M7 := Fr.app N0 N7
    rw [show (own_pc (2 : Int32)) = (1 : Int32) from by decide +kernel]
    refine own_by (B := T7.setTop (mkF m 5 #[VI 2, VI 1, UU, UU] [])) (fun _ k => XS.istoreN X7.here hx rfl (hb hby d1_4) rfl (l' := #[VI 2, VI 1, UU, UU]) rfl k) ?_
    refine own_by (B := T7.setTop (mkF m 6 #[VI 2, VI 1, UU, UU] [(.int 1)])) (fun _ k => XS.iloadN X7.here hx rfl (hb hby d1_5) rfl  k) ?_
    obtain ⟨T8, h8, ka8, X8, e8, E8, A8, EA8, st8⟩ := newPE X7 hx hZ (own_hw 7 hw rfl) e7 (g := (mkF m 6 #[VI 2, VI 1, UU, UU] [(.int 1)])) rfl (hb hby d1_6) rfl (by decide) (cap := 1) (by decide) (by decide) (by decide) (by decide) (ad := "[I") (by decide)
    obtain ⟨b8, g8⟩ : ∃ z, z = h0.size := ⟨_, rfl⟩
    rw [← g8] at A8 EA8 st8
    have sz8 := E8.1
    have gn8 : n0 ≤ b8 := g8 ▸ own_old_le O0
    have fz8 : h0.size ≤ b8 := g8 ▸ K0.1
    have lt8 := own_lt A8.lt
    have O8 := O0.ext E8
    have K8 := K0.ext E8
    have V8 : Arv Z h8 b8 ka8 .int 1 [(.int 0)] (.int 0) := (Arv.new A8 (by decide)).pad (pad_rep [] (.int 0) 1)
    refine own_by (B := T8.setTop (mkF m 8 #[VI 2, VI 1, UU, UU] [(.ref b8)])) st8 ?_
    refine own_by (B := T8.setTop (mkF m 9 #[VI 2, VI 1, VR b8, UU] [])) (fun _ k => XS.astoreN X8.here hx rfl (hb hby d1_8) rfl rfl (l' := #[VI 2, VI 1, VR b8, UU]) rfl k) ?_
    refine own_by (B := T8.setTop (mkF m 10 #[VI 2, VI 1, VR b8, UU] [(.int 0)])) (fun _ k => XS.iconst X8.here hx rfl (hb hby d1_9) k) ?_
    refine own_by (B := T8.setTop (mkF m 11 #[VI 2, VI 1, VR b8, VI 0] [])) (fun _ k => XS.istoreN X8.here hx rfl (hb hby d1_10) rfl (l' := #[VI 2, VI 1, VR b8, VI 0]) rfl k) ?_
    refine own_by (B := T8.setTop (mkF m 12 #[VI 2, VI 1, VR b8, VI 0] [(.int 2)])) (fun _ k => XS.iloadN X8.here hx rfl (hb hby d1_11) rfl  k) ?_
    refine own_by (B := T8.setTop (mkF m 13 #[VI 2, VI 1, VR b8, VI 0] [(.int 1), (.int 2)])) (fun _ k => XS.iconst X8.here hx rfl (hb hby d1_12) k) ?_
    refine own_by (B := T8.setTop (mkF m 14 #[VI 2, VI 1, VR b8, VI 0] [(.int ((2 : Int32) &&& (1 : Int32)))])) (fun _ k => XS.iand X8.here hx rfl (hb hby d1_13) rfl k) ?_
    refine own_by (B := T8.setTop (mkF m 24 #[VI 2, VI 1, VR b8, VI 0] [])) (fun _ k => XS.ifYes X8.here hx rfl (pc0 := 14) (pc' := 24) rfl (hb hby d1_14) rfl (XT.i0_eq_t (by decide)) (by decide) (by decide) k) ?_
    refine own_by (B := T8.setTop (mkF m 25 #[VI 2, VI 1, VR b8, VI 0] [(.int 2)])) (fun _ k => XS.iloadN X8.here hx rfl (hb hby d1_24) rfl  k) ?_
    refine own_by (B := T8.setTop (mkF m 26 #[VI 2, VI 1, VR b8, VI 0] [(.int 2), (.int 2)])) (fun _ k => XS.iconst X8.here hx rfl (hb hby d1_25) k) ?_
    refine own_by (B := T8.setTop (mkF m 27 #[VI 2, VI 1, VR b8, VI 0] [(.int ((2 : Int32) &&& (2 : Int32)))])) (fun _ k => XS.iand X8.here hx rfl (hb hby d1_26) rfl k) ?_
    refine own_by (B := T8.setTop (mkF m 30 #[VI 2, VI 1, VR b8, VI 0] [])) (fun _ k => XS.ifNo X8.here hx rfl (hb hby d1_27) rfl (XT.i0_eq_f (by decide)) k) ?_
    refine own_by (B := T8.setTop (mkF m 31 #[VI 2, VI 1, VR b8, VI 0] [(.ref b8)])) (fun _ k => XS.aloadN X8.here hx rfl (hb hby d1_30) rfl rfl  k) ?_
    refine own_by (B := T8.setTop (mkF m 32 #[VI 2, VI 1, VR b8, VI 0] [(.int 0), (.ref b8)])) (fun _ k => XS.iloadN X8.here hx rfl (hb hby d1_31) rfl  k) ?_
    refine own_by (B := T8.setTop (mkF m 33 #[VI 2, VI 1, VR b8, VI 0] [(.int 1), (.int 0), (.ref b8)])) (fun _ k => XS.iconst X8.here hx rfl (hb hby d1_32) k) ?_
    obtain ⟨cl9, Ar9, qq9, Sz9, Nn9, Hh9, Gg9⟩ := id (V8)
    have hin9 : ¬ ((0 : Int32) < 0 ∨ cl9.slots.size ≤ ((0 : Int32)).toNatClampNeg) := inb_of Sz9 ⟨by decide, by decide⟩
    obtain ⟨T9, h9, X9, e9, W9, st9⟩ := stI X8 hx hZ e8 Ar9 (j := (0 : Int32)) hin9 (g := (mkF m 33 #[VI 2, VI 1, VR b8, VI 0] [(.int 1), (.int 0), (.ref b8)])) rfl rfl (hb hby d1_33)
    have sz9 := W9.size
    have O9 := O8.wr W9 gn8
    have K9 := K8.wr W9 (Or.inr fz8)
    have N9 := Fr.snoc X9 M7 gn8
    have V9 : Arv Z h9 b8 ka8 .int 1 [(.int 1)] (.int 0) := Arv.set Ar9 qq9 Sz9 Nn9 Hh9 Gg9 rfl W9 0 rfl (Nat.le_of_ble_eq_true rfl)
    refine own_by (B := T9.setTop (mkF m 34 #[VI 2, VI 1, VR b8, VI 0] [])) st9 ?_
    refine own_by (B := T9.setTop (mkF m 37 #[VI 2, VI 1, VR b8, VI 1] [])) (fun _ k => XS.iinc X9.here hx rfl (hb hby d1_34) rfl (l' := #[VI 2, VI 1, VR b8, VI 1]) rfl k) ?_
    refine own_by (B := T9.setTop (mkF m 38 #[VI 2, VI 1, VR b8, VI 1] [(.int 2)])) (fun _ k => XS.iloadN X9.here hx rfl (hb hby d1_37) rfl  k) ?_
    refine own_by (B := T9.setTop (mkF m 39 #[VI 2, VI 1, VR b8, VI 1] [(.int 4), (.int 2)])) (fun _ k => XS.iconst X9.here hx rfl (hb hby d1_38) k) ?_
    refine own_by (B := T9.setTop (mkF m 40 #[VI 2, VI 1, VR b8, VI 1] [(.int ((2 : Int32) &&& (4 : Int32)))])) (fun _ k => XS.iand X9.here hx rfl (hb hby d1_39) rfl k) ?_
    refine own_by (B := T9.setTop (mkF m 50 #[VI 2, VI 1, VR b8, VI 1] [])) (fun _ k => XS.ifYes X9.here hx rfl (pc0 := 40) (pc' := 50) rfl (hb hby d1_40) rfl (XT.i0_eq_t (by decide)) (by decide) (by decide) k) ?_
    refine own_by (B := T9.setTop (mkF m 51 #[VI 2, VI 1, VR b8, VI 1] [(.int 2)])) (fun _ k => XS.iloadN X9.here hx rfl (hb hby d1_50) rfl  k) ?_
    refine own_by (B := T9.setTop (mkF m 53 #[VI 2, VI 1, VR b8, VI 1] [(.int 8), (.int 2)])) (fun _ k => XS.bipush X9.here hx rfl (hb hby d1_51) k) ?_
    refine own_by (B := T9.setTop (mkF m 54 #[VI 2, VI 1, VR b8, VI 1] [(.int ((2 : Int32) &&& (8 : Int32)))])) (fun _ k => XS.iand X9.here hx rfl (hb hby d1_53) rfl k) ?_
    refine own_by (B := T9.setTop (mkF m 64 #[VI 2, VI 1, VR b8, VI 1] [])) (fun _ k => XS.ifYes X9.here hx rfl (pc0 := 54) (pc' := 64) rfl (hb hby d1_54) rfl (XT.i0_eq_t (by decide)) (by decide) (by decide) k) ?_
    refine own_by (B := T9.setTop (mkF m 65 #[VI 2, VI 1, VR b8, VI 1] [(.ref b8)])) (fun _ k => XS.aloadN X9.here hx rfl (hb hby d1_64) rfl rfl  k) ?_
    have c10 := (EA8.wr W9)
    have hl : own_cols (2 : Int32) = [(1 : Int32)] := by decide +kernel
    exact own_retA X9 hx hrt rfl rfl hlk (hb hby d1_65) (by decide) (by decide) (by show own_QCo Z (2 : Int32) h0 n0 _ T9.heap _; rw [e9]; exact ⟨_, _, rfl, N9, K9, fz8, by rw [hl]; exact ⟨V9, rfl⟩, c10⟩)
  · refine own_by (B := s₁.setTop (mkF m 1 #[VI 3, UU, UU, UU] [(.int 3)])) (fun _ k => XS.iloadN X0.here hx rfl (hb hby d1_0) rfl  k) ?_
    obtain ⟨_, _, ⟨T11, L11, k11, n11⟩, -, X11, ⟨Lc11, hQ11, l11, y11, z11⟩, st11⟩ := Jvm.LawKit.callS X0 hx (y := (⟨"com/example/document_pattern_rules/documentpatternrules/pattern/PairingAddPinLaw", "pc", "(I)I"⟩ : MethodName)) hown (mvT hZ (own_hw 4 hw rfl)) (mvT hZ (own_hw 5 hw rfl)) (mvT hZ (own_hw 2 hw rfl)) (mvT hZ (own_hw 6 hw rfl)) (by decide) (backOf (W := 0) (rm2 l Z a0 hw [] (3 : Int32) h0 n0 (own_old_le O0)) hZ (own_hw 6 hw rfl) (own_hw 2 hw rfl) (by decide) (by decide)) (g := (mkF m 1 #[VI 3, UU, UU, UU] [(.int 3)])) rfl (by rw [hml]; rfl) (argsL := [(.int 3)]) (rest := []) (lenOf pd_1__I_I rfl) rfl (by show 2 * 0 + _ ≤ _; exact Nat.le_of_eq rfl) (hb hby d1_1) (fun _ _ => ⟨rfl, e0, (by decide : 0 + 0 ≤ _), (by decide : 0 + 0 ≤ _)⟩)
    dsimp only [Pt.U, Pt.locs, Pt.cells, Pt.slots] at X11 l11 y11 z11 st11 hQ11
    subst l11 y11 z11
    obtain ⟨rfl, N11, e11⟩ := hQ11
    refine own_by (B := T11.setTop (mkF m 4 #[VI 3, UU, UU, UU] [(.int (own_pc (3 : Int32)))])) st11 ?_
    have M11 := Fr.app N0 N11
    rw [show (own_pc (3 : Int32)) = (2 : Int32) from by decide +kernel]
    refine own_by (B := T11.setTop (mkF m 5 #[VI 3, VI 2, UU, UU] [])) (fun _ k => XS.istoreN X11.here hx rfl (hb hby d1_4) rfl (l' := #[VI 3, VI 2, UU, UU]) rfl k) ?_
    refine own_by (B := T11.setTop (mkF m 6 #[VI 3, VI 2, UU, UU] [(.int 2)])) (fun _ k => XS.iloadN X11.here hx rfl (hb hby d1_5) rfl  k) ?_
    obtain ⟨T12, h12, ka12, X12, e12, E12, A12, EA12, st12⟩ := newPE X11 hx hZ (own_hw 7 hw rfl) e11 (g := (mkF m 6 #[VI 3, VI 2, UU, UU] [(.int 2)])) rfl (hb hby d1_6) rfl (by decide) (cap := 2) (by decide) (by decide) (by decide) (by decide) (ad := "[I") (by decide)
    obtain ⟨b12, g12⟩ : ∃ z, z = h0.size := ⟨_, rfl⟩
    rw [← g12] at A12 EA12 st12
    have sz12 := E12.1
    have gn12 : n0 ≤ b12 := g12 ▸ own_old_le O0
    have fz12 : h0.size ≤ b12 := g12 ▸ K0.1
    have lt12 := own_lt A12.lt
    have O12 := O0.ext E12
    have K12 := K0.ext E12
    have V12 : Arv Z h12 b12 ka12 .int 2 [(.int 0), (.int 0)] (.int 0) := (Arv.new A12 (by decide)).pad (pad_rep [] (.int 0) 2)
    refine own_by (B := T12.setTop (mkF m 8 #[VI 3, VI 2, UU, UU] [(.ref b12)])) st12 ?_
    refine own_by (B := T12.setTop (mkF m 9 #[VI 3, VI 2, VR b12, UU] [])) (fun _ k => XS.astoreN X12.here hx rfl (hb hby d1_8) rfl rfl (l' := #[VI 3, VI 2, VR b12, UU]) rfl k) ?_
    refine own_by (B := T12.setTop (mkF m 10 #[VI 3, VI 2, VR b12, UU] [(.int 0)])) (fun _ k => XS.iconst X12.here hx rfl (hb hby d1_9) k) ?_
    refine own_by (B := T12.setTop (mkF m 11 #[VI 3, VI 2, VR b12, VI 0] [])) (fun _ k => XS.istoreN X12.here hx rfl (hb hby d1_10) rfl (l' := #[VI 3, VI 2, VR b12, VI 0]) rfl k) ?_
    refine own_by (B := T12.setTop (mkF m 12 #[VI 3, VI 2, VR b12, VI 0] [(.int 3)])) (fun _ k => XS.iloadN X12.here hx rfl (hb hby d1_11) rfl  k) ?_
    refine own_by (B := T12.setTop (mkF m 13 #[VI 3, VI 2, VR b12, VI 0] [(.int 1), (.int 3)])) (fun _ k => XS.iconst X12.here hx rfl (hb hby d1_12) k) ?_
    refine own_by (B := T12.setTop (mkF m 14 #[VI 3, VI 2, VR b12, VI 0] [(.int ((3 : Int32) &&& (1 : Int32)))])) (fun _ k => XS.iand X12.here hx rfl (hb hby d1_13) rfl k) ?_
    refine own_by (B := T12.setTop (mkF m 17 #[VI 3, VI 2, VR b12, VI 0] [])) (fun _ k => XS.ifNo X12.here hx rfl (hb hby d1_14) rfl (XT.i0_eq_f (by decide)) k) ?_
    refine own_by (B := T12.setTop (mkF m 18 #[VI 3, VI 2, VR b12, VI 0] [(.ref b12)])) (fun _ k => XS.aloadN X12.here hx rfl (hb hby d1_17) rfl rfl  k) ?_
    refine own_by (B := T12.setTop (mkF m 19 #[VI 3, VI 2, VR b12, VI 0] [(.int 0), (.ref b12)])) (fun _ k => XS.iloadN X12.here hx rfl (hb hby d1_18) rfl  k) ?_
    refine own_by (B := T12.setTop (mkF m 20 #[VI 3, VI 2, VR b12, VI 0] [(.int 0), (.int 0), (.ref b12)])) (fun _ k => XS.iconst X12.here hx rfl (hb hby d1_19) k) ?_
    obtain ⟨cl13, Ar13, qq13, Sz13, Nn13, Hh13, Gg13⟩ := id (V12)
    have hin13 : ¬ ((0 : Int32) < 0 ∨ cl13.slots.size ≤ ((0 : Int32)).toNatClampNeg) := inb_of Sz13 ⟨by decide, by decide⟩
    obtain ⟨T13, h13, X13, e13, W13, st13⟩ := stI X12 hx hZ e12 Ar13 (j := (0 : Int32)) hin13 (g := (mkF m 20 #[VI 3, VI 2, VR b12, VI 0] [(.int 0), (.int 0), (.ref b12)])) rfl rfl (hb hby d1_20)
    have sz13 := W13.size
    have O13 := O12.wr W13 gn12
    have K13 := K12.wr W13 (Or.inr fz12)
    have N13 := Fr.snoc X13 M11 gn12
    have V13 : Arv Z h13 b12 ka12 .int 2 [(.int 0), (.int 0)] (.int 0) := Arv.set Ar13 qq13 Sz13 Nn13 Hh13 Gg13 rfl W13 0 rfl (Nat.le_of_ble_eq_true rfl)
    refine own_by (B := T13.setTop (mkF m 21 #[VI 3, VI 2, VR b12, VI 0] [])) st13 ?_
    refine own_by (B := T13.setTop (mkF m 24 #[VI 3, VI 2, VR b12, VI 1] [])) (fun _ k => XS.iinc X13.here hx rfl (hb hby d1_21) rfl (l' := #[VI 3, VI 2, VR b12, VI 1]) rfl k) ?_
    refine own_by (B := T13.setTop (mkF m 25 #[VI 3, VI 2, VR b12, VI 1] [(.int 3)])) (fun _ k => XS.iloadN X13.here hx rfl (hb hby d1_24) rfl  k) ?_
    refine own_by (B := T13.setTop (mkF m 26 #[VI 3, VI 2, VR b12, VI 1] [(.int 2), (.int 3)])) (fun _ k => XS.iconst X13.here hx rfl (hb hby d1_25) k) ?_
    refine own_by (B := T13.setTop (mkF m 27 #[VI 3, VI 2, VR b12, VI 1] [(.int ((3 : Int32) &&& (2 : Int32)))])) (fun _ k => XS.iand X13.here hx rfl (hb hby d1_26) rfl k) ?_
    refine own_by (B := T13.setTop (mkF m 30 #[VI 3, VI 2, VR b12, VI 1] [])) (fun _ k => XS.ifNo X13.here hx rfl (hb hby d1_27) rfl (XT.i0_eq_f (by decide)) k) ?_
    refine own_by (B := T13.setTop (mkF m 31 #[VI 3, VI 2, VR b12, VI 1] [(.ref b12)])) (fun _ k => XS.aloadN X13.here hx rfl (hb hby d1_30) rfl rfl  k) ?_
    refine own_by (B := T13.setTop (mkF m 32 #[VI 3, VI 2, VR b12, VI 1] [(.int 1), (.ref b12)])) (fun _ k => XS.iloadN X13.here hx rfl (hb hby d1_31) rfl  k) ?_
    refine own_by (B := T13.setTop (mkF m 33 #[VI 3, VI 2, VR b12, VI 1] [(.int 1), (.int 1), (.ref b12)])) (fun _ k => XS.iconst X13.here hx rfl (hb hby d1_32) k) ?_
    obtain ⟨cl14, Ar14, qq14, Sz14, Nn14, Hh14, Gg14⟩ := id (V13)
    have hin14 : ¬ ((1 : Int32) < 0 ∨ cl14.slots.size ≤ ((1 : Int32)).toNatClampNeg) := inb_of Sz14 ⟨by decide, by decide⟩
    obtain ⟨T14, h14, X14, e14, W14, st14⟩ := stI X13 hx hZ e13 Ar14 (j := (1 : Int32)) hin14 (g := (mkF m 33 #[VI 3, VI 2, VR b12, VI 1] [(.int 1), (.int 1), (.ref b12)])) rfl rfl (hb hby d1_33)
    have sz14 := W14.size
    have O14 := O13.wr W14 gn12
    have K14 := K13.wr W14 (Or.inr fz12)
    have N14 := Fr.snoc X14 N13 gn12
    have V14 : Arv Z h14 b12 ka12 .int 2 [(.int 0), (.int 1)] (.int 0) := Arv.set Ar14 qq14 Sz14 Nn14 Hh14 Gg14 rfl W14 1 rfl (Nat.le_of_ble_eq_true rfl)
    refine own_by (B := T14.setTop (mkF m 34 #[VI 3, VI 2, VR b12, VI 1] [])) st14 ?_
    refine own_by (B := T14.setTop (mkF m 37 #[VI 3, VI 2, VR b12, VI 2] [])) (fun _ k => XS.iinc X14.here hx rfl (hb hby d1_34) rfl (l' := #[VI 3, VI 2, VR b12, VI 2]) rfl k) ?_
    refine own_by (B := T14.setTop (mkF m 38 #[VI 3, VI 2, VR b12, VI 2] [(.int 3)])) (fun _ k => XS.iloadN X14.here hx rfl (hb hby d1_37) rfl  k) ?_
    refine own_by (B := T14.setTop (mkF m 39 #[VI 3, VI 2, VR b12, VI 2] [(.int 4), (.int 3)])) (fun _ k => XS.iconst X14.here hx rfl (hb hby d1_38) k) ?_
    refine own_by (B := T14.setTop (mkF m 40 #[VI 3, VI 2, VR b12, VI 2] [(.int ((3 : Int32) &&& (4 : Int32)))])) (fun _ k => XS.iand X14.here hx rfl (hb hby d1_39) rfl k) ?_
    refine own_by (B := T14.setTop (mkF m 50 #[VI 3, VI 2, VR b12, VI 2] [])) (fun _ k => XS.ifYes X14.here hx rfl (pc0 := 40) (pc' := 50) rfl (hb hby d1_40) rfl (XT.i0_eq_t (by decide)) (by decide) (by decide) k) ?_
    refine own_by (B := T14.setTop (mkF m 51 #[VI 3, VI 2, VR b12, VI 2] [(.int 3)])) (fun _ k => XS.iloadN X14.here hx rfl (hb hby d1_50) rfl  k) ?_
    refine own_by (B := T14.setTop (mkF m 53 #[VI 3, VI 2, VR b12, VI 2] [(.int 8), (.int 3)])) (fun _ k => XS.bipush X14.here hx rfl (hb hby d1_51) k) ?_
    refine own_by (B := T14.setTop (mkF m 54 #[VI 3, VI 2, VR b12, VI 2] [(.int ((3 : Int32) &&& (8 : Int32)))])) (fun _ k => XS.iand X14.here hx rfl (hb hby d1_53) rfl k) ?_
    refine own_by (B := T14.setTop (mkF m 64 #[VI 3, VI 2, VR b12, VI 2] [])) (fun _ k => XS.ifYes X14.here hx rfl (pc0 := 54) (pc' := 64) rfl (hb hby d1_54) rfl (XT.i0_eq_t (by decide)) (by decide) (by decide) k) ?_
    refine own_by (B := T14.setTop (mkF m 65 #[VI 3, VI 2, VR b12, VI 2] [(.ref b12)])) (fun _ k => XS.aloadN X14.here hx rfl (hb hby d1_64) rfl rfl  k) ?_
    have c15 := ((EA12.wr W13).wr W14)
    have hl : own_cols (3 : Int32) = [(0 : Int32), (1 : Int32)] := by decide +kernel
    exact own_retA X14 hx hrt rfl rfl hlk (hb hby d1_65) (by decide) (by decide) (by show own_QCo Z (3 : Int32) h0 n0 _ T14.heap _; rw [e14]; exact ⟨_, _, rfl, N14, K14, fz12, by rw [hl]; exact ⟨V14, rfl⟩, c15⟩)
  · refine own_by (B := s₁.setTop (mkF m 1 #[VI 4, UU, UU, UU] [(.int 4)])) (fun _ k => XS.iloadN X0.here hx rfl (hb hby d1_0) rfl  k) ?_
    obtain ⟨_, _, ⟨T16, L16, k16, n16⟩, -, X16, ⟨Lc16, hQ16, l16, y16, z16⟩, st16⟩ := Jvm.LawKit.callS X0 hx (y := (⟨"com/example/document_pattern_rules/documentpatternrules/pattern/PairingAddPinLaw", "pc", "(I)I"⟩ : MethodName)) hown (mvT hZ (own_hw 4 hw rfl)) (mvT hZ (own_hw 5 hw rfl)) (mvT hZ (own_hw 2 hw rfl)) (mvT hZ (own_hw 6 hw rfl)) (by decide) (backOf (W := 0) (rm2 l Z a0 hw [] (4 : Int32) h0 n0 (own_old_le O0)) hZ (own_hw 6 hw rfl) (own_hw 2 hw rfl) (by decide) (by decide)) (g := (mkF m 1 #[VI 4, UU, UU, UU] [(.int 4)])) rfl (by rw [hml]; rfl) (argsL := [(.int 4)]) (rest := []) (lenOf pd_1__I_I rfl) rfl (by show 2 * 0 + _ ≤ _; exact Nat.le_of_eq rfl) (hb hby d1_1) (fun _ _ => ⟨rfl, e0, (by decide : 0 + 0 ≤ _), (by decide : 0 + 0 ≤ _)⟩)
    dsimp only [Pt.U, Pt.locs, Pt.cells, Pt.slots] at X16 l16 y16 z16 st16 hQ16
    subst l16 y16 z16
    obtain ⟨rfl, N16, e16⟩ := hQ16
    refine own_by (B := T16.setTop (mkF m 4 #[VI 4, UU, UU, UU] [(.int (own_pc (4 : Int32)))])) st16 ?_
    have M16 := Fr.app N0 N16
    rw [show (own_pc (4 : Int32)) = (1 : Int32) from by decide +kernel]
    refine own_by (B := T16.setTop (mkF m 5 #[VI 4, VI 1, UU, UU] [])) (fun _ k => XS.istoreN X16.here hx rfl (hb hby d1_4) rfl (l' := #[VI 4, VI 1, UU, UU]) rfl k) ?_
    refine own_by (B := T16.setTop (mkF m 6 #[VI 4, VI 1, UU, UU] [(.int 1)])) (fun _ k => XS.iloadN X16.here hx rfl (hb hby d1_5) rfl  k) ?_
    obtain ⟨T17, h17, ka17, X17, e17, E17, A17, EA17, st17⟩ := newPE X16 hx hZ (own_hw 7 hw rfl) e16 (g := (mkF m 6 #[VI 4, VI 1, UU, UU] [(.int 1)])) rfl (hb hby d1_6) rfl (by decide) (cap := 1) (by decide) (by decide) (by decide) (by decide) (ad := "[I") (by decide)
    obtain ⟨b17, g17⟩ : ∃ z, z = h0.size := ⟨_, rfl⟩
    rw [← g17] at A17 EA17 st17
    have sz17 := E17.1
    have gn17 : n0 ≤ b17 := g17 ▸ own_old_le O0
    have fz17 : h0.size ≤ b17 := g17 ▸ K0.1
    have lt17 := own_lt A17.lt
    have O17 := O0.ext E17
    have K17 := K0.ext E17
    have V17 : Arv Z h17 b17 ka17 .int 1 [(.int 0)] (.int 0) := (Arv.new A17 (by decide)).pad (pad_rep [] (.int 0) 1)
    refine own_by (B := T17.setTop (mkF m 8 #[VI 4, VI 1, UU, UU] [(.ref b17)])) st17 ?_
    refine own_by (B := T17.setTop (mkF m 9 #[VI 4, VI 1, VR b17, UU] [])) (fun _ k => XS.astoreN X17.here hx rfl (hb hby d1_8) rfl rfl (l' := #[VI 4, VI 1, VR b17, UU]) rfl k) ?_
    refine own_by (B := T17.setTop (mkF m 10 #[VI 4, VI 1, VR b17, UU] [(.int 0)])) (fun _ k => XS.iconst X17.here hx rfl (hb hby d1_9) k) ?_
    refine own_by (B := T17.setTop (mkF m 11 #[VI 4, VI 1, VR b17, VI 0] [])) (fun _ k => XS.istoreN X17.here hx rfl (hb hby d1_10) rfl (l' := #[VI 4, VI 1, VR b17, VI 0]) rfl k) ?_
    refine own_by (B := T17.setTop (mkF m 12 #[VI 4, VI 1, VR b17, VI 0] [(.int 4)])) (fun _ k => XS.iloadN X17.here hx rfl (hb hby d1_11) rfl  k) ?_
    refine own_by (B := T17.setTop (mkF m 13 #[VI 4, VI 1, VR b17, VI 0] [(.int 1), (.int 4)])) (fun _ k => XS.iconst X17.here hx rfl (hb hby d1_12) k) ?_
    refine own_by (B := T17.setTop (mkF m 14 #[VI 4, VI 1, VR b17, VI 0] [(.int ((4 : Int32) &&& (1 : Int32)))])) (fun _ k => XS.iand X17.here hx rfl (hb hby d1_13) rfl k) ?_
    refine own_by (B := T17.setTop (mkF m 24 #[VI 4, VI 1, VR b17, VI 0] [])) (fun _ k => XS.ifYes X17.here hx rfl (pc0 := 14) (pc' := 24) rfl (hb hby d1_14) rfl (XT.i0_eq_t (by decide)) (by decide) (by decide) k) ?_
    refine own_by (B := T17.setTop (mkF m 25 #[VI 4, VI 1, VR b17, VI 0] [(.int 4)])) (fun _ k => XS.iloadN X17.here hx rfl (hb hby d1_24) rfl  k) ?_
    refine own_by (B := T17.setTop (mkF m 26 #[VI 4, VI 1, VR b17, VI 0] [(.int 2), (.int 4)])) (fun _ k => XS.iconst X17.here hx rfl (hb hby d1_25) k) ?_
    refine own_by (B := T17.setTop (mkF m 27 #[VI 4, VI 1, VR b17, VI 0] [(.int ((4 : Int32) &&& (2 : Int32)))])) (fun _ k => XS.iand X17.here hx rfl (hb hby d1_26) rfl k) ?_
    refine own_by (B := T17.setTop (mkF m 37 #[VI 4, VI 1, VR b17, VI 0] [])) (fun _ k => XS.ifYes X17.here hx rfl (pc0 := 27) (pc' := 37) rfl (hb hby d1_27) rfl (XT.i0_eq_t (by decide)) (by decide) (by decide) k) ?_
    refine own_by (B := T17.setTop (mkF m 38 #[VI 4, VI 1, VR b17, VI 0] [(.int 4)])) (fun _ k => XS.iloadN X17.here hx rfl (hb hby d1_37) rfl  k) ?_
    refine own_by (B := T17.setTop (mkF m 39 #[VI 4, VI 1, VR b17, VI 0] [(.int 4), (.int 4)])) (fun _ k => XS.iconst X17.here hx rfl (hb hby d1_38) k) ?_
    refine own_by (B := T17.setTop (mkF m 40 #[VI 4, VI 1, VR b17, VI 0] [(.int ((4 : Int32) &&& (4 : Int32)))])) (fun _ k => XS.iand X17.here hx rfl (hb hby d1_39) rfl k) ?_
    refine own_by (B := T17.setTop (mkF m 43 #[VI 4, VI 1, VR b17, VI 0] [])) (fun _ k => XS.ifNo X17.here hx rfl (hb hby d1_40) rfl (XT.i0_eq_f (by decide)) k) ?_
    refine own_by (B := T17.setTop (mkF m 44 #[VI 4, VI 1, VR b17, VI 0] [(.ref b17)])) (fun _ k => XS.aloadN X17.here hx rfl (hb hby d1_43) rfl rfl  k) ?_
    refine own_by (B := T17.setTop (mkF m 45 #[VI 4, VI 1, VR b17, VI 0] [(.int 0), (.ref b17)])) (fun _ k => XS.iloadN X17.here hx rfl (hb hby d1_44) rfl  k) ?_
    refine own_by (B := T17.setTop (mkF m 46 #[VI 4, VI 1, VR b17, VI 0] [(.int 2), (.int 0), (.ref b17)])) (fun _ k => XS.iconst X17.here hx rfl (hb hby d1_45) k) ?_
    obtain ⟨cl18, Ar18, qq18, Sz18, Nn18, Hh18, Gg18⟩ := id (V17)
    have hin18 : ¬ ((0 : Int32) < 0 ∨ cl18.slots.size ≤ ((0 : Int32)).toNatClampNeg) := inb_of Sz18 ⟨by decide, by decide⟩
    obtain ⟨T18, h18, X18, e18, W18, st18⟩ := stI X17 hx hZ e17 Ar18 (j := (0 : Int32)) hin18 (g := (mkF m 46 #[VI 4, VI 1, VR b17, VI 0] [(.int 2), (.int 0), (.ref b17)])) rfl rfl (hb hby d1_46)
    have sz18 := W18.size
    have O18 := O17.wr W18 gn17
    have K18 := K17.wr W18 (Or.inr fz17)
    have N18 := Fr.snoc X18 M16 gn17
    have V18 : Arv Z h18 b17 ka17 .int 1 [(.int 2)] (.int 0) := Arv.set Ar18 qq18 Sz18 Nn18 Hh18 Gg18 rfl W18 0 rfl (Nat.le_of_ble_eq_true rfl)
    refine own_by (B := T18.setTop (mkF m 47 #[VI 4, VI 1, VR b17, VI 0] [])) st18 ?_
    refine own_by (B := T18.setTop (mkF m 50 #[VI 4, VI 1, VR b17, VI 1] [])) (fun _ k => XS.iinc X18.here hx rfl (hb hby d1_47) rfl (l' := #[VI 4, VI 1, VR b17, VI 1]) rfl k) ?_
    refine own_by (B := T18.setTop (mkF m 51 #[VI 4, VI 1, VR b17, VI 1] [(.int 4)])) (fun _ k => XS.iloadN X18.here hx rfl (hb hby d1_50) rfl  k) ?_
    refine own_by (B := T18.setTop (mkF m 53 #[VI 4, VI 1, VR b17, VI 1] [(.int 8), (.int 4)])) (fun _ k => XS.bipush X18.here hx rfl (hb hby d1_51) k) ?_
    refine own_by (B := T18.setTop (mkF m 54 #[VI 4, VI 1, VR b17, VI 1] [(.int ((4 : Int32) &&& (8 : Int32)))])) (fun _ k => XS.iand X18.here hx rfl (hb hby d1_53) rfl k) ?_
    refine own_by (B := T18.setTop (mkF m 64 #[VI 4, VI 1, VR b17, VI 1] [])) (fun _ k => XS.ifYes X18.here hx rfl (pc0 := 54) (pc' := 64) rfl (hb hby d1_54) rfl (XT.i0_eq_t (by decide)) (by decide) (by decide) k) ?_
    refine own_by (B := T18.setTop (mkF m 65 #[VI 4, VI 1, VR b17, VI 1] [(.ref b17)])) (fun _ k => XS.aloadN X18.here hx rfl (hb hby d1_64) rfl rfl  k) ?_
    have c19 := (EA17.wr W18)
    have hl : own_cols (4 : Int32) = [(2 : Int32)] := by decide +kernel
    exact own_retA X18 hx hrt rfl rfl hlk (hb hby d1_65) (by decide) (by decide) (by show own_QCo Z (4 : Int32) h0 n0 _ T18.heap _; rw [e18]; exact ⟨_, _, rfl, N18, K18, fz17, by rw [hl]; exact ⟨V18, rfl⟩, c19⟩)
  · refine own_by (B := s₁.setTop (mkF m 1 #[VI 5, UU, UU, UU] [(.int 5)])) (fun _ k => XS.iloadN X0.here hx rfl (hb hby d1_0) rfl  k) ?_
    obtain ⟨_, _, ⟨T20, L20, k20, n20⟩, -, X20, ⟨Lc20, hQ20, l20, y20, z20⟩, st20⟩ := Jvm.LawKit.callS X0 hx (y := (⟨"com/example/document_pattern_rules/documentpatternrules/pattern/PairingAddPinLaw", "pc", "(I)I"⟩ : MethodName)) hown (mvT hZ (own_hw 4 hw rfl)) (mvT hZ (own_hw 5 hw rfl)) (mvT hZ (own_hw 2 hw rfl)) (mvT hZ (own_hw 6 hw rfl)) (by decide) (backOf (W := 0) (rm2 l Z a0 hw [] (5 : Int32) h0 n0 (own_old_le O0)) hZ (own_hw 6 hw rfl) (own_hw 2 hw rfl) (by decide) (by decide)) (g := (mkF m 1 #[VI 5, UU, UU, UU] [(.int 5)])) rfl (by rw [hml]; rfl) (argsL := [(.int 5)]) (rest := []) (lenOf pd_1__I_I rfl) rfl (by show 2 * 0 + _ ≤ _; exact Nat.le_of_eq rfl) (hb hby d1_1) (fun _ _ => ⟨rfl, e0, (by decide : 0 + 0 ≤ _), (by decide : 0 + 0 ≤ _)⟩)
    dsimp only [Pt.U, Pt.locs, Pt.cells, Pt.slots] at X20 l20 y20 z20 st20 hQ20
    subst l20 y20 z20
    obtain ⟨rfl, N20, e20⟩ := hQ20
    refine own_by (B := T20.setTop (mkF m 4 #[VI 5, UU, UU, UU] [(.int (own_pc (5 : Int32)))])) st20 ?_
    have M20 := Fr.app N0 N20
    rw [show (own_pc (5 : Int32)) = (2 : Int32) from by decide +kernel]
    refine own_by (B := T20.setTop (mkF m 5 #[VI 5, VI 2, UU, UU] [])) (fun _ k => XS.istoreN X20.here hx rfl (hb hby d1_4) rfl (l' := #[VI 5, VI 2, UU, UU]) rfl k) ?_
    refine own_by (B := T20.setTop (mkF m 6 #[VI 5, VI 2, UU, UU] [(.int 2)])) (fun _ k => XS.iloadN X20.here hx rfl (hb hby d1_5) rfl  k) ?_
    obtain ⟨T21, h21, ka21, X21, e21, E21, A21, EA21, st21⟩ := newPE X20 hx hZ (own_hw 7 hw rfl) e20 (g := (mkF m 6 #[VI 5, VI 2, UU, UU] [(.int 2)])) rfl (hb hby d1_6) rfl (by decide) (cap := 2) (by decide) (by decide) (by decide) (by decide) (ad := "[I") (by decide)
    obtain ⟨b21, g21⟩ : ∃ z, z = h0.size := ⟨_, rfl⟩
    rw [← g21] at A21 EA21 st21
    have sz21 := E21.1
    have gn21 : n0 ≤ b21 := g21 ▸ own_old_le O0
    have fz21 : h0.size ≤ b21 := g21 ▸ K0.1
    have lt21 := own_lt A21.lt
    have O21 := O0.ext E21
    have K21 := K0.ext E21
    have V21 : Arv Z h21 b21 ka21 .int 2 [(.int 0), (.int 0)] (.int 0) := (Arv.new A21 (by decide)).pad (pad_rep [] (.int 0) 2)
    refine own_by (B := T21.setTop (mkF m 8 #[VI 5, VI 2, UU, UU] [(.ref b21)])) st21 ?_
    refine own_by (B := T21.setTop (mkF m 9 #[VI 5, VI 2, VR b21, UU] [])) (fun _ k => XS.astoreN X21.here hx rfl (hb hby d1_8) rfl rfl (l' := #[VI 5, VI 2, VR b21, UU]) rfl k) ?_
    refine own_by (B := T21.setTop (mkF m 10 #[VI 5, VI 2, VR b21, UU] [(.int 0)])) (fun _ k => XS.iconst X21.here hx rfl (hb hby d1_9) k) ?_
    refine own_by (B := T21.setTop (mkF m 11 #[VI 5, VI 2, VR b21, VI 0] [])) (fun _ k => XS.istoreN X21.here hx rfl (hb hby d1_10) rfl (l' := #[VI 5, VI 2, VR b21, VI 0]) rfl k) ?_
    refine own_by (B := T21.setTop (mkF m 12 #[VI 5, VI 2, VR b21, VI 0] [(.int 5)])) (fun _ k => XS.iloadN X21.here hx rfl (hb hby d1_11) rfl  k) ?_
    refine own_by (B := T21.setTop (mkF m 13 #[VI 5, VI 2, VR b21, VI 0] [(.int 1), (.int 5)])) (fun _ k => XS.iconst X21.here hx rfl (hb hby d1_12) k) ?_
    refine own_by (B := T21.setTop (mkF m 14 #[VI 5, VI 2, VR b21, VI 0] [(.int ((5 : Int32) &&& (1 : Int32)))])) (fun _ k => XS.iand X21.here hx rfl (hb hby d1_13) rfl k) ?_
    refine own_by (B := T21.setTop (mkF m 17 #[VI 5, VI 2, VR b21, VI 0] [])) (fun _ k => XS.ifNo X21.here hx rfl (hb hby d1_14) rfl (XT.i0_eq_f (by decide)) k) ?_
    refine own_by (B := T21.setTop (mkF m 18 #[VI 5, VI 2, VR b21, VI 0] [(.ref b21)])) (fun _ k => XS.aloadN X21.here hx rfl (hb hby d1_17) rfl rfl  k) ?_
    refine own_by (B := T21.setTop (mkF m 19 #[VI 5, VI 2, VR b21, VI 0] [(.int 0), (.ref b21)])) (fun _ k => XS.iloadN X21.here hx rfl (hb hby d1_18) rfl  k) ?_
    refine own_by (B := T21.setTop (mkF m 20 #[VI 5, VI 2, VR b21, VI 0] [(.int 0), (.int 0), (.ref b21)])) (fun _ k => XS.iconst X21.here hx rfl (hb hby d1_19) k) ?_
    obtain ⟨cl22, Ar22, qq22, Sz22, Nn22, Hh22, Gg22⟩ := id (V21)
    have hin22 : ¬ ((0 : Int32) < 0 ∨ cl22.slots.size ≤ ((0 : Int32)).toNatClampNeg) := inb_of Sz22 ⟨by decide, by decide⟩
    obtain ⟨T22, h22, X22, e22, W22, st22⟩ := stI X21 hx hZ e21 Ar22 (j := (0 : Int32)) hin22 (g := (mkF m 20 #[VI 5, VI 2, VR b21, VI 0] [(.int 0), (.int 0), (.ref b21)])) rfl rfl (hb hby d1_20)
    have sz22 := W22.size
    have O22 := O21.wr W22 gn21
    have K22 := K21.wr W22 (Or.inr fz21)
    have N22 := Fr.snoc X22 M20 gn21
    have V22 : Arv Z h22 b21 ka21 .int 2 [(.int 0), (.int 0)] (.int 0) := Arv.set Ar22 qq22 Sz22 Nn22 Hh22 Gg22 rfl W22 0 rfl (Nat.le_of_ble_eq_true rfl)
    refine own_by (B := T22.setTop (mkF m 21 #[VI 5, VI 2, VR b21, VI 0] [])) st22 ?_
    refine own_by (B := T22.setTop (mkF m 24 #[VI 5, VI 2, VR b21, VI 1] [])) (fun _ k => XS.iinc X22.here hx rfl (hb hby d1_21) rfl (l' := #[VI 5, VI 2, VR b21, VI 1]) rfl k) ?_
    refine own_by (B := T22.setTop (mkF m 25 #[VI 5, VI 2, VR b21, VI 1] [(.int 5)])) (fun _ k => XS.iloadN X22.here hx rfl (hb hby d1_24) rfl  k) ?_
    refine own_by (B := T22.setTop (mkF m 26 #[VI 5, VI 2, VR b21, VI 1] [(.int 2), (.int 5)])) (fun _ k => XS.iconst X22.here hx rfl (hb hby d1_25) k) ?_
    refine own_by (B := T22.setTop (mkF m 27 #[VI 5, VI 2, VR b21, VI 1] [(.int ((5 : Int32) &&& (2 : Int32)))])) (fun _ k => XS.iand X22.here hx rfl (hb hby d1_26) rfl k) ?_
    refine own_by (B := T22.setTop (mkF m 37 #[VI 5, VI 2, VR b21, VI 1] [])) (fun _ k => XS.ifYes X22.here hx rfl (pc0 := 27) (pc' := 37) rfl (hb hby d1_27) rfl (XT.i0_eq_t (by decide)) (by decide) (by decide) k) ?_
    refine own_by (B := T22.setTop (mkF m 38 #[VI 5, VI 2, VR b21, VI 1] [(.int 5)])) (fun _ k => XS.iloadN X22.here hx rfl (hb hby d1_37) rfl  k) ?_
    refine own_by (B := T22.setTop (mkF m 39 #[VI 5, VI 2, VR b21, VI 1] [(.int 4), (.int 5)])) (fun _ k => XS.iconst X22.here hx rfl (hb hby d1_38) k) ?_
    refine own_by (B := T22.setTop (mkF m 40 #[VI 5, VI 2, VR b21, VI 1] [(.int ((5 : Int32) &&& (4 : Int32)))])) (fun _ k => XS.iand X22.here hx rfl (hb hby d1_39) rfl k) ?_
    refine own_by (B := T22.setTop (mkF m 43 #[VI 5, VI 2, VR b21, VI 1] [])) (fun _ k => XS.ifNo X22.here hx rfl (hb hby d1_40) rfl (XT.i0_eq_f (by decide)) k) ?_
    refine own_by (B := T22.setTop (mkF m 44 #[VI 5, VI 2, VR b21, VI 1] [(.ref b21)])) (fun _ k => XS.aloadN X22.here hx rfl (hb hby d1_43) rfl rfl  k) ?_
    refine own_by (B := T22.setTop (mkF m 45 #[VI 5, VI 2, VR b21, VI 1] [(.int 1), (.ref b21)])) (fun _ k => XS.iloadN X22.here hx rfl (hb hby d1_44) rfl  k) ?_
    refine own_by (B := T22.setTop (mkF m 46 #[VI 5, VI 2, VR b21, VI 1] [(.int 2), (.int 1), (.ref b21)])) (fun _ k => XS.iconst X22.here hx rfl (hb hby d1_45) k) ?_
    obtain ⟨cl23, Ar23, qq23, Sz23, Nn23, Hh23, Gg23⟩ := id (V22)
    have hin23 : ¬ ((1 : Int32) < 0 ∨ cl23.slots.size ≤ ((1 : Int32)).toNatClampNeg) := inb_of Sz23 ⟨by decide, by decide⟩
    obtain ⟨T23, h23, X23, e23, W23, st23⟩ := stI X22 hx hZ e22 Ar23 (j := (1 : Int32)) hin23 (g := (mkF m 46 #[VI 5, VI 2, VR b21, VI 1] [(.int 2), (.int 1), (.ref b21)])) rfl rfl (hb hby d1_46)
    have sz23 := W23.size
    have O23 := O22.wr W23 gn21
    have K23 := K22.wr W23 (Or.inr fz21)
    have N23 := Fr.snoc X23 N22 gn21
    have V23 : Arv Z h23 b21 ka21 .int 2 [(.int 0), (.int 2)] (.int 0) := Arv.set Ar23 qq23 Sz23 Nn23 Hh23 Gg23 rfl W23 1 rfl (Nat.le_of_ble_eq_true rfl)
    refine own_by (B := T23.setTop (mkF m 47 #[VI 5, VI 2, VR b21, VI 1] [])) st23 ?_
    refine own_by (B := T23.setTop (mkF m 50 #[VI 5, VI 2, VR b21, VI 2] [])) (fun _ k => XS.iinc X23.here hx rfl (hb hby d1_47) rfl (l' := #[VI 5, VI 2, VR b21, VI 2]) rfl k) ?_
    refine own_by (B := T23.setTop (mkF m 51 #[VI 5, VI 2, VR b21, VI 2] [(.int 5)])) (fun _ k => XS.iloadN X23.here hx rfl (hb hby d1_50) rfl  k) ?_
    refine own_by (B := T23.setTop (mkF m 53 #[VI 5, VI 2, VR b21, VI 2] [(.int 8), (.int 5)])) (fun _ k => XS.bipush X23.here hx rfl (hb hby d1_51) k) ?_
    refine own_by (B := T23.setTop (mkF m 54 #[VI 5, VI 2, VR b21, VI 2] [(.int ((5 : Int32) &&& (8 : Int32)))])) (fun _ k => XS.iand X23.here hx rfl (hb hby d1_53) rfl k) ?_
    refine own_by (B := T23.setTop (mkF m 64 #[VI 5, VI 2, VR b21, VI 2] [])) (fun _ k => XS.ifYes X23.here hx rfl (pc0 := 54) (pc' := 64) rfl (hb hby d1_54) rfl (XT.i0_eq_t (by decide)) (by decide) (by decide) k) ?_
    refine own_by (B := T23.setTop (mkF m 65 #[VI 5, VI 2, VR b21, VI 2] [(.ref b21)])) (fun _ k => XS.aloadN X23.here hx rfl (hb hby d1_64) rfl rfl  k) ?_
    have c24 := ((EA21.wr W22).wr W23)
    have hl : own_cols (5 : Int32) = [(0 : Int32), (2 : Int32)] := by decide +kernel
    exact own_retA X23 hx hrt rfl rfl hlk (hb hby d1_65) (by decide) (by decide) (by show own_QCo Z (5 : Int32) h0 n0 _ T23.heap _; rw [e23]; exact ⟨_, _, rfl, N23, K23, fz21, by rw [hl]; exact ⟨V23, rfl⟩, c24⟩)
  · refine own_by (B := s₁.setTop (mkF m 1 #[VI 6, UU, UU, UU] [(.int 6)])) (fun _ k => XS.iloadN X0.here hx rfl (hb hby d1_0) rfl  k) ?_
    obtain ⟨_, _, ⟨T25, L25, k25, n25⟩, -, X25, ⟨Lc25, hQ25, l25, y25, z25⟩, st25⟩ := Jvm.LawKit.callS X0 hx (y := (⟨"com/example/document_pattern_rules/documentpatternrules/pattern/PairingAddPinLaw", "pc", "(I)I"⟩ : MethodName)) hown (mvT hZ (own_hw 4 hw rfl)) (mvT hZ (own_hw 5 hw rfl)) (mvT hZ (own_hw 2 hw rfl)) (mvT hZ (own_hw 6 hw rfl)) (by decide) (backOf (W := 0) (rm2 l Z a0 hw [] (6 : Int32) h0 n0 (own_old_le O0)) hZ (own_hw 6 hw rfl) (own_hw 2 hw rfl) (by decide) (by decide)) (g := (mkF m 1 #[VI 6, UU, UU, UU] [(.int 6)])) rfl (by rw [hml]; rfl) (argsL := [(.int 6)]) (rest := []) (lenOf pd_1__I_I rfl) rfl (by show 2 * 0 + _ ≤ _; exact Nat.le_of_eq rfl) (hb hby d1_1) (fun _ _ => ⟨rfl, e0, (by decide : 0 + 0 ≤ _), (by decide : 0 + 0 ≤ _)⟩)
    dsimp only [Pt.U, Pt.locs, Pt.cells, Pt.slots] at X25 l25 y25 z25 st25 hQ25
    subst l25 y25 z25
    obtain ⟨rfl, N25, e25⟩ := hQ25
    refine own_by (B := T25.setTop (mkF m 4 #[VI 6, UU, UU, UU] [(.int (own_pc (6 : Int32)))])) st25 ?_
    have M25 := Fr.app N0 N25
    rw [show (own_pc (6 : Int32)) = (2 : Int32) from by decide +kernel]
    refine own_by (B := T25.setTop (mkF m 5 #[VI 6, VI 2, UU, UU] [])) (fun _ k => XS.istoreN X25.here hx rfl (hb hby d1_4) rfl (l' := #[VI 6, VI 2, UU, UU]) rfl k) ?_
    refine own_by (B := T25.setTop (mkF m 6 #[VI 6, VI 2, UU, UU] [(.int 2)])) (fun _ k => XS.iloadN X25.here hx rfl (hb hby d1_5) rfl  k) ?_
    obtain ⟨T26, h26, ka26, X26, e26, E26, A26, EA26, st26⟩ := newPE X25 hx hZ (own_hw 7 hw rfl) e25 (g := (mkF m 6 #[VI 6, VI 2, UU, UU] [(.int 2)])) rfl (hb hby d1_6) rfl (by decide) (cap := 2) (by decide) (by decide) (by decide) (by decide) (ad := "[I") (by decide)
    obtain ⟨b26, g26⟩ : ∃ z, z = h0.size := ⟨_, rfl⟩
    rw [← g26] at A26 EA26 st26
    have sz26 := E26.1
    have gn26 : n0 ≤ b26 := g26 ▸ own_old_le O0
    have fz26 : h0.size ≤ b26 := g26 ▸ K0.1
    have lt26 := own_lt A26.lt
    have O26 := O0.ext E26
    have K26 := K0.ext E26
    have V26 : Arv Z h26 b26 ka26 .int 2 [(.int 0), (.int 0)] (.int 0) := (Arv.new A26 (by decide)).pad (pad_rep [] (.int 0) 2)
    refine own_by (B := T26.setTop (mkF m 8 #[VI 6, VI 2, UU, UU] [(.ref b26)])) st26 ?_
    refine own_by (B := T26.setTop (mkF m 9 #[VI 6, VI 2, VR b26, UU] [])) (fun _ k => XS.astoreN X26.here hx rfl (hb hby d1_8) rfl rfl (l' := #[VI 6, VI 2, VR b26, UU]) rfl k) ?_
    refine own_by (B := T26.setTop (mkF m 10 #[VI 6, VI 2, VR b26, UU] [(.int 0)])) (fun _ k => XS.iconst X26.here hx rfl (hb hby d1_9) k) ?_
    refine own_by (B := T26.setTop (mkF m 11 #[VI 6, VI 2, VR b26, VI 0] [])) (fun _ k => XS.istoreN X26.here hx rfl (hb hby d1_10) rfl (l' := #[VI 6, VI 2, VR b26, VI 0]) rfl k) ?_
    refine own_by (B := T26.setTop (mkF m 12 #[VI 6, VI 2, VR b26, VI 0] [(.int 6)])) (fun _ k => XS.iloadN X26.here hx rfl (hb hby d1_11) rfl  k) ?_
    refine own_by (B := T26.setTop (mkF m 13 #[VI 6, VI 2, VR b26, VI 0] [(.int 1), (.int 6)])) (fun _ k => XS.iconst X26.here hx rfl (hb hby d1_12) k) ?_
    refine own_by (B := T26.setTop (mkF m 14 #[VI 6, VI 2, VR b26, VI 0] [(.int ((6 : Int32) &&& (1 : Int32)))])) (fun _ k => XS.iand X26.here hx rfl (hb hby d1_13) rfl k) ?_
    refine own_by (B := T26.setTop (mkF m 24 #[VI 6, VI 2, VR b26, VI 0] [])) (fun _ k => XS.ifYes X26.here hx rfl (pc0 := 14) (pc' := 24) rfl (hb hby d1_14) rfl (XT.i0_eq_t (by decide)) (by decide) (by decide) k) ?_
    refine own_by (B := T26.setTop (mkF m 25 #[VI 6, VI 2, VR b26, VI 0] [(.int 6)])) (fun _ k => XS.iloadN X26.here hx rfl (hb hby d1_24) rfl  k) ?_
    refine own_by (B := T26.setTop (mkF m 26 #[VI 6, VI 2, VR b26, VI 0] [(.int 2), (.int 6)])) (fun _ k => XS.iconst X26.here hx rfl (hb hby d1_25) k) ?_
    refine own_by (B := T26.setTop (mkF m 27 #[VI 6, VI 2, VR b26, VI 0] [(.int ((6 : Int32) &&& (2 : Int32)))])) (fun _ k => XS.iand X26.here hx rfl (hb hby d1_26) rfl k) ?_
    refine own_by (B := T26.setTop (mkF m 30 #[VI 6, VI 2, VR b26, VI 0] [])) (fun _ k => XS.ifNo X26.here hx rfl (hb hby d1_27) rfl (XT.i0_eq_f (by decide)) k) ?_
    refine own_by (B := T26.setTop (mkF m 31 #[VI 6, VI 2, VR b26, VI 0] [(.ref b26)])) (fun _ k => XS.aloadN X26.here hx rfl (hb hby d1_30) rfl rfl  k) ?_
    refine own_by (B := T26.setTop (mkF m 32 #[VI 6, VI 2, VR b26, VI 0] [(.int 0), (.ref b26)])) (fun _ k => XS.iloadN X26.here hx rfl (hb hby d1_31) rfl  k) ?_
    refine own_by (B := T26.setTop (mkF m 33 #[VI 6, VI 2, VR b26, VI 0] [(.int 1), (.int 0), (.ref b26)])) (fun _ k => XS.iconst X26.here hx rfl (hb hby d1_32) k) ?_
    obtain ⟨cl27, Ar27, qq27, Sz27, Nn27, Hh27, Gg27⟩ := id (V26)
    have hin27 : ¬ ((0 : Int32) < 0 ∨ cl27.slots.size ≤ ((0 : Int32)).toNatClampNeg) := inb_of Sz27 ⟨by decide, by decide⟩
    obtain ⟨T27, h27, X27, e27, W27, st27⟩ := stI X26 hx hZ e26 Ar27 (j := (0 : Int32)) hin27 (g := (mkF m 33 #[VI 6, VI 2, VR b26, VI 0] [(.int 1), (.int 0), (.ref b26)])) rfl rfl (hb hby d1_33)
    have sz27 := W27.size
    have O27 := O26.wr W27 gn26
    have K27 := K26.wr W27 (Or.inr fz26)
    have N27 := Fr.snoc X27 M25 gn26
    have V27 : Arv Z h27 b26 ka26 .int 2 [(.int 1), (.int 0)] (.int 0) := Arv.set Ar27 qq27 Sz27 Nn27 Hh27 Gg27 rfl W27 0 rfl (Nat.le_of_ble_eq_true rfl)
    refine own_by (B := T27.setTop (mkF m 34 #[VI 6, VI 2, VR b26, VI 0] [])) st27 ?_
    refine own_by (B := T27.setTop (mkF m 37 #[VI 6, VI 2, VR b26, VI 1] [])) (fun _ k => XS.iinc X27.here hx rfl (hb hby d1_34) rfl (l' := #[VI 6, VI 2, VR b26, VI 1]) rfl k) ?_
    refine own_by (B := T27.setTop (mkF m 38 #[VI 6, VI 2, VR b26, VI 1] [(.int 6)])) (fun _ k => XS.iloadN X27.here hx rfl (hb hby d1_37) rfl  k) ?_
    refine own_by (B := T27.setTop (mkF m 39 #[VI 6, VI 2, VR b26, VI 1] [(.int 4), (.int 6)])) (fun _ k => XS.iconst X27.here hx rfl (hb hby d1_38) k) ?_
    refine own_by (B := T27.setTop (mkF m 40 #[VI 6, VI 2, VR b26, VI 1] [(.int ((6 : Int32) &&& (4 : Int32)))])) (fun _ k => XS.iand X27.here hx rfl (hb hby d1_39) rfl k) ?_
    refine own_by (B := T27.setTop (mkF m 43 #[VI 6, VI 2, VR b26, VI 1] [])) (fun _ k => XS.ifNo X27.here hx rfl (hb hby d1_40) rfl (XT.i0_eq_f (by decide)) k) ?_
    refine own_by (B := T27.setTop (mkF m 44 #[VI 6, VI 2, VR b26, VI 1] [(.ref b26)])) (fun _ k => XS.aloadN X27.here hx rfl (hb hby d1_43) rfl rfl  k) ?_
    refine own_by (B := T27.setTop (mkF m 45 #[VI 6, VI 2, VR b26, VI 1] [(.int 1), (.ref b26)])) (fun _ k => XS.iloadN X27.here hx rfl (hb hby d1_44) rfl  k) ?_
    refine own_by (B := T27.setTop (mkF m 46 #[VI 6, VI 2, VR b26, VI 1] [(.int 2), (.int 1), (.ref b26)])) (fun _ k => XS.iconst X27.here hx rfl (hb hby d1_45) k) ?_
    obtain ⟨cl28, Ar28, qq28, Sz28, Nn28, Hh28, Gg28⟩ := id (V27)
    have hin28 : ¬ ((1 : Int32) < 0 ∨ cl28.slots.size ≤ ((1 : Int32)).toNatClampNeg) := inb_of Sz28 ⟨by decide, by decide⟩
    obtain ⟨T28, h28, X28, e28, W28, st28⟩ := stI X27 hx hZ e27 Ar28 (j := (1 : Int32)) hin28 (g := (mkF m 46 #[VI 6, VI 2, VR b26, VI 1] [(.int 2), (.int 1), (.ref b26)])) rfl rfl (hb hby d1_46)
    have sz28 := W28.size
    have O28 := O27.wr W28 gn26
    have K28 := K27.wr W28 (Or.inr fz26)
    have N28 := Fr.snoc X28 N27 gn26
    have V28 : Arv Z h28 b26 ka26 .int 2 [(.int 1), (.int 2)] (.int 0) := Arv.set Ar28 qq28 Sz28 Nn28 Hh28 Gg28 rfl W28 1 rfl (Nat.le_of_ble_eq_true rfl)
    refine own_by (B := T28.setTop (mkF m 47 #[VI 6, VI 2, VR b26, VI 1] [])) st28 ?_
    refine own_by (B := T28.setTop (mkF m 50 #[VI 6, VI 2, VR b26, VI 2] [])) (fun _ k => XS.iinc X28.here hx rfl (hb hby d1_47) rfl (l' := #[VI 6, VI 2, VR b26, VI 2]) rfl k) ?_
    refine own_by (B := T28.setTop (mkF m 51 #[VI 6, VI 2, VR b26, VI 2] [(.int 6)])) (fun _ k => XS.iloadN X28.here hx rfl (hb hby d1_50) rfl  k) ?_
    refine own_by (B := T28.setTop (mkF m 53 #[VI 6, VI 2, VR b26, VI 2] [(.int 8), (.int 6)])) (fun _ k => XS.bipush X28.here hx rfl (hb hby d1_51) k) ?_
    refine own_by (B := T28.setTop (mkF m 54 #[VI 6, VI 2, VR b26, VI 2] [(.int ((6 : Int32) &&& (8 : Int32)))])) (fun _ k => XS.iand X28.here hx rfl (hb hby d1_53) rfl k) ?_
    refine own_by (B := T28.setTop (mkF m 64 #[VI 6, VI 2, VR b26, VI 2] [])) (fun _ k => XS.ifYes X28.here hx rfl (pc0 := 54) (pc' := 64) rfl (hb hby d1_54) rfl (XT.i0_eq_t (by decide)) (by decide) (by decide) k) ?_
    refine own_by (B := T28.setTop (mkF m 65 #[VI 6, VI 2, VR b26, VI 2] [(.ref b26)])) (fun _ k => XS.aloadN X28.here hx rfl (hb hby d1_64) rfl rfl  k) ?_
    have c29 := ((EA26.wr W27).wr W28)
    have hl : own_cols (6 : Int32) = [(1 : Int32), (2 : Int32)] := by decide +kernel
    exact own_retA X28 hx hrt rfl rfl hlk (hb hby d1_65) (by decide) (by decide) (by show own_QCo Z (6 : Int32) h0 n0 _ T28.heap _; rw [e28]; exact ⟨_, _, rfl, N28, K28, fz26, by rw [hl]; exact ⟨V28, rfl⟩, c29⟩)
  · refine own_by (B := s₁.setTop (mkF m 1 #[VI 7, UU, UU, UU] [(.int 7)])) (fun _ k => XS.iloadN X0.here hx rfl (hb hby d1_0) rfl  k) ?_
    obtain ⟨_, _, ⟨T30, L30, k30, n30⟩, -, X30, ⟨Lc30, hQ30, l30, y30, z30⟩, st30⟩ := Jvm.LawKit.callS X0 hx (y := (⟨"com/example/document_pattern_rules/documentpatternrules/pattern/PairingAddPinLaw", "pc", "(I)I"⟩ : MethodName)) hown (mvT hZ (own_hw 4 hw rfl)) (mvT hZ (own_hw 5 hw rfl)) (mvT hZ (own_hw 2 hw rfl)) (mvT hZ (own_hw 6 hw rfl)) (by decide) (backOf (W := 0) (rm2 l Z a0 hw [] (7 : Int32) h0 n0 (own_old_le O0)) hZ (own_hw 6 hw rfl) (own_hw 2 hw rfl) (by decide) (by decide)) (g := (mkF m 1 #[VI 7, UU, UU, UU] [(.int 7)])) rfl (by rw [hml]; rfl) (argsL := [(.int 7)]) (rest := []) (lenOf pd_1__I_I rfl) rfl (by show 2 * 0 + _ ≤ _; exact Nat.le_of_eq rfl) (hb hby d1_1) (fun _ _ => ⟨rfl, e0, (by decide : 0 + 0 ≤ _), (by decide : 0 + 0 ≤ _)⟩)
    dsimp only [Pt.U, Pt.locs, Pt.cells, Pt.slots] at X30 l30 y30 z30 st30 hQ30
    subst l30 y30 z30
    obtain ⟨rfl, N30, e30⟩ := hQ30
    refine own_by (B := T30.setTop (mkF m 4 #[VI 7, UU, UU, UU] [(.int (own_pc (7 : Int32)))])) st30 ?_
    have M30 := Fr.app N0 N30
    rw [show (own_pc (7 : Int32)) = (3 : Int32) from by decide +kernel]
    refine own_by (B := T30.setTop (mkF m 5 #[VI 7, VI 3, UU, UU] [])) (fun _ k => XS.istoreN X30.here hx rfl (hb hby d1_4) rfl (l' := #[VI 7, VI 3, UU, UU]) rfl k) ?_
    refine own_by (B := T30.setTop (mkF m 6 #[VI 7, VI 3, UU, UU] [(.int 3)])) (fun _ k => XS.iloadN X30.here hx rfl (hb hby d1_5) rfl  k) ?_
    obtain ⟨T31, h31, ka31, X31, e31, E31, A31, EA31, st31⟩ := newPE X30 hx hZ (own_hw 7 hw rfl) e30 (g := (mkF m 6 #[VI 7, VI 3, UU, UU] [(.int 3)])) rfl (hb hby d1_6) rfl (by decide) (cap := 3) (by decide) (by decide) (by decide) (by decide) (ad := "[I") (by decide)
    obtain ⟨b31, g31⟩ : ∃ z, z = h0.size := ⟨_, rfl⟩
    rw [← g31] at A31 EA31 st31
    have sz31 := E31.1
    have gn31 : n0 ≤ b31 := g31 ▸ own_old_le O0
    have fz31 : h0.size ≤ b31 := g31 ▸ K0.1
    have lt31 := own_lt A31.lt
    have O31 := O0.ext E31
    have K31 := K0.ext E31
    have V31 : Arv Z h31 b31 ka31 .int 3 [(.int 0), (.int 0), (.int 0)] (.int 0) := (Arv.new A31 (by decide)).pad (pad_rep [] (.int 0) 3)
    refine own_by (B := T31.setTop (mkF m 8 #[VI 7, VI 3, UU, UU] [(.ref b31)])) st31 ?_
    refine own_by (B := T31.setTop (mkF m 9 #[VI 7, VI 3, VR b31, UU] [])) (fun _ k => XS.astoreN X31.here hx rfl (hb hby d1_8) rfl rfl (l' := #[VI 7, VI 3, VR b31, UU]) rfl k) ?_
    refine own_by (B := T31.setTop (mkF m 10 #[VI 7, VI 3, VR b31, UU] [(.int 0)])) (fun _ k => XS.iconst X31.here hx rfl (hb hby d1_9) k) ?_
    refine own_by (B := T31.setTop (mkF m 11 #[VI 7, VI 3, VR b31, VI 0] [])) (fun _ k => XS.istoreN X31.here hx rfl (hb hby d1_10) rfl (l' := #[VI 7, VI 3, VR b31, VI 0]) rfl k) ?_
    refine own_by (B := T31.setTop (mkF m 12 #[VI 7, VI 3, VR b31, VI 0] [(.int 7)])) (fun _ k => XS.iloadN X31.here hx rfl (hb hby d1_11) rfl  k) ?_
    refine own_by (B := T31.setTop (mkF m 13 #[VI 7, VI 3, VR b31, VI 0] [(.int 1), (.int 7)])) (fun _ k => XS.iconst X31.here hx rfl (hb hby d1_12) k) ?_
    refine own_by (B := T31.setTop (mkF m 14 #[VI 7, VI 3, VR b31, VI 0] [(.int ((7 : Int32) &&& (1 : Int32)))])) (fun _ k => XS.iand X31.here hx rfl (hb hby d1_13) rfl k) ?_
    refine own_by (B := T31.setTop (mkF m 17 #[VI 7, VI 3, VR b31, VI 0] [])) (fun _ k => XS.ifNo X31.here hx rfl (hb hby d1_14) rfl (XT.i0_eq_f (by decide)) k) ?_
    refine own_by (B := T31.setTop (mkF m 18 #[VI 7, VI 3, VR b31, VI 0] [(.ref b31)])) (fun _ k => XS.aloadN X31.here hx rfl (hb hby d1_17) rfl rfl  k) ?_
    refine own_by (B := T31.setTop (mkF m 19 #[VI 7, VI 3, VR b31, VI 0] [(.int 0), (.ref b31)])) (fun _ k => XS.iloadN X31.here hx rfl (hb hby d1_18) rfl  k) ?_
    refine own_by (B := T31.setTop (mkF m 20 #[VI 7, VI 3, VR b31, VI 0] [(.int 0), (.int 0), (.ref b31)])) (fun _ k => XS.iconst X31.here hx rfl (hb hby d1_19) k) ?_
    obtain ⟨cl32, Ar32, qq32, Sz32, Nn32, Hh32, Gg32⟩ := id (V31)
    have hin32 : ¬ ((0 : Int32) < 0 ∨ cl32.slots.size ≤ ((0 : Int32)).toNatClampNeg) := inb_of Sz32 ⟨by decide, by decide⟩
    obtain ⟨T32, h32, X32, e32, W32, st32⟩ := stI X31 hx hZ e31 Ar32 (j := (0 : Int32)) hin32 (g := (mkF m 20 #[VI 7, VI 3, VR b31, VI 0] [(.int 0), (.int 0), (.ref b31)])) rfl rfl (hb hby d1_20)
    have sz32 := W32.size
    have O32 := O31.wr W32 gn31
    have K32 := K31.wr W32 (Or.inr fz31)
    have N32 := Fr.snoc X32 M30 gn31
    have V32 : Arv Z h32 b31 ka31 .int 3 [(.int 0), (.int 0), (.int 0)] (.int 0) := Arv.set Ar32 qq32 Sz32 Nn32 Hh32 Gg32 rfl W32 0 rfl (Nat.le_of_ble_eq_true rfl)
    refine own_by (B := T32.setTop (mkF m 21 #[VI 7, VI 3, VR b31, VI 0] [])) st32 ?_
    refine own_by (B := T32.setTop (mkF m 24 #[VI 7, VI 3, VR b31, VI 1] [])) (fun _ k => XS.iinc X32.here hx rfl (hb hby d1_21) rfl (l' := #[VI 7, VI 3, VR b31, VI 1]) rfl k) ?_
    refine own_by (B := T32.setTop (mkF m 25 #[VI 7, VI 3, VR b31, VI 1] [(.int 7)])) (fun _ k => XS.iloadN X32.here hx rfl (hb hby d1_24) rfl  k) ?_
    refine own_by (B := T32.setTop (mkF m 26 #[VI 7, VI 3, VR b31, VI 1] [(.int 2), (.int 7)])) (fun _ k => XS.iconst X32.here hx rfl (hb hby d1_25) k) ?_
    refine own_by (B := T32.setTop (mkF m 27 #[VI 7, VI 3, VR b31, VI 1] [(.int ((7 : Int32) &&& (2 : Int32)))])) (fun _ k => XS.iand X32.here hx rfl (hb hby d1_26) rfl k) ?_
    refine own_by (B := T32.setTop (mkF m 30 #[VI 7, VI 3, VR b31, VI 1] [])) (fun _ k => XS.ifNo X32.here hx rfl (hb hby d1_27) rfl (XT.i0_eq_f (by decide)) k) ?_
    refine own_by (B := T32.setTop (mkF m 31 #[VI 7, VI 3, VR b31, VI 1] [(.ref b31)])) (fun _ k => XS.aloadN X32.here hx rfl (hb hby d1_30) rfl rfl  k) ?_
    refine own_by (B := T32.setTop (mkF m 32 #[VI 7, VI 3, VR b31, VI 1] [(.int 1), (.ref b31)])) (fun _ k => XS.iloadN X32.here hx rfl (hb hby d1_31) rfl  k) ?_
    refine own_by (B := T32.setTop (mkF m 33 #[VI 7, VI 3, VR b31, VI 1] [(.int 1), (.int 1), (.ref b31)])) (fun _ k => XS.iconst X32.here hx rfl (hb hby d1_32) k) ?_
    obtain ⟨cl33, Ar33, qq33, Sz33, Nn33, Hh33, Gg33⟩ := id (V32)
    have hin33 : ¬ ((1 : Int32) < 0 ∨ cl33.slots.size ≤ ((1 : Int32)).toNatClampNeg) := inb_of Sz33 ⟨by decide, by decide⟩
    obtain ⟨T33, h33, X33, e33, W33, st33⟩ := stI X32 hx hZ e32 Ar33 (j := (1 : Int32)) hin33 (g := (mkF m 33 #[VI 7, VI 3, VR b31, VI 1] [(.int 1), (.int 1), (.ref b31)])) rfl rfl (hb hby d1_33)
    have sz33 := W33.size
    have O33 := O32.wr W33 gn31
    have K33 := K32.wr W33 (Or.inr fz31)
    have N33 := Fr.snoc X33 N32 gn31
    have V33 : Arv Z h33 b31 ka31 .int 3 [(.int 0), (.int 1), (.int 0)] (.int 0) := Arv.set Ar33 qq33 Sz33 Nn33 Hh33 Gg33 rfl W33 1 rfl (Nat.le_of_ble_eq_true rfl)
    refine own_by (B := T33.setTop (mkF m 34 #[VI 7, VI 3, VR b31, VI 1] [])) st33 ?_
    refine own_by (B := T33.setTop (mkF m 37 #[VI 7, VI 3, VR b31, VI 2] [])) (fun _ k => XS.iinc X33.here hx rfl (hb hby d1_34) rfl (l' := #[VI 7, VI 3, VR b31, VI 2]) rfl k) ?_
    refine own_by (B := T33.setTop (mkF m 38 #[VI 7, VI 3, VR b31, VI 2] [(.int 7)])) (fun _ k => XS.iloadN X33.here hx rfl (hb hby d1_37) rfl  k) ?_
    refine own_by (B := T33.setTop (mkF m 39 #[VI 7, VI 3, VR b31, VI 2] [(.int 4), (.int 7)])) (fun _ k => XS.iconst X33.here hx rfl (hb hby d1_38) k) ?_
    refine own_by (B := T33.setTop (mkF m 40 #[VI 7, VI 3, VR b31, VI 2] [(.int ((7 : Int32) &&& (4 : Int32)))])) (fun _ k => XS.iand X33.here hx rfl (hb hby d1_39) rfl k) ?_
    refine own_by (B := T33.setTop (mkF m 43 #[VI 7, VI 3, VR b31, VI 2] [])) (fun _ k => XS.ifNo X33.here hx rfl (hb hby d1_40) rfl (XT.i0_eq_f (by decide)) k) ?_
    refine own_by (B := T33.setTop (mkF m 44 #[VI 7, VI 3, VR b31, VI 2] [(.ref b31)])) (fun _ k => XS.aloadN X33.here hx rfl (hb hby d1_43) rfl rfl  k) ?_
    refine own_by (B := T33.setTop (mkF m 45 #[VI 7, VI 3, VR b31, VI 2] [(.int 2), (.ref b31)])) (fun _ k => XS.iloadN X33.here hx rfl (hb hby d1_44) rfl  k) ?_
    refine own_by (B := T33.setTop (mkF m 46 #[VI 7, VI 3, VR b31, VI 2] [(.int 2), (.int 2), (.ref b31)])) (fun _ k => XS.iconst X33.here hx rfl (hb hby d1_45) k) ?_
    obtain ⟨cl34, Ar34, qq34, Sz34, Nn34, Hh34, Gg34⟩ := id (V33)
    have hin34 : ¬ ((2 : Int32) < 0 ∨ cl34.slots.size ≤ ((2 : Int32)).toNatClampNeg) := inb_of Sz34 ⟨by decide, by decide⟩
    obtain ⟨T34, h34, X34, e34, W34, st34⟩ := stI X33 hx hZ e33 Ar34 (j := (2 : Int32)) hin34 (g := (mkF m 46 #[VI 7, VI 3, VR b31, VI 2] [(.int 2), (.int 2), (.ref b31)])) rfl rfl (hb hby d1_46)
    have sz34 := W34.size
    have O34 := O33.wr W34 gn31
    have K34 := K33.wr W34 (Or.inr fz31)
    have N34 := Fr.snoc X34 N33 gn31
    have V34 : Arv Z h34 b31 ka31 .int 3 [(.int 0), (.int 1), (.int 2)] (.int 0) := Arv.set Ar34 qq34 Sz34 Nn34 Hh34 Gg34 rfl W34 2 rfl (Nat.le_of_ble_eq_true rfl)
    refine own_by (B := T34.setTop (mkF m 47 #[VI 7, VI 3, VR b31, VI 2] [])) st34 ?_
    refine own_by (B := T34.setTop (mkF m 50 #[VI 7, VI 3, VR b31, VI 3] [])) (fun _ k => XS.iinc X34.here hx rfl (hb hby d1_47) rfl (l' := #[VI 7, VI 3, VR b31, VI 3]) rfl k) ?_
    refine own_by (B := T34.setTop (mkF m 51 #[VI 7, VI 3, VR b31, VI 3] [(.int 7)])) (fun _ k => XS.iloadN X34.here hx rfl (hb hby d1_50) rfl  k) ?_
    refine own_by (B := T34.setTop (mkF m 53 #[VI 7, VI 3, VR b31, VI 3] [(.int 8), (.int 7)])) (fun _ k => XS.bipush X34.here hx rfl (hb hby d1_51) k) ?_
    refine own_by (B := T34.setTop (mkF m 54 #[VI 7, VI 3, VR b31, VI 3] [(.int ((7 : Int32) &&& (8 : Int32)))])) (fun _ k => XS.iand X34.here hx rfl (hb hby d1_53) rfl k) ?_
    refine own_by (B := T34.setTop (mkF m 64 #[VI 7, VI 3, VR b31, VI 3] [])) (fun _ k => XS.ifYes X34.here hx rfl (pc0 := 54) (pc' := 64) rfl (hb hby d1_54) rfl (XT.i0_eq_t (by decide)) (by decide) (by decide) k) ?_
    refine own_by (B := T34.setTop (mkF m 65 #[VI 7, VI 3, VR b31, VI 3] [(.ref b31)])) (fun _ k => XS.aloadN X34.here hx rfl (hb hby d1_64) rfl rfl  k) ?_
    have c35 := (((EA31.wr W32).wr W33).wr W34)
    have hl : own_cols (7 : Int32) = [(0 : Int32), (1 : Int32), (2 : Int32)] := by decide +kernel
    exact own_retA X34 hx hrt rfl rfl hlk (hb hby d1_65) (by decide) (by decide) (by show own_QCo Z (7 : Int32) h0 n0 _ T34.heap _; rw [e34]; exact ⟨_, _, rfl, N34, K34, fz31, by rw [hl]; exact ⟨V34, rfl⟩, c35⟩)
  · refine own_by (B := s₁.setTop (mkF m 1 #[VI 8, UU, UU, UU] [(.int 8)])) (fun _ k => XS.iloadN X0.here hx rfl (hb hby d1_0) rfl  k) ?_
    obtain ⟨_, _, ⟨T36, L36, k36, n36⟩, -, X36, ⟨Lc36, hQ36, l36, y36, z36⟩, st36⟩ := Jvm.LawKit.callS X0 hx (y := (⟨"com/example/document_pattern_rules/documentpatternrules/pattern/PairingAddPinLaw", "pc", "(I)I"⟩ : MethodName)) hown (mvT hZ (own_hw 4 hw rfl)) (mvT hZ (own_hw 5 hw rfl)) (mvT hZ (own_hw 2 hw rfl)) (mvT hZ (own_hw 6 hw rfl)) (by decide) (backOf (W := 0) (rm2 l Z a0 hw [] (8 : Int32) h0 n0 (own_old_le O0)) hZ (own_hw 6 hw rfl) (own_hw 2 hw rfl) (by decide) (by decide)) (g := (mkF m 1 #[VI 8, UU, UU, UU] [(.int 8)])) rfl (by rw [hml]; rfl) (argsL := [(.int 8)]) (rest := []) (lenOf pd_1__I_I rfl) rfl (by show 2 * 0 + _ ≤ _; exact Nat.le_of_eq rfl) (hb hby d1_1) (fun _ _ => ⟨rfl, e0, (by decide : 0 + 0 ≤ _), (by decide : 0 + 0 ≤ _)⟩)
    dsimp only [Pt.U, Pt.locs, Pt.cells, Pt.slots] at X36 l36 y36 z36 st36 hQ36
    subst l36 y36 z36
    obtain ⟨rfl, N36, e36⟩ := hQ36
    refine own_by (B := T36.setTop (mkF m 4 #[VI 8, UU, UU, UU] [(.int (own_pc (8 : Int32)))])) st36 ?_
    have M36 := Fr.app N0 N36
    rw [show (own_pc (8 : Int32)) = (1 : Int32) from by decide +kernel]
    refine own_by (B := T36.setTop (mkF m 5 #[VI 8, VI 1, UU, UU] [])) (fun _ k => XS.istoreN X36.here hx rfl (hb hby d1_4) rfl (l' := #[VI 8, VI 1, UU, UU]) rfl k) ?_
    refine own_by (B := T36.setTop (mkF m 6 #[VI 8, VI 1, UU, UU] [(.int 1)])) (fun _ k => XS.iloadN X36.here hx rfl (hb hby d1_5) rfl  k) ?_
    obtain ⟨T37, h37, ka37, X37, e37, E37, A37, EA37, st37⟩ := newPE X36 hx hZ (own_hw 7 hw rfl) e36 (g := (mkF m 6 #[VI 8, VI 1, UU, UU] [(.int 1)])) rfl (hb hby d1_6) rfl (by decide) (cap := 1) (by decide) (by decide) (by decide) (by decide) (ad := "[I") (by decide)
    obtain ⟨b37, g37⟩ : ∃ z, z = h0.size := ⟨_, rfl⟩
    rw [← g37] at A37 EA37 st37
    have sz37 := E37.1
    have gn37 : n0 ≤ b37 := g37 ▸ own_old_le O0
    have fz37 : h0.size ≤ b37 := g37 ▸ K0.1
    have lt37 := own_lt A37.lt
    have O37 := O0.ext E37
    have K37 := K0.ext E37
    have V37 : Arv Z h37 b37 ka37 .int 1 [(.int 0)] (.int 0) := (Arv.new A37 (by decide)).pad (pad_rep [] (.int 0) 1)
    refine own_by (B := T37.setTop (mkF m 8 #[VI 8, VI 1, UU, UU] [(.ref b37)])) st37 ?_
    refine own_by (B := T37.setTop (mkF m 9 #[VI 8, VI 1, VR b37, UU] [])) (fun _ k => XS.astoreN X37.here hx rfl (hb hby d1_8) rfl rfl (l' := #[VI 8, VI 1, VR b37, UU]) rfl k) ?_
    refine own_by (B := T37.setTop (mkF m 10 #[VI 8, VI 1, VR b37, UU] [(.int 0)])) (fun _ k => XS.iconst X37.here hx rfl (hb hby d1_9) k) ?_
    refine own_by (B := T37.setTop (mkF m 11 #[VI 8, VI 1, VR b37, VI 0] [])) (fun _ k => XS.istoreN X37.here hx rfl (hb hby d1_10) rfl (l' := #[VI 8, VI 1, VR b37, VI 0]) rfl k) ?_
    refine own_by (B := T37.setTop (mkF m 12 #[VI 8, VI 1, VR b37, VI 0] [(.int 8)])) (fun _ k => XS.iloadN X37.here hx rfl (hb hby d1_11) rfl  k) ?_
    refine own_by (B := T37.setTop (mkF m 13 #[VI 8, VI 1, VR b37, VI 0] [(.int 1), (.int 8)])) (fun _ k => XS.iconst X37.here hx rfl (hb hby d1_12) k) ?_
    refine own_by (B := T37.setTop (mkF m 14 #[VI 8, VI 1, VR b37, VI 0] [(.int ((8 : Int32) &&& (1 : Int32)))])) (fun _ k => XS.iand X37.here hx rfl (hb hby d1_13) rfl k) ?_
    refine own_by (B := T37.setTop (mkF m 24 #[VI 8, VI 1, VR b37, VI 0] [])) (fun _ k => XS.ifYes X37.here hx rfl (pc0 := 14) (pc' := 24) rfl (hb hby d1_14) rfl (XT.i0_eq_t (by decide)) (by decide) (by decide) k) ?_
    refine own_by (B := T37.setTop (mkF m 25 #[VI 8, VI 1, VR b37, VI 0] [(.int 8)])) (fun _ k => XS.iloadN X37.here hx rfl (hb hby d1_24) rfl  k) ?_
    refine own_by (B := T37.setTop (mkF m 26 #[VI 8, VI 1, VR b37, VI 0] [(.int 2), (.int 8)])) (fun _ k => XS.iconst X37.here hx rfl (hb hby d1_25) k) ?_
    refine own_by (B := T37.setTop (mkF m 27 #[VI 8, VI 1, VR b37, VI 0] [(.int ((8 : Int32) &&& (2 : Int32)))])) (fun _ k => XS.iand X37.here hx rfl (hb hby d1_26) rfl k) ?_
    refine own_by (B := T37.setTop (mkF m 37 #[VI 8, VI 1, VR b37, VI 0] [])) (fun _ k => XS.ifYes X37.here hx rfl (pc0 := 27) (pc' := 37) rfl (hb hby d1_27) rfl (XT.i0_eq_t (by decide)) (by decide) (by decide) k) ?_
    refine own_by (B := T37.setTop (mkF m 38 #[VI 8, VI 1, VR b37, VI 0] [(.int 8)])) (fun _ k => XS.iloadN X37.here hx rfl (hb hby d1_37) rfl  k) ?_
    refine own_by (B := T37.setTop (mkF m 39 #[VI 8, VI 1, VR b37, VI 0] [(.int 4), (.int 8)])) (fun _ k => XS.iconst X37.here hx rfl (hb hby d1_38) k) ?_
    refine own_by (B := T37.setTop (mkF m 40 #[VI 8, VI 1, VR b37, VI 0] [(.int ((8 : Int32) &&& (4 : Int32)))])) (fun _ k => XS.iand X37.here hx rfl (hb hby d1_39) rfl k) ?_
    refine own_by (B := T37.setTop (mkF m 50 #[VI 8, VI 1, VR b37, VI 0] [])) (fun _ k => XS.ifYes X37.here hx rfl (pc0 := 40) (pc' := 50) rfl (hb hby d1_40) rfl (XT.i0_eq_t (by decide)) (by decide) (by decide) k) ?_
    refine own_by (B := T37.setTop (mkF m 51 #[VI 8, VI 1, VR b37, VI 0] [(.int 8)])) (fun _ k => XS.iloadN X37.here hx rfl (hb hby d1_50) rfl  k) ?_
    refine own_by (B := T37.setTop (mkF m 53 #[VI 8, VI 1, VR b37, VI 0] [(.int 8), (.int 8)])) (fun _ k => XS.bipush X37.here hx rfl (hb hby d1_51) k) ?_
    refine own_by (B := T37.setTop (mkF m 54 #[VI 8, VI 1, VR b37, VI 0] [(.int ((8 : Int32) &&& (8 : Int32)))])) (fun _ k => XS.iand X37.here hx rfl (hb hby d1_53) rfl k) ?_
    refine own_by (B := T37.setTop (mkF m 57 #[VI 8, VI 1, VR b37, VI 0] [])) (fun _ k => XS.ifNo X37.here hx rfl (hb hby d1_54) rfl (XT.i0_eq_f (by decide)) k) ?_
    refine own_by (B := T37.setTop (mkF m 58 #[VI 8, VI 1, VR b37, VI 0] [(.ref b37)])) (fun _ k => XS.aloadN X37.here hx rfl (hb hby d1_57) rfl rfl  k) ?_
    refine own_by (B := T37.setTop (mkF m 59 #[VI 8, VI 1, VR b37, VI 0] [(.int 0), (.ref b37)])) (fun _ k => XS.iloadN X37.here hx rfl (hb hby d1_58) rfl  k) ?_
    refine own_by (B := T37.setTop (mkF m 60 #[VI 8, VI 1, VR b37, VI 0] [(.int 3), (.int 0), (.ref b37)])) (fun _ k => XS.iconst X37.here hx rfl (hb hby d1_59) k) ?_
    obtain ⟨cl38, Ar38, qq38, Sz38, Nn38, Hh38, Gg38⟩ := id (V37)
    have hin38 : ¬ ((0 : Int32) < 0 ∨ cl38.slots.size ≤ ((0 : Int32)).toNatClampNeg) := inb_of Sz38 ⟨by decide, by decide⟩
    obtain ⟨T38, h38, X38, e38, W38, st38⟩ := stI X37 hx hZ e37 Ar38 (j := (0 : Int32)) hin38 (g := (mkF m 60 #[VI 8, VI 1, VR b37, VI 0] [(.int 3), (.int 0), (.ref b37)])) rfl rfl (hb hby d1_60)
    have sz38 := W38.size
    have O38 := O37.wr W38 gn37
    have K38 := K37.wr W38 (Or.inr fz37)
    have N38 := Fr.snoc X38 M36 gn37
    have V38 : Arv Z h38 b37 ka37 .int 1 [(.int 3)] (.int 0) := Arv.set Ar38 qq38 Sz38 Nn38 Hh38 Gg38 rfl W38 0 rfl (Nat.le_of_ble_eq_true rfl)
    refine own_by (B := T38.setTop (mkF m 61 #[VI 8, VI 1, VR b37, VI 0] [])) st38 ?_
    refine own_by (B := T38.setTop (mkF m 64 #[VI 8, VI 1, VR b37, VI 1] [])) (fun _ k => XS.iinc X38.here hx rfl (hb hby d1_61) rfl (l' := #[VI 8, VI 1, VR b37, VI 1]) rfl k) ?_
    refine own_by (B := T38.setTop (mkF m 65 #[VI 8, VI 1, VR b37, VI 1] [(.ref b37)])) (fun _ k => XS.aloadN X38.here hx rfl (hb hby d1_64) rfl rfl  k) ?_
    have c39 := (EA37.wr W38)
    have hl : own_cols (8 : Int32) = [(3 : Int32)] := by decide +kernel
    exact own_retA X38 hx hrt rfl rfl hlk (hb hby d1_65) (by decide) (by decide) (by show own_QCo Z (8 : Int32) h0 n0 _ T38.heap _; rw [e38]; exact ⟨_, _, rfl, N38, K38, fz37, by rw [hl]; exact ⟨V38, rfl⟩, c39⟩)
  · refine own_by (B := s₁.setTop (mkF m 1 #[VI 9, UU, UU, UU] [(.int 9)])) (fun _ k => XS.iloadN X0.here hx rfl (hb hby d1_0) rfl  k) ?_
    obtain ⟨_, _, ⟨T40, L40, k40, n40⟩, -, X40, ⟨Lc40, hQ40, l40, y40, z40⟩, st40⟩ := Jvm.LawKit.callS X0 hx (y := (⟨"com/example/document_pattern_rules/documentpatternrules/pattern/PairingAddPinLaw", "pc", "(I)I"⟩ : MethodName)) hown (mvT hZ (own_hw 4 hw rfl)) (mvT hZ (own_hw 5 hw rfl)) (mvT hZ (own_hw 2 hw rfl)) (mvT hZ (own_hw 6 hw rfl)) (by decide) (backOf (W := 0) (rm2 l Z a0 hw [] (9 : Int32) h0 n0 (own_old_le O0)) hZ (own_hw 6 hw rfl) (own_hw 2 hw rfl) (by decide) (by decide)) (g := (mkF m 1 #[VI 9, UU, UU, UU] [(.int 9)])) rfl (by rw [hml]; rfl) (argsL := [(.int 9)]) (rest := []) (lenOf pd_1__I_I rfl) rfl (by show 2 * 0 + _ ≤ _; exact Nat.le_of_eq rfl) (hb hby d1_1) (fun _ _ => ⟨rfl, e0, (by decide : 0 + 0 ≤ _), (by decide : 0 + 0 ≤ _)⟩)
    dsimp only [Pt.U, Pt.locs, Pt.cells, Pt.slots] at X40 l40 y40 z40 st40 hQ40
    subst l40 y40 z40
    obtain ⟨rfl, N40, e40⟩ := hQ40
    refine own_by (B := T40.setTop (mkF m 4 #[VI 9, UU, UU, UU] [(.int (own_pc (9 : Int32)))])) st40 ?_
    have M40 := Fr.app N0 N40
    rw [show (own_pc (9 : Int32)) = (2 : Int32) from by decide +kernel]
    refine own_by (B := T40.setTop (mkF m 5 #[VI 9, VI 2, UU, UU] [])) (fun _ k => XS.istoreN X40.here hx rfl (hb hby d1_4) rfl (l' := #[VI 9, VI 2, UU, UU]) rfl k) ?_
    refine own_by (B := T40.setTop (mkF m 6 #[VI 9, VI 2, UU, UU] [(.int 2)])) (fun _ k => XS.iloadN X40.here hx rfl (hb hby d1_5) rfl  k) ?_
    obtain ⟨T41, h41, ka41, X41, e41, E41, A41, EA41, st41⟩ := newPE X40 hx hZ (own_hw 7 hw rfl) e40 (g := (mkF m 6 #[VI 9, VI 2, UU, UU] [(.int 2)])) rfl (hb hby d1_6) rfl (by decide) (cap := 2) (by decide) (by decide) (by decide) (by decide) (ad := "[I") (by decide)
    obtain ⟨b41, g41⟩ : ∃ z, z = h0.size := ⟨_, rfl⟩
    rw [← g41] at A41 EA41 st41
    have sz41 := E41.1
    have gn41 : n0 ≤ b41 := g41 ▸ own_old_le O0
    have fz41 : h0.size ≤ b41 := g41 ▸ K0.1
    have lt41 := own_lt A41.lt
    have O41 := O0.ext E41
    have K41 := K0.ext E41
    have V41 : Arv Z h41 b41 ka41 .int 2 [(.int 0), (.int 0)] (.int 0) := (Arv.new A41 (by decide)).pad (pad_rep [] (.int 0) 2)
    refine own_by (B := T41.setTop (mkF m 8 #[VI 9, VI 2, UU, UU] [(.ref b41)])) st41 ?_
    refine own_by (B := T41.setTop (mkF m 9 #[VI 9, VI 2, VR b41, UU] [])) (fun _ k => XS.astoreN X41.here hx rfl (hb hby d1_8) rfl rfl (l' := #[VI 9, VI 2, VR b41, UU]) rfl k) ?_
    refine own_by (B := T41.setTop (mkF m 10 #[VI 9, VI 2, VR b41, UU] [(.int 0)])) (fun _ k => XS.iconst X41.here hx rfl (hb hby d1_9) k) ?_
    refine own_by (B := T41.setTop (mkF m 11 #[VI 9, VI 2, VR b41, VI 0] [])) (fun _ k => XS.istoreN X41.here hx rfl (hb hby d1_10) rfl (l' := #[VI 9, VI 2, VR b41, VI 0]) rfl k) ?_
    refine own_by (B := T41.setTop (mkF m 12 #[VI 9, VI 2, VR b41, VI 0] [(.int 9)])) (fun _ k => XS.iloadN X41.here hx rfl (hb hby d1_11) rfl  k) ?_
    refine own_by (B := T41.setTop (mkF m 13 #[VI 9, VI 2, VR b41, VI 0] [(.int 1), (.int 9)])) (fun _ k => XS.iconst X41.here hx rfl (hb hby d1_12) k) ?_
    refine own_by (B := T41.setTop (mkF m 14 #[VI 9, VI 2, VR b41, VI 0] [(.int ((9 : Int32) &&& (1 : Int32)))])) (fun _ k => XS.iand X41.here hx rfl (hb hby d1_13) rfl k) ?_
    refine own_by (B := T41.setTop (mkF m 17 #[VI 9, VI 2, VR b41, VI 0] [])) (fun _ k => XS.ifNo X41.here hx rfl (hb hby d1_14) rfl (XT.i0_eq_f (by decide)) k) ?_
    refine own_by (B := T41.setTop (mkF m 18 #[VI 9, VI 2, VR b41, VI 0] [(.ref b41)])) (fun _ k => XS.aloadN X41.here hx rfl (hb hby d1_17) rfl rfl  k) ?_
    refine own_by (B := T41.setTop (mkF m 19 #[VI 9, VI 2, VR b41, VI 0] [(.int 0), (.ref b41)])) (fun _ k => XS.iloadN X41.here hx rfl (hb hby d1_18) rfl  k) ?_
    refine own_by (B := T41.setTop (mkF m 20 #[VI 9, VI 2, VR b41, VI 0] [(.int 0), (.int 0), (.ref b41)])) (fun _ k => XS.iconst X41.here hx rfl (hb hby d1_19) k) ?_
    obtain ⟨cl42, Ar42, qq42, Sz42, Nn42, Hh42, Gg42⟩ := id (V41)
    have hin42 : ¬ ((0 : Int32) < 0 ∨ cl42.slots.size ≤ ((0 : Int32)).toNatClampNeg) := inb_of Sz42 ⟨by decide, by decide⟩
    obtain ⟨T42, h42, X42, e42, W42, st42⟩ := stI X41 hx hZ e41 Ar42 (j := (0 : Int32)) hin42 (g := (mkF m 20 #[VI 9, VI 2, VR b41, VI 0] [(.int 0), (.int 0), (.ref b41)])) rfl rfl (hb hby d1_20)
    have sz42 := W42.size
    have O42 := O41.wr W42 gn41
    have K42 := K41.wr W42 (Or.inr fz41)
    have N42 := Fr.snoc X42 M40 gn41
    have V42 : Arv Z h42 b41 ka41 .int 2 [(.int 0), (.int 0)] (.int 0) := Arv.set Ar42 qq42 Sz42 Nn42 Hh42 Gg42 rfl W42 0 rfl (Nat.le_of_ble_eq_true rfl)
    refine own_by (B := T42.setTop (mkF m 21 #[VI 9, VI 2, VR b41, VI 0] [])) st42 ?_
    refine own_by (B := T42.setTop (mkF m 24 #[VI 9, VI 2, VR b41, VI 1] [])) (fun _ k => XS.iinc X42.here hx rfl (hb hby d1_21) rfl (l' := #[VI 9, VI 2, VR b41, VI 1]) rfl k) ?_
    refine own_by (B := T42.setTop (mkF m 25 #[VI 9, VI 2, VR b41, VI 1] [(.int 9)])) (fun _ k => XS.iloadN X42.here hx rfl (hb hby d1_24) rfl  k) ?_
    refine own_by (B := T42.setTop (mkF m 26 #[VI 9, VI 2, VR b41, VI 1] [(.int 2), (.int 9)])) (fun _ k => XS.iconst X42.here hx rfl (hb hby d1_25) k) ?_
    refine own_by (B := T42.setTop (mkF m 27 #[VI 9, VI 2, VR b41, VI 1] [(.int ((9 : Int32) &&& (2 : Int32)))])) (fun _ k => XS.iand X42.here hx rfl (hb hby d1_26) rfl k) ?_
    refine own_by (B := T42.setTop (mkF m 37 #[VI 9, VI 2, VR b41, VI 1] [])) (fun _ k => XS.ifYes X42.here hx rfl (pc0 := 27) (pc' := 37) rfl (hb hby d1_27) rfl (XT.i0_eq_t (by decide)) (by decide) (by decide) k) ?_
    refine own_by (B := T42.setTop (mkF m 38 #[VI 9, VI 2, VR b41, VI 1] [(.int 9)])) (fun _ k => XS.iloadN X42.here hx rfl (hb hby d1_37) rfl  k) ?_
    refine own_by (B := T42.setTop (mkF m 39 #[VI 9, VI 2, VR b41, VI 1] [(.int 4), (.int 9)])) (fun _ k => XS.iconst X42.here hx rfl (hb hby d1_38) k) ?_
    refine own_by (B := T42.setTop (mkF m 40 #[VI 9, VI 2, VR b41, VI 1] [(.int ((9 : Int32) &&& (4 : Int32)))])) (fun _ k => XS.iand X42.here hx rfl (hb hby d1_39) rfl k) ?_
    refine own_by (B := T42.setTop (mkF m 50 #[VI 9, VI 2, VR b41, VI 1] [])) (fun _ k => XS.ifYes X42.here hx rfl (pc0 := 40) (pc' := 50) rfl (hb hby d1_40) rfl (XT.i0_eq_t (by decide)) (by decide) (by decide) k) ?_
    refine own_by (B := T42.setTop (mkF m 51 #[VI 9, VI 2, VR b41, VI 1] [(.int 9)])) (fun _ k => XS.iloadN X42.here hx rfl (hb hby d1_50) rfl  k) ?_
    refine own_by (B := T42.setTop (mkF m 53 #[VI 9, VI 2, VR b41, VI 1] [(.int 8), (.int 9)])) (fun _ k => XS.bipush X42.here hx rfl (hb hby d1_51) k) ?_
    refine own_by (B := T42.setTop (mkF m 54 #[VI 9, VI 2, VR b41, VI 1] [(.int ((9 : Int32) &&& (8 : Int32)))])) (fun _ k => XS.iand X42.here hx rfl (hb hby d1_53) rfl k) ?_
    refine own_by (B := T42.setTop (mkF m 57 #[VI 9, VI 2, VR b41, VI 1] [])) (fun _ k => XS.ifNo X42.here hx rfl (hb hby d1_54) rfl (XT.i0_eq_f (by decide)) k) ?_
    refine own_by (B := T42.setTop (mkF m 58 #[VI 9, VI 2, VR b41, VI 1] [(.ref b41)])) (fun _ k => XS.aloadN X42.here hx rfl (hb hby d1_57) rfl rfl  k) ?_
    refine own_by (B := T42.setTop (mkF m 59 #[VI 9, VI 2, VR b41, VI 1] [(.int 1), (.ref b41)])) (fun _ k => XS.iloadN X42.here hx rfl (hb hby d1_58) rfl  k) ?_
    refine own_by (B := T42.setTop (mkF m 60 #[VI 9, VI 2, VR b41, VI 1] [(.int 3), (.int 1), (.ref b41)])) (fun _ k => XS.iconst X42.here hx rfl (hb hby d1_59) k) ?_
    obtain ⟨cl43, Ar43, qq43, Sz43, Nn43, Hh43, Gg43⟩ := id (V42)
    have hin43 : ¬ ((1 : Int32) < 0 ∨ cl43.slots.size ≤ ((1 : Int32)).toNatClampNeg) := inb_of Sz43 ⟨by decide, by decide⟩
    obtain ⟨T43, h43, X43, e43, W43, st43⟩ := stI X42 hx hZ e42 Ar43 (j := (1 : Int32)) hin43 (g := (mkF m 60 #[VI 9, VI 2, VR b41, VI 1] [(.int 3), (.int 1), (.ref b41)])) rfl rfl (hb hby d1_60)
    have sz43 := W43.size
    have O43 := O42.wr W43 gn41
    have K43 := K42.wr W43 (Or.inr fz41)
    have N43 := Fr.snoc X43 N42 gn41
    have V43 : Arv Z h43 b41 ka41 .int 2 [(.int 0), (.int 3)] (.int 0) := Arv.set Ar43 qq43 Sz43 Nn43 Hh43 Gg43 rfl W43 1 rfl (Nat.le_of_ble_eq_true rfl)
    refine own_by (B := T43.setTop (mkF m 61 #[VI 9, VI 2, VR b41, VI 1] [])) st43 ?_
    refine own_by (B := T43.setTop (mkF m 64 #[VI 9, VI 2, VR b41, VI 2] [])) (fun _ k => XS.iinc X43.here hx rfl (hb hby d1_61) rfl (l' := #[VI 9, VI 2, VR b41, VI 2]) rfl k) ?_
    refine own_by (B := T43.setTop (mkF m 65 #[VI 9, VI 2, VR b41, VI 2] [(.ref b41)])) (fun _ k => XS.aloadN X43.here hx rfl (hb hby d1_64) rfl rfl  k) ?_
    have c44 := ((EA41.wr W42).wr W43)
    have hl : own_cols (9 : Int32) = [(0 : Int32), (3 : Int32)] := by decide +kernel
    exact own_retA X43 hx hrt rfl rfl hlk (hb hby d1_65) (by decide) (by decide) (by show own_QCo Z (9 : Int32) h0 n0 _ T43.heap _; rw [e43]; exact ⟨_, _, rfl, N43, K43, fz41, by rw [hl]; exact ⟨V43, rfl⟩, c44⟩)
  · refine own_by (B := s₁.setTop (mkF m 1 #[VI 10, UU, UU, UU] [(.int 10)])) (fun _ k => XS.iloadN X0.here hx rfl (hb hby d1_0) rfl  k) ?_
    obtain ⟨_, _, ⟨T45, L45, k45, n45⟩, -, X45, ⟨Lc45, hQ45, l45, y45, z45⟩, st45⟩ := Jvm.LawKit.callS X0 hx (y := (⟨"com/example/document_pattern_rules/documentpatternrules/pattern/PairingAddPinLaw", "pc", "(I)I"⟩ : MethodName)) hown (mvT hZ (own_hw 4 hw rfl)) (mvT hZ (own_hw 5 hw rfl)) (mvT hZ (own_hw 2 hw rfl)) (mvT hZ (own_hw 6 hw rfl)) (by decide) (backOf (W := 0) (rm2 l Z a0 hw [] (10 : Int32) h0 n0 (own_old_le O0)) hZ (own_hw 6 hw rfl) (own_hw 2 hw rfl) (by decide) (by decide)) (g := (mkF m 1 #[VI 10, UU, UU, UU] [(.int 10)])) rfl (by rw [hml]; rfl) (argsL := [(.int 10)]) (rest := []) (lenOf pd_1__I_I rfl) rfl (by show 2 * 0 + _ ≤ _; exact Nat.le_of_eq rfl) (hb hby d1_1) (fun _ _ => ⟨rfl, e0, (by decide : 0 + 0 ≤ _), (by decide : 0 + 0 ≤ _)⟩)
    dsimp only [Pt.U, Pt.locs, Pt.cells, Pt.slots] at X45 l45 y45 z45 st45 hQ45
    subst l45 y45 z45
    obtain ⟨rfl, N45, e45⟩ := hQ45
    refine own_by (B := T45.setTop (mkF m 4 #[VI 10, UU, UU, UU] [(.int (own_pc (10 : Int32)))])) st45 ?_
    have M45 := Fr.app N0 N45
    rw [show (own_pc (10 : Int32)) = (2 : Int32) from by decide +kernel]
    refine own_by (B := T45.setTop (mkF m 5 #[VI 10, VI 2, UU, UU] [])) (fun _ k => XS.istoreN X45.here hx rfl (hb hby d1_4) rfl (l' := #[VI 10, VI 2, UU, UU]) rfl k) ?_
    refine own_by (B := T45.setTop (mkF m 6 #[VI 10, VI 2, UU, UU] [(.int 2)])) (fun _ k => XS.iloadN X45.here hx rfl (hb hby d1_5) rfl  k) ?_
    obtain ⟨T46, h46, ka46, X46, e46, E46, A46, EA46, st46⟩ := newPE X45 hx hZ (own_hw 7 hw rfl) e45 (g := (mkF m 6 #[VI 10, VI 2, UU, UU] [(.int 2)])) rfl (hb hby d1_6) rfl (by decide) (cap := 2) (by decide) (by decide) (by decide) (by decide) (ad := "[I") (by decide)
    obtain ⟨b46, g46⟩ : ∃ z, z = h0.size := ⟨_, rfl⟩
    rw [← g46] at A46 EA46 st46
    have sz46 := E46.1
    have gn46 : n0 ≤ b46 := g46 ▸ own_old_le O0
    have fz46 : h0.size ≤ b46 := g46 ▸ K0.1
    have lt46 := own_lt A46.lt
    have O46 := O0.ext E46
    have K46 := K0.ext E46
    have V46 : Arv Z h46 b46 ka46 .int 2 [(.int 0), (.int 0)] (.int 0) := (Arv.new A46 (by decide)).pad (pad_rep [] (.int 0) 2)
    refine own_by (B := T46.setTop (mkF m 8 #[VI 10, VI 2, UU, UU] [(.ref b46)])) st46 ?_
    refine own_by (B := T46.setTop (mkF m 9 #[VI 10, VI 2, VR b46, UU] [])) (fun _ k => XS.astoreN X46.here hx rfl (hb hby d1_8) rfl rfl (l' := #[VI 10, VI 2, VR b46, UU]) rfl k) ?_
    refine own_by (B := T46.setTop (mkF m 10 #[VI 10, VI 2, VR b46, UU] [(.int 0)])) (fun _ k => XS.iconst X46.here hx rfl (hb hby d1_9) k) ?_
    refine own_by (B := T46.setTop (mkF m 11 #[VI 10, VI 2, VR b46, VI 0] [])) (fun _ k => XS.istoreN X46.here hx rfl (hb hby d1_10) rfl (l' := #[VI 10, VI 2, VR b46, VI 0]) rfl k) ?_
    refine own_by (B := T46.setTop (mkF m 12 #[VI 10, VI 2, VR b46, VI 0] [(.int 10)])) (fun _ k => XS.iloadN X46.here hx rfl (hb hby d1_11) rfl  k) ?_
    refine own_by (B := T46.setTop (mkF m 13 #[VI 10, VI 2, VR b46, VI 0] [(.int 1), (.int 10)])) (fun _ k => XS.iconst X46.here hx rfl (hb hby d1_12) k) ?_
    refine own_by (B := T46.setTop (mkF m 14 #[VI 10, VI 2, VR b46, VI 0] [(.int ((10 : Int32) &&& (1 : Int32)))])) (fun _ k => XS.iand X46.here hx rfl (hb hby d1_13) rfl k) ?_
    refine own_by (B := T46.setTop (mkF m 24 #[VI 10, VI 2, VR b46, VI 0] [])) (fun _ k => XS.ifYes X46.here hx rfl (pc0 := 14) (pc' := 24) rfl (hb hby d1_14) rfl (XT.i0_eq_t (by decide)) (by decide) (by decide) k) ?_
    refine own_by (B := T46.setTop (mkF m 25 #[VI 10, VI 2, VR b46, VI 0] [(.int 10)])) (fun _ k => XS.iloadN X46.here hx rfl (hb hby d1_24) rfl  k) ?_
    refine own_by (B := T46.setTop (mkF m 26 #[VI 10, VI 2, VR b46, VI 0] [(.int 2), (.int 10)])) (fun _ k => XS.iconst X46.here hx rfl (hb hby d1_25) k) ?_
    refine own_by (B := T46.setTop (mkF m 27 #[VI 10, VI 2, VR b46, VI 0] [(.int ((10 : Int32) &&& (2 : Int32)))])) (fun _ k => XS.iand X46.here hx rfl (hb hby d1_26) rfl k) ?_
    refine own_by (B := T46.setTop (mkF m 30 #[VI 10, VI 2, VR b46, VI 0] [])) (fun _ k => XS.ifNo X46.here hx rfl (hb hby d1_27) rfl (XT.i0_eq_f (by decide)) k) ?_
    refine own_by (B := T46.setTop (mkF m 31 #[VI 10, VI 2, VR b46, VI 0] [(.ref b46)])) (fun _ k => XS.aloadN X46.here hx rfl (hb hby d1_30) rfl rfl  k) ?_
    refine own_by (B := T46.setTop (mkF m 32 #[VI 10, VI 2, VR b46, VI 0] [(.int 0), (.ref b46)])) (fun _ k => XS.iloadN X46.here hx rfl (hb hby d1_31) rfl  k) ?_
    refine own_by (B := T46.setTop (mkF m 33 #[VI 10, VI 2, VR b46, VI 0] [(.int 1), (.int 0), (.ref b46)])) (fun _ k => XS.iconst X46.here hx rfl (hb hby d1_32) k) ?_
    obtain ⟨cl47, Ar47, qq47, Sz47, Nn47, Hh47, Gg47⟩ := id (V46)
    have hin47 : ¬ ((0 : Int32) < 0 ∨ cl47.slots.size ≤ ((0 : Int32)).toNatClampNeg) := inb_of Sz47 ⟨by decide, by decide⟩
    obtain ⟨T47, h47, X47, e47, W47, st47⟩ := stI X46 hx hZ e46 Ar47 (j := (0 : Int32)) hin47 (g := (mkF m 33 #[VI 10, VI 2, VR b46, VI 0] [(.int 1), (.int 0), (.ref b46)])) rfl rfl (hb hby d1_33)
    have sz47 := W47.size
    have O47 := O46.wr W47 gn46
    have K47 := K46.wr W47 (Or.inr fz46)
    have N47 := Fr.snoc X47 M45 gn46
    have V47 : Arv Z h47 b46 ka46 .int 2 [(.int 1), (.int 0)] (.int 0) := Arv.set Ar47 qq47 Sz47 Nn47 Hh47 Gg47 rfl W47 0 rfl (Nat.le_of_ble_eq_true rfl)
    refine own_by (B := T47.setTop (mkF m 34 #[VI 10, VI 2, VR b46, VI 0] [])) st47 ?_
    refine own_by (B := T47.setTop (mkF m 37 #[VI 10, VI 2, VR b46, VI 1] [])) (fun _ k => XS.iinc X47.here hx rfl (hb hby d1_34) rfl (l' := #[VI 10, VI 2, VR b46, VI 1]) rfl k) ?_
    refine own_by (B := T47.setTop (mkF m 38 #[VI 10, VI 2, VR b46, VI 1] [(.int 10)])) (fun _ k => XS.iloadN X47.here hx rfl (hb hby d1_37) rfl  k) ?_
    refine own_by (B := T47.setTop (mkF m 39 #[VI 10, VI 2, VR b46, VI 1] [(.int 4), (.int 10)])) (fun _ k => XS.iconst X47.here hx rfl (hb hby d1_38) k) ?_
    refine own_by (B := T47.setTop (mkF m 40 #[VI 10, VI 2, VR b46, VI 1] [(.int ((10 : Int32) &&& (4 : Int32)))])) (fun _ k => XS.iand X47.here hx rfl (hb hby d1_39) rfl k) ?_
    refine own_by (B := T47.setTop (mkF m 50 #[VI 10, VI 2, VR b46, VI 1] [])) (fun _ k => XS.ifYes X47.here hx rfl (pc0 := 40) (pc' := 50) rfl (hb hby d1_40) rfl (XT.i0_eq_t (by decide)) (by decide) (by decide) k) ?_
    refine own_by (B := T47.setTop (mkF m 51 #[VI 10, VI 2, VR b46, VI 1] [(.int 10)])) (fun _ k => XS.iloadN X47.here hx rfl (hb hby d1_50) rfl  k) ?_
    refine own_by (B := T47.setTop (mkF m 53 #[VI 10, VI 2, VR b46, VI 1] [(.int 8), (.int 10)])) (fun _ k => XS.bipush X47.here hx rfl (hb hby d1_51) k) ?_
    refine own_by (B := T47.setTop (mkF m 54 #[VI 10, VI 2, VR b46, VI 1] [(.int ((10 : Int32) &&& (8 : Int32)))])) (fun _ k => XS.iand X47.here hx rfl (hb hby d1_53) rfl k) ?_
    refine own_by (B := T47.setTop (mkF m 57 #[VI 10, VI 2, VR b46, VI 1] [])) (fun _ k => XS.ifNo X47.here hx rfl (hb hby d1_54) rfl (XT.i0_eq_f (by decide)) k) ?_
    refine own_by (B := T47.setTop (mkF m 58 #[VI 10, VI 2, VR b46, VI 1] [(.ref b46)])) (fun _ k => XS.aloadN X47.here hx rfl (hb hby d1_57) rfl rfl  k) ?_
    refine own_by (B := T47.setTop (mkF m 59 #[VI 10, VI 2, VR b46, VI 1] [(.int 1), (.ref b46)])) (fun _ k => XS.iloadN X47.here hx rfl (hb hby d1_58) rfl  k) ?_
    refine own_by (B := T47.setTop (mkF m 60 #[VI 10, VI 2, VR b46, VI 1] [(.int 3), (.int 1), (.ref b46)])) (fun _ k => XS.iconst X47.here hx rfl (hb hby d1_59) k) ?_
    obtain ⟨cl48, Ar48, qq48, Sz48, Nn48, Hh48, Gg48⟩ := id (V47)
    have hin48 : ¬ ((1 : Int32) < 0 ∨ cl48.slots.size ≤ ((1 : Int32)).toNatClampNeg) := inb_of Sz48 ⟨by decide, by decide⟩
    obtain ⟨T48, h48, X48, e48, W48, st48⟩ := stI X47 hx hZ e47 Ar48 (j := (1 : Int32)) hin48 (g := (mkF m 60 #[VI 10, VI 2, VR b46, VI 1] [(.int 3), (.int 1), (.ref b46)])) rfl rfl (hb hby d1_60)
    have sz48 := W48.size
    have O48 := O47.wr W48 gn46
    have K48 := K47.wr W48 (Or.inr fz46)
    have N48 := Fr.snoc X48 N47 gn46
    have V48 : Arv Z h48 b46 ka46 .int 2 [(.int 1), (.int 3)] (.int 0) := Arv.set Ar48 qq48 Sz48 Nn48 Hh48 Gg48 rfl W48 1 rfl (Nat.le_of_ble_eq_true rfl)
    refine own_by (B := T48.setTop (mkF m 61 #[VI 10, VI 2, VR b46, VI 1] [])) st48 ?_
    refine own_by (B := T48.setTop (mkF m 64 #[VI 10, VI 2, VR b46, VI 2] [])) (fun _ k => XS.iinc X48.here hx rfl (hb hby d1_61) rfl (l' := #[VI 10, VI 2, VR b46, VI 2]) rfl k) ?_
    refine own_by (B := T48.setTop (mkF m 65 #[VI 10, VI 2, VR b46, VI 2] [(.ref b46)])) (fun _ k => XS.aloadN X48.here hx rfl (hb hby d1_64) rfl rfl  k) ?_
    have c49 := ((EA46.wr W47).wr W48)
    have hl : own_cols (10 : Int32) = [(1 : Int32), (3 : Int32)] := by decide +kernel
    exact own_retA X48 hx hrt rfl rfl hlk (hb hby d1_65) (by decide) (by decide) (by show own_QCo Z (10 : Int32) h0 n0 _ T48.heap _; rw [e48]; exact ⟨_, _, rfl, N48, K48, fz46, by rw [hl]; exact ⟨V48, rfl⟩, c49⟩)
  · refine own_by (B := s₁.setTop (mkF m 1 #[VI 11, UU, UU, UU] [(.int 11)])) (fun _ k => XS.iloadN X0.here hx rfl (hb hby d1_0) rfl  k) ?_
    obtain ⟨_, _, ⟨T50, L50, k50, n50⟩, -, X50, ⟨Lc50, hQ50, l50, y50, z50⟩, st50⟩ := Jvm.LawKit.callS X0 hx (y := (⟨"com/example/document_pattern_rules/documentpatternrules/pattern/PairingAddPinLaw", "pc", "(I)I"⟩ : MethodName)) hown (mvT hZ (own_hw 4 hw rfl)) (mvT hZ (own_hw 5 hw rfl)) (mvT hZ (own_hw 2 hw rfl)) (mvT hZ (own_hw 6 hw rfl)) (by decide) (backOf (W := 0) (rm2 l Z a0 hw [] (11 : Int32) h0 n0 (own_old_le O0)) hZ (own_hw 6 hw rfl) (own_hw 2 hw rfl) (by decide) (by decide)) (g := (mkF m 1 #[VI 11, UU, UU, UU] [(.int 11)])) rfl (by rw [hml]; rfl) (argsL := [(.int 11)]) (rest := []) (lenOf pd_1__I_I rfl) rfl (by show 2 * 0 + _ ≤ _; exact Nat.le_of_eq rfl) (hb hby d1_1) (fun _ _ => ⟨rfl, e0, (by decide : 0 + 0 ≤ _), (by decide : 0 + 0 ≤ _)⟩)
    dsimp only [Pt.U, Pt.locs, Pt.cells, Pt.slots] at X50 l50 y50 z50 st50 hQ50
    subst l50 y50 z50
    obtain ⟨rfl, N50, e50⟩ := hQ50
    refine own_by (B := T50.setTop (mkF m 4 #[VI 11, UU, UU, UU] [(.int (own_pc (11 : Int32)))])) st50 ?_
    have M50 := Fr.app N0 N50
    rw [show (own_pc (11 : Int32)) = (3 : Int32) from by decide +kernel]
    refine own_by (B := T50.setTop (mkF m 5 #[VI 11, VI 3, UU, UU] [])) (fun _ k => XS.istoreN X50.here hx rfl (hb hby d1_4) rfl (l' := #[VI 11, VI 3, UU, UU]) rfl k) ?_
    refine own_by (B := T50.setTop (mkF m 6 #[VI 11, VI 3, UU, UU] [(.int 3)])) (fun _ k => XS.iloadN X50.here hx rfl (hb hby d1_5) rfl  k) ?_
    obtain ⟨T51, h51, ka51, X51, e51, E51, A51, EA51, st51⟩ := newPE X50 hx hZ (own_hw 7 hw rfl) e50 (g := (mkF m 6 #[VI 11, VI 3, UU, UU] [(.int 3)])) rfl (hb hby d1_6) rfl (by decide) (cap := 3) (by decide) (by decide) (by decide) (by decide) (ad := "[I") (by decide)
    obtain ⟨b51, g51⟩ : ∃ z, z = h0.size := ⟨_, rfl⟩
    rw [← g51] at A51 EA51 st51
    have sz51 := E51.1
    have gn51 : n0 ≤ b51 := g51 ▸ own_old_le O0
    have fz51 : h0.size ≤ b51 := g51 ▸ K0.1
    have lt51 := own_lt A51.lt
    have O51 := O0.ext E51
    have K51 := K0.ext E51
    have V51 : Arv Z h51 b51 ka51 .int 3 [(.int 0), (.int 0), (.int 0)] (.int 0) := (Arv.new A51 (by decide)).pad (pad_rep [] (.int 0) 3)
    refine own_by (B := T51.setTop (mkF m 8 #[VI 11, VI 3, UU, UU] [(.ref b51)])) st51 ?_
    refine own_by (B := T51.setTop (mkF m 9 #[VI 11, VI 3, VR b51, UU] [])) (fun _ k => XS.astoreN X51.here hx rfl (hb hby d1_8) rfl rfl (l' := #[VI 11, VI 3, VR b51, UU]) rfl k) ?_
    refine own_by (B := T51.setTop (mkF m 10 #[VI 11, VI 3, VR b51, UU] [(.int 0)])) (fun _ k => XS.iconst X51.here hx rfl (hb hby d1_9) k) ?_
    refine own_by (B := T51.setTop (mkF m 11 #[VI 11, VI 3, VR b51, VI 0] [])) (fun _ k => XS.istoreN X51.here hx rfl (hb hby d1_10) rfl (l' := #[VI 11, VI 3, VR b51, VI 0]) rfl k) ?_
    refine own_by (B := T51.setTop (mkF m 12 #[VI 11, VI 3, VR b51, VI 0] [(.int 11)])) (fun _ k => XS.iloadN X51.here hx rfl (hb hby d1_11) rfl  k) ?_
    refine own_by (B := T51.setTop (mkF m 13 #[VI 11, VI 3, VR b51, VI 0] [(.int 1), (.int 11)])) (fun _ k => XS.iconst X51.here hx rfl (hb hby d1_12) k) ?_
    refine own_by (B := T51.setTop (mkF m 14 #[VI 11, VI 3, VR b51, VI 0] [(.int ((11 : Int32) &&& (1 : Int32)))])) (fun _ k => XS.iand X51.here hx rfl (hb hby d1_13) rfl k) ?_
    refine own_by (B := T51.setTop (mkF m 17 #[VI 11, VI 3, VR b51, VI 0] [])) (fun _ k => XS.ifNo X51.here hx rfl (hb hby d1_14) rfl (XT.i0_eq_f (by decide)) k) ?_
    refine own_by (B := T51.setTop (mkF m 18 #[VI 11, VI 3, VR b51, VI 0] [(.ref b51)])) (fun _ k => XS.aloadN X51.here hx rfl (hb hby d1_17) rfl rfl  k) ?_
    refine own_by (B := T51.setTop (mkF m 19 #[VI 11, VI 3, VR b51, VI 0] [(.int 0), (.ref b51)])) (fun _ k => XS.iloadN X51.here hx rfl (hb hby d1_18) rfl  k) ?_
    refine own_by (B := T51.setTop (mkF m 20 #[VI 11, VI 3, VR b51, VI 0] [(.int 0), (.int 0), (.ref b51)])) (fun _ k => XS.iconst X51.here hx rfl (hb hby d1_19) k) ?_
    obtain ⟨cl52, Ar52, qq52, Sz52, Nn52, Hh52, Gg52⟩ := id (V51)
    have hin52 : ¬ ((0 : Int32) < 0 ∨ cl52.slots.size ≤ ((0 : Int32)).toNatClampNeg) := inb_of Sz52 ⟨by decide, by decide⟩
    obtain ⟨T52, h52, X52, e52, W52, st52⟩ := stI X51 hx hZ e51 Ar52 (j := (0 : Int32)) hin52 (g := (mkF m 20 #[VI 11, VI 3, VR b51, VI 0] [(.int 0), (.int 0), (.ref b51)])) rfl rfl (hb hby d1_20)
    have sz52 := W52.size
    have O52 := O51.wr W52 gn51
    have K52 := K51.wr W52 (Or.inr fz51)
    have N52 := Fr.snoc X52 M50 gn51
    have V52 : Arv Z h52 b51 ka51 .int 3 [(.int 0), (.int 0), (.int 0)] (.int 0) := Arv.set Ar52 qq52 Sz52 Nn52 Hh52 Gg52 rfl W52 0 rfl (Nat.le_of_ble_eq_true rfl)
    refine own_by (B := T52.setTop (mkF m 21 #[VI 11, VI 3, VR b51, VI 0] [])) st52 ?_
    refine own_by (B := T52.setTop (mkF m 24 #[VI 11, VI 3, VR b51, VI 1] [])) (fun _ k => XS.iinc X52.here hx rfl (hb hby d1_21) rfl (l' := #[VI 11, VI 3, VR b51, VI 1]) rfl k) ?_
    refine own_by (B := T52.setTop (mkF m 25 #[VI 11, VI 3, VR b51, VI 1] [(.int 11)])) (fun _ k => XS.iloadN X52.here hx rfl (hb hby d1_24) rfl  k) ?_
    refine own_by (B := T52.setTop (mkF m 26 #[VI 11, VI 3, VR b51, VI 1] [(.int 2), (.int 11)])) (fun _ k => XS.iconst X52.here hx rfl (hb hby d1_25) k) ?_
    refine own_by (B := T52.setTop (mkF m 27 #[VI 11, VI 3, VR b51, VI 1] [(.int ((11 : Int32) &&& (2 : Int32)))])) (fun _ k => XS.iand X52.here hx rfl (hb hby d1_26) rfl k) ?_
    refine own_by (B := T52.setTop (mkF m 30 #[VI 11, VI 3, VR b51, VI 1] [])) (fun _ k => XS.ifNo X52.here hx rfl (hb hby d1_27) rfl (XT.i0_eq_f (by decide)) k) ?_
    refine own_by (B := T52.setTop (mkF m 31 #[VI 11, VI 3, VR b51, VI 1] [(.ref b51)])) (fun _ k => XS.aloadN X52.here hx rfl (hb hby d1_30) rfl rfl  k) ?_
    refine own_by (B := T52.setTop (mkF m 32 #[VI 11, VI 3, VR b51, VI 1] [(.int 1), (.ref b51)])) (fun _ k => XS.iloadN X52.here hx rfl (hb hby d1_31) rfl  k) ?_
    refine own_by (B := T52.setTop (mkF m 33 #[VI 11, VI 3, VR b51, VI 1] [(.int 1), (.int 1), (.ref b51)])) (fun _ k => XS.iconst X52.here hx rfl (hb hby d1_32) k) ?_
    obtain ⟨cl53, Ar53, qq53, Sz53, Nn53, Hh53, Gg53⟩ := id (V52)
    have hin53 : ¬ ((1 : Int32) < 0 ∨ cl53.slots.size ≤ ((1 : Int32)).toNatClampNeg) := inb_of Sz53 ⟨by decide, by decide⟩
    obtain ⟨T53, h53, X53, e53, W53, st53⟩ := stI X52 hx hZ e52 Ar53 (j := (1 : Int32)) hin53 (g := (mkF m 33 #[VI 11, VI 3, VR b51, VI 1] [(.int 1), (.int 1), (.ref b51)])) rfl rfl (hb hby d1_33)
    have sz53 := W53.size
    have O53 := O52.wr W53 gn51
    have K53 := K52.wr W53 (Or.inr fz51)
    have N53 := Fr.snoc X53 N52 gn51
    have V53 : Arv Z h53 b51 ka51 .int 3 [(.int 0), (.int 1), (.int 0)] (.int 0) := Arv.set Ar53 qq53 Sz53 Nn53 Hh53 Gg53 rfl W53 1 rfl (Nat.le_of_ble_eq_true rfl)
    refine own_by (B := T53.setTop (mkF m 34 #[VI 11, VI 3, VR b51, VI 1] [])) st53 ?_
    refine own_by (B := T53.setTop (mkF m 37 #[VI 11, VI 3, VR b51, VI 2] [])) (fun _ k => XS.iinc X53.here hx rfl (hb hby d1_34) rfl (l' := #[VI 11, VI 3, VR b51, VI 2]) rfl k) ?_
    refine own_by (B := T53.setTop (mkF m 38 #[VI 11, VI 3, VR b51, VI 2] [(.int 11)])) (fun _ k => XS.iloadN X53.here hx rfl (hb hby d1_37) rfl  k) ?_
    refine own_by (B := T53.setTop (mkF m 39 #[VI 11, VI 3, VR b51, VI 2] [(.int 4), (.int 11)])) (fun _ k => XS.iconst X53.here hx rfl (hb hby d1_38) k) ?_
    refine own_by (B := T53.setTop (mkF m 40 #[VI 11, VI 3, VR b51, VI 2] [(.int ((11 : Int32) &&& (4 : Int32)))])) (fun _ k => XS.iand X53.here hx rfl (hb hby d1_39) rfl k) ?_
    refine own_by (B := T53.setTop (mkF m 50 #[VI 11, VI 3, VR b51, VI 2] [])) (fun _ k => XS.ifYes X53.here hx rfl (pc0 := 40) (pc' := 50) rfl (hb hby d1_40) rfl (XT.i0_eq_t (by decide)) (by decide) (by decide) k) ?_
    refine own_by (B := T53.setTop (mkF m 51 #[VI 11, VI 3, VR b51, VI 2] [(.int 11)])) (fun _ k => XS.iloadN X53.here hx rfl (hb hby d1_50) rfl  k) ?_
    refine own_by (B := T53.setTop (mkF m 53 #[VI 11, VI 3, VR b51, VI 2] [(.int 8), (.int 11)])) (fun _ k => XS.bipush X53.here hx rfl (hb hby d1_51) k) ?_
    refine own_by (B := T53.setTop (mkF m 54 #[VI 11, VI 3, VR b51, VI 2] [(.int ((11 : Int32) &&& (8 : Int32)))])) (fun _ k => XS.iand X53.here hx rfl (hb hby d1_53) rfl k) ?_
    refine own_by (B := T53.setTop (mkF m 57 #[VI 11, VI 3, VR b51, VI 2] [])) (fun _ k => XS.ifNo X53.here hx rfl (hb hby d1_54) rfl (XT.i0_eq_f (by decide)) k) ?_
    refine own_by (B := T53.setTop (mkF m 58 #[VI 11, VI 3, VR b51, VI 2] [(.ref b51)])) (fun _ k => XS.aloadN X53.here hx rfl (hb hby d1_57) rfl rfl  k) ?_
    refine own_by (B := T53.setTop (mkF m 59 #[VI 11, VI 3, VR b51, VI 2] [(.int 2), (.ref b51)])) (fun _ k => XS.iloadN X53.here hx rfl (hb hby d1_58) rfl  k) ?_
    refine own_by (B := T53.setTop (mkF m 60 #[VI 11, VI 3, VR b51, VI 2] [(.int 3), (.int 2), (.ref b51)])) (fun _ k => XS.iconst X53.here hx rfl (hb hby d1_59) k) ?_
    obtain ⟨cl54, Ar54, qq54, Sz54, Nn54, Hh54, Gg54⟩ := id (V53)
    have hin54 : ¬ ((2 : Int32) < 0 ∨ cl54.slots.size ≤ ((2 : Int32)).toNatClampNeg) := inb_of Sz54 ⟨by decide, by decide⟩
    obtain ⟨T54, h54, X54, e54, W54, st54⟩ := stI X53 hx hZ e53 Ar54 (j := (2 : Int32)) hin54 (g := (mkF m 60 #[VI 11, VI 3, VR b51, VI 2] [(.int 3), (.int 2), (.ref b51)])) rfl rfl (hb hby d1_60)
    have sz54 := W54.size
    have O54 := O53.wr W54 gn51
    have K54 := K53.wr W54 (Or.inr fz51)
    have N54 := Fr.snoc X54 N53 gn51
    have V54 : Arv Z h54 b51 ka51 .int 3 [(.int 0), (.int 1), (.int 3)] (.int 0) := Arv.set Ar54 qq54 Sz54 Nn54 Hh54 Gg54 rfl W54 2 rfl (Nat.le_of_ble_eq_true rfl)
    refine own_by (B := T54.setTop (mkF m 61 #[VI 11, VI 3, VR b51, VI 2] [])) st54 ?_
    refine own_by (B := T54.setTop (mkF m 64 #[VI 11, VI 3, VR b51, VI 3] [])) (fun _ k => XS.iinc X54.here hx rfl (hb hby d1_61) rfl (l' := #[VI 11, VI 3, VR b51, VI 3]) rfl k) ?_
    refine own_by (B := T54.setTop (mkF m 65 #[VI 11, VI 3, VR b51, VI 3] [(.ref b51)])) (fun _ k => XS.aloadN X54.here hx rfl (hb hby d1_64) rfl rfl  k) ?_
    have c55 := (((EA51.wr W52).wr W53).wr W54)
    have hl : own_cols (11 : Int32) = [(0 : Int32), (1 : Int32), (3 : Int32)] := by decide +kernel
    exact own_retA X54 hx hrt rfl rfl hlk (hb hby d1_65) (by decide) (by decide) (by show own_QCo Z (11 : Int32) h0 n0 _ T54.heap _; rw [e54]; exact ⟨_, _, rfl, N54, K54, fz51, by rw [hl]; exact ⟨V54, rfl⟩, c55⟩)
  · refine own_by (B := s₁.setTop (mkF m 1 #[VI 12, UU, UU, UU] [(.int 12)])) (fun _ k => XS.iloadN X0.here hx rfl (hb hby d1_0) rfl  k) ?_
    obtain ⟨_, _, ⟨T56, L56, k56, n56⟩, -, X56, ⟨Lc56, hQ56, l56, y56, z56⟩, st56⟩ := Jvm.LawKit.callS X0 hx (y := (⟨"com/example/document_pattern_rules/documentpatternrules/pattern/PairingAddPinLaw", "pc", "(I)I"⟩ : MethodName)) hown (mvT hZ (own_hw 4 hw rfl)) (mvT hZ (own_hw 5 hw rfl)) (mvT hZ (own_hw 2 hw rfl)) (mvT hZ (own_hw 6 hw rfl)) (by decide) (backOf (W := 0) (rm2 l Z a0 hw [] (12 : Int32) h0 n0 (own_old_le O0)) hZ (own_hw 6 hw rfl) (own_hw 2 hw rfl) (by decide) (by decide)) (g := (mkF m 1 #[VI 12, UU, UU, UU] [(.int 12)])) rfl (by rw [hml]; rfl) (argsL := [(.int 12)]) (rest := []) (lenOf pd_1__I_I rfl) rfl (by show 2 * 0 + _ ≤ _; exact Nat.le_of_eq rfl) (hb hby d1_1) (fun _ _ => ⟨rfl, e0, (by decide : 0 + 0 ≤ _), (by decide : 0 + 0 ≤ _)⟩)
    dsimp only [Pt.U, Pt.locs, Pt.cells, Pt.slots] at X56 l56 y56 z56 st56 hQ56
    subst l56 y56 z56
    obtain ⟨rfl, N56, e56⟩ := hQ56
    refine own_by (B := T56.setTop (mkF m 4 #[VI 12, UU, UU, UU] [(.int (own_pc (12 : Int32)))])) st56 ?_
    have M56 := Fr.app N0 N56
    rw [show (own_pc (12 : Int32)) = (2 : Int32) from by decide +kernel]
    refine own_by (B := T56.setTop (mkF m 5 #[VI 12, VI 2, UU, UU] [])) (fun _ k => XS.istoreN X56.here hx rfl (hb hby d1_4) rfl (l' := #[VI 12, VI 2, UU, UU]) rfl k) ?_
    refine own_by (B := T56.setTop (mkF m 6 #[VI 12, VI 2, UU, UU] [(.int 2)])) (fun _ k => XS.iloadN X56.here hx rfl (hb hby d1_5) rfl  k) ?_
    obtain ⟨T57, h57, ka57, X57, e57, E57, A57, EA57, st57⟩ := newPE X56 hx hZ (own_hw 7 hw rfl) e56 (g := (mkF m 6 #[VI 12, VI 2, UU, UU] [(.int 2)])) rfl (hb hby d1_6) rfl (by decide) (cap := 2) (by decide) (by decide) (by decide) (by decide) (ad := "[I") (by decide)
    obtain ⟨b57, g57⟩ : ∃ z, z = h0.size := ⟨_, rfl⟩
    rw [← g57] at A57 EA57 st57
    have sz57 := E57.1
    have gn57 : n0 ≤ b57 := g57 ▸ own_old_le O0
    have fz57 : h0.size ≤ b57 := g57 ▸ K0.1
    have lt57 := own_lt A57.lt
    have O57 := O0.ext E57
    have K57 := K0.ext E57
    have V57 : Arv Z h57 b57 ka57 .int 2 [(.int 0), (.int 0)] (.int 0) := (Arv.new A57 (by decide)).pad (pad_rep [] (.int 0) 2)
    refine own_by (B := T57.setTop (mkF m 8 #[VI 12, VI 2, UU, UU] [(.ref b57)])) st57 ?_
    refine own_by (B := T57.setTop (mkF m 9 #[VI 12, VI 2, VR b57, UU] [])) (fun _ k => XS.astoreN X57.here hx rfl (hb hby d1_8) rfl rfl (l' := #[VI 12, VI 2, VR b57, UU]) rfl k) ?_
    refine own_by (B := T57.setTop (mkF m 10 #[VI 12, VI 2, VR b57, UU] [(.int 0)])) (fun _ k => XS.iconst X57.here hx rfl (hb hby d1_9) k) ?_
    refine own_by (B := T57.setTop (mkF m 11 #[VI 12, VI 2, VR b57, VI 0] [])) (fun _ k => XS.istoreN X57.here hx rfl (hb hby d1_10) rfl (l' := #[VI 12, VI 2, VR b57, VI 0]) rfl k) ?_
    refine own_by (B := T57.setTop (mkF m 12 #[VI 12, VI 2, VR b57, VI 0] [(.int 12)])) (fun _ k => XS.iloadN X57.here hx rfl (hb hby d1_11) rfl  k) ?_
    refine own_by (B := T57.setTop (mkF m 13 #[VI 12, VI 2, VR b57, VI 0] [(.int 1), (.int 12)])) (fun _ k => XS.iconst X57.here hx rfl (hb hby d1_12) k) ?_
    refine own_by (B := T57.setTop (mkF m 14 #[VI 12, VI 2, VR b57, VI 0] [(.int ((12 : Int32) &&& (1 : Int32)))])) (fun _ k => XS.iand X57.here hx rfl (hb hby d1_13) rfl k) ?_
    refine own_by (B := T57.setTop (mkF m 24 #[VI 12, VI 2, VR b57, VI 0] [])) (fun _ k => XS.ifYes X57.here hx rfl (pc0 := 14) (pc' := 24) rfl (hb hby d1_14) rfl (XT.i0_eq_t (by decide)) (by decide) (by decide) k) ?_
    refine own_by (B := T57.setTop (mkF m 25 #[VI 12, VI 2, VR b57, VI 0] [(.int 12)])) (fun _ k => XS.iloadN X57.here hx rfl (hb hby d1_24) rfl  k) ?_
    refine own_by (B := T57.setTop (mkF m 26 #[VI 12, VI 2, VR b57, VI 0] [(.int 2), (.int 12)])) (fun _ k => XS.iconst X57.here hx rfl (hb hby d1_25) k) ?_
    refine own_by (B := T57.setTop (mkF m 27 #[VI 12, VI 2, VR b57, VI 0] [(.int ((12 : Int32) &&& (2 : Int32)))])) (fun _ k => XS.iand X57.here hx rfl (hb hby d1_26) rfl k) ?_
    refine own_by (B := T57.setTop (mkF m 37 #[VI 12, VI 2, VR b57, VI 0] [])) (fun _ k => XS.ifYes X57.here hx rfl (pc0 := 27) (pc' := 37) rfl (hb hby d1_27) rfl (XT.i0_eq_t (by decide)) (by decide) (by decide) k) ?_
    refine own_by (B := T57.setTop (mkF m 38 #[VI 12, VI 2, VR b57, VI 0] [(.int 12)])) (fun _ k => XS.iloadN X57.here hx rfl (hb hby d1_37) rfl  k) ?_
    refine own_by (B := T57.setTop (mkF m 39 #[VI 12, VI 2, VR b57, VI 0] [(.int 4), (.int 12)])) (fun _ k => XS.iconst X57.here hx rfl (hb hby d1_38) k) ?_
    refine own_by (B := T57.setTop (mkF m 40 #[VI 12, VI 2, VR b57, VI 0] [(.int ((12 : Int32) &&& (4 : Int32)))])) (fun _ k => XS.iand X57.here hx rfl (hb hby d1_39) rfl k) ?_
    refine own_by (B := T57.setTop (mkF m 43 #[VI 12, VI 2, VR b57, VI 0] [])) (fun _ k => XS.ifNo X57.here hx rfl (hb hby d1_40) rfl (XT.i0_eq_f (by decide)) k) ?_
    refine own_by (B := T57.setTop (mkF m 44 #[VI 12, VI 2, VR b57, VI 0] [(.ref b57)])) (fun _ k => XS.aloadN X57.here hx rfl (hb hby d1_43) rfl rfl  k) ?_
    refine own_by (B := T57.setTop (mkF m 45 #[VI 12, VI 2, VR b57, VI 0] [(.int 0), (.ref b57)])) (fun _ k => XS.iloadN X57.here hx rfl (hb hby d1_44) rfl  k) ?_
    refine own_by (B := T57.setTop (mkF m 46 #[VI 12, VI 2, VR b57, VI 0] [(.int 2), (.int 0), (.ref b57)])) (fun _ k => XS.iconst X57.here hx rfl (hb hby d1_45) k) ?_
    obtain ⟨cl58, Ar58, qq58, Sz58, Nn58, Hh58, Gg58⟩ := id (V57)
    have hin58 : ¬ ((0 : Int32) < 0 ∨ cl58.slots.size ≤ ((0 : Int32)).toNatClampNeg) := inb_of Sz58 ⟨by decide, by decide⟩
    obtain ⟨T58, h58, X58, e58, W58, st58⟩ := stI X57 hx hZ e57 Ar58 (j := (0 : Int32)) hin58 (g := (mkF m 46 #[VI 12, VI 2, VR b57, VI 0] [(.int 2), (.int 0), (.ref b57)])) rfl rfl (hb hby d1_46)
    have sz58 := W58.size
    have O58 := O57.wr W58 gn57
    have K58 := K57.wr W58 (Or.inr fz57)
    have N58 := Fr.snoc X58 M56 gn57
    have V58 : Arv Z h58 b57 ka57 .int 2 [(.int 2), (.int 0)] (.int 0) := Arv.set Ar58 qq58 Sz58 Nn58 Hh58 Gg58 rfl W58 0 rfl (Nat.le_of_ble_eq_true rfl)
    refine own_by (B := T58.setTop (mkF m 47 #[VI 12, VI 2, VR b57, VI 0] [])) st58 ?_
    refine own_by (B := T58.setTop (mkF m 50 #[VI 12, VI 2, VR b57, VI 1] [])) (fun _ k => XS.iinc X58.here hx rfl (hb hby d1_47) rfl (l' := #[VI 12, VI 2, VR b57, VI 1]) rfl k) ?_
    refine own_by (B := T58.setTop (mkF m 51 #[VI 12, VI 2, VR b57, VI 1] [(.int 12)])) (fun _ k => XS.iloadN X58.here hx rfl (hb hby d1_50) rfl  k) ?_
    refine own_by (B := T58.setTop (mkF m 53 #[VI 12, VI 2, VR b57, VI 1] [(.int 8), (.int 12)])) (fun _ k => XS.bipush X58.here hx rfl (hb hby d1_51) k) ?_
    refine own_by (B := T58.setTop (mkF m 54 #[VI 12, VI 2, VR b57, VI 1] [(.int ((12 : Int32) &&& (8 : Int32)))])) (fun _ k => XS.iand X58.here hx rfl (hb hby d1_53) rfl k) ?_
    refine own_by (B := T58.setTop (mkF m 57 #[VI 12, VI 2, VR b57, VI 1] [])) (fun _ k => XS.ifNo X58.here hx rfl (hb hby d1_54) rfl (XT.i0_eq_f (by decide)) k) ?_
    refine own_by (B := T58.setTop (mkF m 58 #[VI 12, VI 2, VR b57, VI 1] [(.ref b57)])) (fun _ k => XS.aloadN X58.here hx rfl (hb hby d1_57) rfl rfl  k) ?_
    refine own_by (B := T58.setTop (mkF m 59 #[VI 12, VI 2, VR b57, VI 1] [(.int 1), (.ref b57)])) (fun _ k => XS.iloadN X58.here hx rfl (hb hby d1_58) rfl  k) ?_
    refine own_by (B := T58.setTop (mkF m 60 #[VI 12, VI 2, VR b57, VI 1] [(.int 3), (.int 1), (.ref b57)])) (fun _ k => XS.iconst X58.here hx rfl (hb hby d1_59) k) ?_
    obtain ⟨cl59, Ar59, qq59, Sz59, Nn59, Hh59, Gg59⟩ := id (V58)
    have hin59 : ¬ ((1 : Int32) < 0 ∨ cl59.slots.size ≤ ((1 : Int32)).toNatClampNeg) := inb_of Sz59 ⟨by decide, by decide⟩
    obtain ⟨T59, h59, X59, e59, W59, st59⟩ := stI X58 hx hZ e58 Ar59 (j := (1 : Int32)) hin59 (g := (mkF m 60 #[VI 12, VI 2, VR b57, VI 1] [(.int 3), (.int 1), (.ref b57)])) rfl rfl (hb hby d1_60)
    have sz59 := W59.size
    have O59 := O58.wr W59 gn57
    have K59 := K58.wr W59 (Or.inr fz57)
    have N59 := Fr.snoc X59 N58 gn57
    have V59 : Arv Z h59 b57 ka57 .int 2 [(.int 2), (.int 3)] (.int 0) := Arv.set Ar59 qq59 Sz59 Nn59 Hh59 Gg59 rfl W59 1 rfl (Nat.le_of_ble_eq_true rfl)
    refine own_by (B := T59.setTop (mkF m 61 #[VI 12, VI 2, VR b57, VI 1] [])) st59 ?_
    refine own_by (B := T59.setTop (mkF m 64 #[VI 12, VI 2, VR b57, VI 2] [])) (fun _ k => XS.iinc X59.here hx rfl (hb hby d1_61) rfl (l' := #[VI 12, VI 2, VR b57, VI 2]) rfl k) ?_
    refine own_by (B := T59.setTop (mkF m 65 #[VI 12, VI 2, VR b57, VI 2] [(.ref b57)])) (fun _ k => XS.aloadN X59.here hx rfl (hb hby d1_64) rfl rfl  k) ?_
    have c60 := ((EA57.wr W58).wr W59)
    have hl : own_cols (12 : Int32) = [(2 : Int32), (3 : Int32)] := by decide +kernel
    exact own_retA X59 hx hrt rfl rfl hlk (hb hby d1_65) (by decide) (by decide) (by show own_QCo Z (12 : Int32) h0 n0 _ T59.heap _; rw [e59]; exact ⟨_, _, rfl, N59, K59, fz57, by rw [hl]; exact ⟨V59, rfl⟩, c60⟩)
  · refine own_by (B := s₁.setTop (mkF m 1 #[VI 13, UU, UU, UU] [(.int 13)])) (fun _ k => XS.iloadN X0.here hx rfl (hb hby d1_0) rfl  k) ?_
    obtain ⟨_, _, ⟨T61, L61, k61, n61⟩, -, X61, ⟨Lc61, hQ61, l61, y61, z61⟩, st61⟩ := Jvm.LawKit.callS X0 hx (y := (⟨"com/example/document_pattern_rules/documentpatternrules/pattern/PairingAddPinLaw", "pc", "(I)I"⟩ : MethodName)) hown (mvT hZ (own_hw 4 hw rfl)) (mvT hZ (own_hw 5 hw rfl)) (mvT hZ (own_hw 2 hw rfl)) (mvT hZ (own_hw 6 hw rfl)) (by decide) (backOf (W := 0) (rm2 l Z a0 hw [] (13 : Int32) h0 n0 (own_old_le O0)) hZ (own_hw 6 hw rfl) (own_hw 2 hw rfl) (by decide) (by decide)) (g := (mkF m 1 #[VI 13, UU, UU, UU] [(.int 13)])) rfl (by rw [hml]; rfl) (argsL := [(.int 13)]) (rest := []) (lenOf pd_1__I_I rfl) rfl (by show 2 * 0 + _ ≤ _; exact Nat.le_of_eq rfl) (hb hby d1_1) (fun _ _ => ⟨rfl, e0, (by decide : 0 + 0 ≤ _), (by decide : 0 + 0 ≤ _)⟩)
    dsimp only [Pt.U, Pt.locs, Pt.cells, Pt.slots] at X61 l61 y61 z61 st61 hQ61
    subst l61 y61 z61
    obtain ⟨rfl, N61, e61⟩ := hQ61
    refine own_by (B := T61.setTop (mkF m 4 #[VI 13, UU, UU, UU] [(.int (own_pc (13 : Int32)))])) st61 ?_
    have M61 := Fr.app N0 N61
    rw [show (own_pc (13 : Int32)) = (3 : Int32) from by decide +kernel]
    refine own_by (B := T61.setTop (mkF m 5 #[VI 13, VI 3, UU, UU] [])) (fun _ k => XS.istoreN X61.here hx rfl (hb hby d1_4) rfl (l' := #[VI 13, VI 3, UU, UU]) rfl k) ?_
    refine own_by (B := T61.setTop (mkF m 6 #[VI 13, VI 3, UU, UU] [(.int 3)])) (fun _ k => XS.iloadN X61.here hx rfl (hb hby d1_5) rfl  k) ?_
    obtain ⟨T62, h62, ka62, X62, e62, E62, A62, EA62, st62⟩ := newPE X61 hx hZ (own_hw 7 hw rfl) e61 (g := (mkF m 6 #[VI 13, VI 3, UU, UU] [(.int 3)])) rfl (hb hby d1_6) rfl (by decide) (cap := 3) (by decide) (by decide) (by decide) (by decide) (ad := "[I") (by decide)
    obtain ⟨b62, g62⟩ : ∃ z, z = h0.size := ⟨_, rfl⟩
    rw [← g62] at A62 EA62 st62
    have sz62 := E62.1
    have gn62 : n0 ≤ b62 := g62 ▸ own_old_le O0
    have fz62 : h0.size ≤ b62 := g62 ▸ K0.1
    have lt62 := own_lt A62.lt
    have O62 := O0.ext E62
    have K62 := K0.ext E62
    have V62 : Arv Z h62 b62 ka62 .int 3 [(.int 0), (.int 0), (.int 0)] (.int 0) := (Arv.new A62 (by decide)).pad (pad_rep [] (.int 0) 3)
    refine own_by (B := T62.setTop (mkF m 8 #[VI 13, VI 3, UU, UU] [(.ref b62)])) st62 ?_
    refine own_by (B := T62.setTop (mkF m 9 #[VI 13, VI 3, VR b62, UU] [])) (fun _ k => XS.astoreN X62.here hx rfl (hb hby d1_8) rfl rfl (l' := #[VI 13, VI 3, VR b62, UU]) rfl k) ?_
    refine own_by (B := T62.setTop (mkF m 10 #[VI 13, VI 3, VR b62, UU] [(.int 0)])) (fun _ k => XS.iconst X62.here hx rfl (hb hby d1_9) k) ?_
    refine own_by (B := T62.setTop (mkF m 11 #[VI 13, VI 3, VR b62, VI 0] [])) (fun _ k => XS.istoreN X62.here hx rfl (hb hby d1_10) rfl (l' := #[VI 13, VI 3, VR b62, VI 0]) rfl k) ?_
    refine own_by (B := T62.setTop (mkF m 12 #[VI 13, VI 3, VR b62, VI 0] [(.int 13)])) (fun _ k => XS.iloadN X62.here hx rfl (hb hby d1_11) rfl  k) ?_
    refine own_by (B := T62.setTop (mkF m 13 #[VI 13, VI 3, VR b62, VI 0] [(.int 1), (.int 13)])) (fun _ k => XS.iconst X62.here hx rfl (hb hby d1_12) k) ?_
    refine own_by (B := T62.setTop (mkF m 14 #[VI 13, VI 3, VR b62, VI 0] [(.int ((13 : Int32) &&& (1 : Int32)))])) (fun _ k => XS.iand X62.here hx rfl (hb hby d1_13) rfl k) ?_
    refine own_by (B := T62.setTop (mkF m 17 #[VI 13, VI 3, VR b62, VI 0] [])) (fun _ k => XS.ifNo X62.here hx rfl (hb hby d1_14) rfl (XT.i0_eq_f (by decide)) k) ?_
    refine own_by (B := T62.setTop (mkF m 18 #[VI 13, VI 3, VR b62, VI 0] [(.ref b62)])) (fun _ k => XS.aloadN X62.here hx rfl (hb hby d1_17) rfl rfl  k) ?_
    refine own_by (B := T62.setTop (mkF m 19 #[VI 13, VI 3, VR b62, VI 0] [(.int 0), (.ref b62)])) (fun _ k => XS.iloadN X62.here hx rfl (hb hby d1_18) rfl  k) ?_
    refine own_by (B := T62.setTop (mkF m 20 #[VI 13, VI 3, VR b62, VI 0] [(.int 0), (.int 0), (.ref b62)])) (fun _ k => XS.iconst X62.here hx rfl (hb hby d1_19) k) ?_
    obtain ⟨cl63, Ar63, qq63, Sz63, Nn63, Hh63, Gg63⟩ := id (V62)
    have hin63 : ¬ ((0 : Int32) < 0 ∨ cl63.slots.size ≤ ((0 : Int32)).toNatClampNeg) := inb_of Sz63 ⟨by decide, by decide⟩
    obtain ⟨T63, h63, X63, e63, W63, st63⟩ := stI X62 hx hZ e62 Ar63 (j := (0 : Int32)) hin63 (g := (mkF m 20 #[VI 13, VI 3, VR b62, VI 0] [(.int 0), (.int 0), (.ref b62)])) rfl rfl (hb hby d1_20)
    have sz63 := W63.size
    have O63 := O62.wr W63 gn62
    have K63 := K62.wr W63 (Or.inr fz62)
    have N63 := Fr.snoc X63 M61 gn62
    have V63 : Arv Z h63 b62 ka62 .int 3 [(.int 0), (.int 0), (.int 0)] (.int 0) := Arv.set Ar63 qq63 Sz63 Nn63 Hh63 Gg63 rfl W63 0 rfl (Nat.le_of_ble_eq_true rfl)
    refine own_by (B := T63.setTop (mkF m 21 #[VI 13, VI 3, VR b62, VI 0] [])) st63 ?_
    refine own_by (B := T63.setTop (mkF m 24 #[VI 13, VI 3, VR b62, VI 1] [])) (fun _ k => XS.iinc X63.here hx rfl (hb hby d1_21) rfl (l' := #[VI 13, VI 3, VR b62, VI 1]) rfl k) ?_
    refine own_by (B := T63.setTop (mkF m 25 #[VI 13, VI 3, VR b62, VI 1] [(.int 13)])) (fun _ k => XS.iloadN X63.here hx rfl (hb hby d1_24) rfl  k) ?_
    refine own_by (B := T63.setTop (mkF m 26 #[VI 13, VI 3, VR b62, VI 1] [(.int 2), (.int 13)])) (fun _ k => XS.iconst X63.here hx rfl (hb hby d1_25) k) ?_
    refine own_by (B := T63.setTop (mkF m 27 #[VI 13, VI 3, VR b62, VI 1] [(.int ((13 : Int32) &&& (2 : Int32)))])) (fun _ k => XS.iand X63.here hx rfl (hb hby d1_26) rfl k) ?_
    refine own_by (B := T63.setTop (mkF m 37 #[VI 13, VI 3, VR b62, VI 1] [])) (fun _ k => XS.ifYes X63.here hx rfl (pc0 := 27) (pc' := 37) rfl (hb hby d1_27) rfl (XT.i0_eq_t (by decide)) (by decide) (by decide) k) ?_
    refine own_by (B := T63.setTop (mkF m 38 #[VI 13, VI 3, VR b62, VI 1] [(.int 13)])) (fun _ k => XS.iloadN X63.here hx rfl (hb hby d1_37) rfl  k) ?_
    refine own_by (B := T63.setTop (mkF m 39 #[VI 13, VI 3, VR b62, VI 1] [(.int 4), (.int 13)])) (fun _ k => XS.iconst X63.here hx rfl (hb hby d1_38) k) ?_
    refine own_by (B := T63.setTop (mkF m 40 #[VI 13, VI 3, VR b62, VI 1] [(.int ((13 : Int32) &&& (4 : Int32)))])) (fun _ k => XS.iand X63.here hx rfl (hb hby d1_39) rfl k) ?_
    refine own_by (B := T63.setTop (mkF m 43 #[VI 13, VI 3, VR b62, VI 1] [])) (fun _ k => XS.ifNo X63.here hx rfl (hb hby d1_40) rfl (XT.i0_eq_f (by decide)) k) ?_
    refine own_by (B := T63.setTop (mkF m 44 #[VI 13, VI 3, VR b62, VI 1] [(.ref b62)])) (fun _ k => XS.aloadN X63.here hx rfl (hb hby d1_43) rfl rfl  k) ?_
    refine own_by (B := T63.setTop (mkF m 45 #[VI 13, VI 3, VR b62, VI 1] [(.int 1), (.ref b62)])) (fun _ k => XS.iloadN X63.here hx rfl (hb hby d1_44) rfl  k) ?_
    refine own_by (B := T63.setTop (mkF m 46 #[VI 13, VI 3, VR b62, VI 1] [(.int 2), (.int 1), (.ref b62)])) (fun _ k => XS.iconst X63.here hx rfl (hb hby d1_45) k) ?_
    obtain ⟨cl64, Ar64, qq64, Sz64, Nn64, Hh64, Gg64⟩ := id (V63)
    have hin64 : ¬ ((1 : Int32) < 0 ∨ cl64.slots.size ≤ ((1 : Int32)).toNatClampNeg) := inb_of Sz64 ⟨by decide, by decide⟩
    obtain ⟨T64, h64, X64, e64, W64, st64⟩ := stI X63 hx hZ e63 Ar64 (j := (1 : Int32)) hin64 (g := (mkF m 46 #[VI 13, VI 3, VR b62, VI 1] [(.int 2), (.int 1), (.ref b62)])) rfl rfl (hb hby d1_46)
    have sz64 := W64.size
    have O64 := O63.wr W64 gn62
    have K64 := K63.wr W64 (Or.inr fz62)
    have N64 := Fr.snoc X64 N63 gn62
    have V64 : Arv Z h64 b62 ka62 .int 3 [(.int 0), (.int 2), (.int 0)] (.int 0) := Arv.set Ar64 qq64 Sz64 Nn64 Hh64 Gg64 rfl W64 1 rfl (Nat.le_of_ble_eq_true rfl)
    refine own_by (B := T64.setTop (mkF m 47 #[VI 13, VI 3, VR b62, VI 1] [])) st64 ?_
    refine own_by (B := T64.setTop (mkF m 50 #[VI 13, VI 3, VR b62, VI 2] [])) (fun _ k => XS.iinc X64.here hx rfl (hb hby d1_47) rfl (l' := #[VI 13, VI 3, VR b62, VI 2]) rfl k) ?_
    refine own_by (B := T64.setTop (mkF m 51 #[VI 13, VI 3, VR b62, VI 2] [(.int 13)])) (fun _ k => XS.iloadN X64.here hx rfl (hb hby d1_50) rfl  k) ?_
    refine own_by (B := T64.setTop (mkF m 53 #[VI 13, VI 3, VR b62, VI 2] [(.int 8), (.int 13)])) (fun _ k => XS.bipush X64.here hx rfl (hb hby d1_51) k) ?_
    refine own_by (B := T64.setTop (mkF m 54 #[VI 13, VI 3, VR b62, VI 2] [(.int ((13 : Int32) &&& (8 : Int32)))])) (fun _ k => XS.iand X64.here hx rfl (hb hby d1_53) rfl k) ?_
    refine own_by (B := T64.setTop (mkF m 57 #[VI 13, VI 3, VR b62, VI 2] [])) (fun _ k => XS.ifNo X64.here hx rfl (hb hby d1_54) rfl (XT.i0_eq_f (by decide)) k) ?_
    refine own_by (B := T64.setTop (mkF m 58 #[VI 13, VI 3, VR b62, VI 2] [(.ref b62)])) (fun _ k => XS.aloadN X64.here hx rfl (hb hby d1_57) rfl rfl  k) ?_
    refine own_by (B := T64.setTop (mkF m 59 #[VI 13, VI 3, VR b62, VI 2] [(.int 2), (.ref b62)])) (fun _ k => XS.iloadN X64.here hx rfl (hb hby d1_58) rfl  k) ?_
    refine own_by (B := T64.setTop (mkF m 60 #[VI 13, VI 3, VR b62, VI 2] [(.int 3), (.int 2), (.ref b62)])) (fun _ k => XS.iconst X64.here hx rfl (hb hby d1_59) k) ?_
    obtain ⟨cl65, Ar65, qq65, Sz65, Nn65, Hh65, Gg65⟩ := id (V64)
    have hin65 : ¬ ((2 : Int32) < 0 ∨ cl65.slots.size ≤ ((2 : Int32)).toNatClampNeg) := inb_of Sz65 ⟨by decide, by decide⟩
    obtain ⟨T65, h65, X65, e65, W65, st65⟩ := stI X64 hx hZ e64 Ar65 (j := (2 : Int32)) hin65 (g := (mkF m 60 #[VI 13, VI 3, VR b62, VI 2] [(.int 3), (.int 2), (.ref b62)])) rfl rfl (hb hby d1_60)
    have sz65 := W65.size
    have O65 := O64.wr W65 gn62
    have K65 := K64.wr W65 (Or.inr fz62)
    have N65 := Fr.snoc X65 N64 gn62
    have V65 : Arv Z h65 b62 ka62 .int 3 [(.int 0), (.int 2), (.int 3)] (.int 0) := Arv.set Ar65 qq65 Sz65 Nn65 Hh65 Gg65 rfl W65 2 rfl (Nat.le_of_ble_eq_true rfl)
    refine own_by (B := T65.setTop (mkF m 61 #[VI 13, VI 3, VR b62, VI 2] [])) st65 ?_
    refine own_by (B := T65.setTop (mkF m 64 #[VI 13, VI 3, VR b62, VI 3] [])) (fun _ k => XS.iinc X65.here hx rfl (hb hby d1_61) rfl (l' := #[VI 13, VI 3, VR b62, VI 3]) rfl k) ?_
    refine own_by (B := T65.setTop (mkF m 65 #[VI 13, VI 3, VR b62, VI 3] [(.ref b62)])) (fun _ k => XS.aloadN X65.here hx rfl (hb hby d1_64) rfl rfl  k) ?_
    have c66 := (((EA62.wr W63).wr W64).wr W65)
    have hl : own_cols (13 : Int32) = [(0 : Int32), (2 : Int32), (3 : Int32)] := by decide +kernel
    exact own_retA X65 hx hrt rfl rfl hlk (hb hby d1_65) (by decide) (by decide) (by show own_QCo Z (13 : Int32) h0 n0 _ T65.heap _; rw [e65]; exact ⟨_, _, rfl, N65, K65, fz62, by rw [hl]; exact ⟨V65, rfl⟩, c66⟩)
  · refine own_by (B := s₁.setTop (mkF m 1 #[VI 14, UU, UU, UU] [(.int 14)])) (fun _ k => XS.iloadN X0.here hx rfl (hb hby d1_0) rfl  k) ?_
    obtain ⟨_, _, ⟨T67, L67, k67, n67⟩, -, X67, ⟨Lc67, hQ67, l67, y67, z67⟩, st67⟩ := Jvm.LawKit.callS X0 hx (y := (⟨"com/example/document_pattern_rules/documentpatternrules/pattern/PairingAddPinLaw", "pc", "(I)I"⟩ : MethodName)) hown (mvT hZ (own_hw 4 hw rfl)) (mvT hZ (own_hw 5 hw rfl)) (mvT hZ (own_hw 2 hw rfl)) (mvT hZ (own_hw 6 hw rfl)) (by decide) (backOf (W := 0) (rm2 l Z a0 hw [] (14 : Int32) h0 n0 (own_old_le O0)) hZ (own_hw 6 hw rfl) (own_hw 2 hw rfl) (by decide) (by decide)) (g := (mkF m 1 #[VI 14, UU, UU, UU] [(.int 14)])) rfl (by rw [hml]; rfl) (argsL := [(.int 14)]) (rest := []) (lenOf pd_1__I_I rfl) rfl (by show 2 * 0 + _ ≤ _; exact Nat.le_of_eq rfl) (hb hby d1_1) (fun _ _ => ⟨rfl, e0, (by decide : 0 + 0 ≤ _), (by decide : 0 + 0 ≤ _)⟩)
    dsimp only [Pt.U, Pt.locs, Pt.cells, Pt.slots] at X67 l67 y67 z67 st67 hQ67
    subst l67 y67 z67
    obtain ⟨rfl, N67, e67⟩ := hQ67
    refine own_by (B := T67.setTop (mkF m 4 #[VI 14, UU, UU, UU] [(.int (own_pc (14 : Int32)))])) st67 ?_
    have M67 := Fr.app N0 N67
    rw [show (own_pc (14 : Int32)) = (3 : Int32) from by decide +kernel]
    refine own_by (B := T67.setTop (mkF m 5 #[VI 14, VI 3, UU, UU] [])) (fun _ k => XS.istoreN X67.here hx rfl (hb hby d1_4) rfl (l' := #[VI 14, VI 3, UU, UU]) rfl k) ?_
    refine own_by (B := T67.setTop (mkF m 6 #[VI 14, VI 3, UU, UU] [(.int 3)])) (fun _ k => XS.iloadN X67.here hx rfl (hb hby d1_5) rfl  k) ?_
    obtain ⟨T68, h68, ka68, X68, e68, E68, A68, EA68, st68⟩ := newPE X67 hx hZ (own_hw 7 hw rfl) e67 (g := (mkF m 6 #[VI 14, VI 3, UU, UU] [(.int 3)])) rfl (hb hby d1_6) rfl (by decide) (cap := 3) (by decide) (by decide) (by decide) (by decide) (ad := "[I") (by decide)
    obtain ⟨b68, g68⟩ : ∃ z, z = h0.size := ⟨_, rfl⟩
    rw [← g68] at A68 EA68 st68
    have sz68 := E68.1
    have gn68 : n0 ≤ b68 := g68 ▸ own_old_le O0
    have fz68 : h0.size ≤ b68 := g68 ▸ K0.1
    have lt68 := own_lt A68.lt
    have O68 := O0.ext E68
    have K68 := K0.ext E68
    have V68 : Arv Z h68 b68 ka68 .int 3 [(.int 0), (.int 0), (.int 0)] (.int 0) := (Arv.new A68 (by decide)).pad (pad_rep [] (.int 0) 3)
    refine own_by (B := T68.setTop (mkF m 8 #[VI 14, VI 3, UU, UU] [(.ref b68)])) st68 ?_
    refine own_by (B := T68.setTop (mkF m 9 #[VI 14, VI 3, VR b68, UU] [])) (fun _ k => XS.astoreN X68.here hx rfl (hb hby d1_8) rfl rfl (l' := #[VI 14, VI 3, VR b68, UU]) rfl k) ?_
    refine own_by (B := T68.setTop (mkF m 10 #[VI 14, VI 3, VR b68, UU] [(.int 0)])) (fun _ k => XS.iconst X68.here hx rfl (hb hby d1_9) k) ?_
    refine own_by (B := T68.setTop (mkF m 11 #[VI 14, VI 3, VR b68, VI 0] [])) (fun _ k => XS.istoreN X68.here hx rfl (hb hby d1_10) rfl (l' := #[VI 14, VI 3, VR b68, VI 0]) rfl k) ?_
    refine own_by (B := T68.setTop (mkF m 12 #[VI 14, VI 3, VR b68, VI 0] [(.int 14)])) (fun _ k => XS.iloadN X68.here hx rfl (hb hby d1_11) rfl  k) ?_
    refine own_by (B := T68.setTop (mkF m 13 #[VI 14, VI 3, VR b68, VI 0] [(.int 1), (.int 14)])) (fun _ k => XS.iconst X68.here hx rfl (hb hby d1_12) k) ?_
    refine own_by (B := T68.setTop (mkF m 14 #[VI 14, VI 3, VR b68, VI 0] [(.int ((14 : Int32) &&& (1 : Int32)))])) (fun _ k => XS.iand X68.here hx rfl (hb hby d1_13) rfl k) ?_
    refine own_by (B := T68.setTop (mkF m 24 #[VI 14, VI 3, VR b68, VI 0] [])) (fun _ k => XS.ifYes X68.here hx rfl (pc0 := 14) (pc' := 24) rfl (hb hby d1_14) rfl (XT.i0_eq_t (by decide)) (by decide) (by decide) k) ?_
    refine own_by (B := T68.setTop (mkF m 25 #[VI 14, VI 3, VR b68, VI 0] [(.int 14)])) (fun _ k => XS.iloadN X68.here hx rfl (hb hby d1_24) rfl  k) ?_
    refine own_by (B := T68.setTop (mkF m 26 #[VI 14, VI 3, VR b68, VI 0] [(.int 2), (.int 14)])) (fun _ k => XS.iconst X68.here hx rfl (hb hby d1_25) k) ?_
    refine own_by (B := T68.setTop (mkF m 27 #[VI 14, VI 3, VR b68, VI 0] [(.int ((14 : Int32) &&& (2 : Int32)))])) (fun _ k => XS.iand X68.here hx rfl (hb hby d1_26) rfl k) ?_
    refine own_by (B := T68.setTop (mkF m 30 #[VI 14, VI 3, VR b68, VI 0] [])) (fun _ k => XS.ifNo X68.here hx rfl (hb hby d1_27) rfl (XT.i0_eq_f (by decide)) k) ?_
    refine own_by (B := T68.setTop (mkF m 31 #[VI 14, VI 3, VR b68, VI 0] [(.ref b68)])) (fun _ k => XS.aloadN X68.here hx rfl (hb hby d1_30) rfl rfl  k) ?_
    refine own_by (B := T68.setTop (mkF m 32 #[VI 14, VI 3, VR b68, VI 0] [(.int 0), (.ref b68)])) (fun _ k => XS.iloadN X68.here hx rfl (hb hby d1_31) rfl  k) ?_
    refine own_by (B := T68.setTop (mkF m 33 #[VI 14, VI 3, VR b68, VI 0] [(.int 1), (.int 0), (.ref b68)])) (fun _ k => XS.iconst X68.here hx rfl (hb hby d1_32) k) ?_
    obtain ⟨cl69, Ar69, qq69, Sz69, Nn69, Hh69, Gg69⟩ := id (V68)
    have hin69 : ¬ ((0 : Int32) < 0 ∨ cl69.slots.size ≤ ((0 : Int32)).toNatClampNeg) := inb_of Sz69 ⟨by decide, by decide⟩
    obtain ⟨T69, h69, X69, e69, W69, st69⟩ := stI X68 hx hZ e68 Ar69 (j := (0 : Int32)) hin69 (g := (mkF m 33 #[VI 14, VI 3, VR b68, VI 0] [(.int 1), (.int 0), (.ref b68)])) rfl rfl (hb hby d1_33)
    have sz69 := W69.size
    have O69 := O68.wr W69 gn68
    have K69 := K68.wr W69 (Or.inr fz68)
    have N69 := Fr.snoc X69 M67 gn68
    have V69 : Arv Z h69 b68 ka68 .int 3 [(.int 1), (.int 0), (.int 0)] (.int 0) := Arv.set Ar69 qq69 Sz69 Nn69 Hh69 Gg69 rfl W69 0 rfl (Nat.le_of_ble_eq_true rfl)
    refine own_by (B := T69.setTop (mkF m 34 #[VI 14, VI 3, VR b68, VI 0] [])) st69 ?_
    refine own_by (B := T69.setTop (mkF m 37 #[VI 14, VI 3, VR b68, VI 1] [])) (fun _ k => XS.iinc X69.here hx rfl (hb hby d1_34) rfl (l' := #[VI 14, VI 3, VR b68, VI 1]) rfl k) ?_
    refine own_by (B := T69.setTop (mkF m 38 #[VI 14, VI 3, VR b68, VI 1] [(.int 14)])) (fun _ k => XS.iloadN X69.here hx rfl (hb hby d1_37) rfl  k) ?_
    refine own_by (B := T69.setTop (mkF m 39 #[VI 14, VI 3, VR b68, VI 1] [(.int 4), (.int 14)])) (fun _ k => XS.iconst X69.here hx rfl (hb hby d1_38) k) ?_
    refine own_by (B := T69.setTop (mkF m 40 #[VI 14, VI 3, VR b68, VI 1] [(.int ((14 : Int32) &&& (4 : Int32)))])) (fun _ k => XS.iand X69.here hx rfl (hb hby d1_39) rfl k) ?_
    refine own_by (B := T69.setTop (mkF m 43 #[VI 14, VI 3, VR b68, VI 1] [])) (fun _ k => XS.ifNo X69.here hx rfl (hb hby d1_40) rfl (XT.i0_eq_f (by decide)) k) ?_
    refine own_by (B := T69.setTop (mkF m 44 #[VI 14, VI 3, VR b68, VI 1] [(.ref b68)])) (fun _ k => XS.aloadN X69.here hx rfl (hb hby d1_43) rfl rfl  k) ?_
    refine own_by (B := T69.setTop (mkF m 45 #[VI 14, VI 3, VR b68, VI 1] [(.int 1), (.ref b68)])) (fun _ k => XS.iloadN X69.here hx rfl (hb hby d1_44) rfl  k) ?_
    refine own_by (B := T69.setTop (mkF m 46 #[VI 14, VI 3, VR b68, VI 1] [(.int 2), (.int 1), (.ref b68)])) (fun _ k => XS.iconst X69.here hx rfl (hb hby d1_45) k) ?_
    obtain ⟨cl70, Ar70, qq70, Sz70, Nn70, Hh70, Gg70⟩ := id (V69)
    have hin70 : ¬ ((1 : Int32) < 0 ∨ cl70.slots.size ≤ ((1 : Int32)).toNatClampNeg) := inb_of Sz70 ⟨by decide, by decide⟩
    obtain ⟨T70, h70, X70, e70, W70, st70⟩ := stI X69 hx hZ e69 Ar70 (j := (1 : Int32)) hin70 (g := (mkF m 46 #[VI 14, VI 3, VR b68, VI 1] [(.int 2), (.int 1), (.ref b68)])) rfl rfl (hb hby d1_46)
    have sz70 := W70.size
    have O70 := O69.wr W70 gn68
    have K70 := K69.wr W70 (Or.inr fz68)
    have N70 := Fr.snoc X70 N69 gn68
    have V70 : Arv Z h70 b68 ka68 .int 3 [(.int 1), (.int 2), (.int 0)] (.int 0) := Arv.set Ar70 qq70 Sz70 Nn70 Hh70 Gg70 rfl W70 1 rfl (Nat.le_of_ble_eq_true rfl)
    refine own_by (B := T70.setTop (mkF m 47 #[VI 14, VI 3, VR b68, VI 1] [])) st70 ?_
    refine own_by (B := T70.setTop (mkF m 50 #[VI 14, VI 3, VR b68, VI 2] [])) (fun _ k => XS.iinc X70.here hx rfl (hb hby d1_47) rfl (l' := #[VI 14, VI 3, VR b68, VI 2]) rfl k) ?_
    refine own_by (B := T70.setTop (mkF m 51 #[VI 14, VI 3, VR b68, VI 2] [(.int 14)])) (fun _ k => XS.iloadN X70.here hx rfl (hb hby d1_50) rfl  k) ?_
    refine own_by (B := T70.setTop (mkF m 53 #[VI 14, VI 3, VR b68, VI 2] [(.int 8), (.int 14)])) (fun _ k => XS.bipush X70.here hx rfl (hb hby d1_51) k) ?_
    refine own_by (B := T70.setTop (mkF m 54 #[VI 14, VI 3, VR b68, VI 2] [(.int ((14 : Int32) &&& (8 : Int32)))])) (fun _ k => XS.iand X70.here hx rfl (hb hby d1_53) rfl k) ?_
    refine own_by (B := T70.setTop (mkF m 57 #[VI 14, VI 3, VR b68, VI 2] [])) (fun _ k => XS.ifNo X70.here hx rfl (hb hby d1_54) rfl (XT.i0_eq_f (by decide)) k) ?_
    refine own_by (B := T70.setTop (mkF m 58 #[VI 14, VI 3, VR b68, VI 2] [(.ref b68)])) (fun _ k => XS.aloadN X70.here hx rfl (hb hby d1_57) rfl rfl  k) ?_
    refine own_by (B := T70.setTop (mkF m 59 #[VI 14, VI 3, VR b68, VI 2] [(.int 2), (.ref b68)])) (fun _ k => XS.iloadN X70.here hx rfl (hb hby d1_58) rfl  k) ?_
    refine own_by (B := T70.setTop (mkF m 60 #[VI 14, VI 3, VR b68, VI 2] [(.int 3), (.int 2), (.ref b68)])) (fun _ k => XS.iconst X70.here hx rfl (hb hby d1_59) k) ?_
    obtain ⟨cl71, Ar71, qq71, Sz71, Nn71, Hh71, Gg71⟩ := id (V70)
    have hin71 : ¬ ((2 : Int32) < 0 ∨ cl71.slots.size ≤ ((2 : Int32)).toNatClampNeg) := inb_of Sz71 ⟨by decide, by decide⟩
    obtain ⟨T71, h71, X71, e71, W71, st71⟩ := stI X70 hx hZ e70 Ar71 (j := (2 : Int32)) hin71 (g := (mkF m 60 #[VI 14, VI 3, VR b68, VI 2] [(.int 3), (.int 2), (.ref b68)])) rfl rfl (hb hby d1_60)
    have sz71 := W71.size
    have O71 := O70.wr W71 gn68
    have K71 := K70.wr W71 (Or.inr fz68)
    have N71 := Fr.snoc X71 N70 gn68
    have V71 : Arv Z h71 b68 ka68 .int 3 [(.int 1), (.int 2), (.int 3)] (.int 0) := Arv.set Ar71 qq71 Sz71 Nn71 Hh71 Gg71 rfl W71 2 rfl (Nat.le_of_ble_eq_true rfl)
    refine own_by (B := T71.setTop (mkF m 61 #[VI 14, VI 3, VR b68, VI 2] [])) st71 ?_
    refine own_by (B := T71.setTop (mkF m 64 #[VI 14, VI 3, VR b68, VI 3] [])) (fun _ k => XS.iinc X71.here hx rfl (hb hby d1_61) rfl (l' := #[VI 14, VI 3, VR b68, VI 3]) rfl k) ?_
    refine own_by (B := T71.setTop (mkF m 65 #[VI 14, VI 3, VR b68, VI 3] [(.ref b68)])) (fun _ k => XS.aloadN X71.here hx rfl (hb hby d1_64) rfl rfl  k) ?_
    have c72 := (((EA68.wr W69).wr W70).wr W71)
    have hl : own_cols (14 : Int32) = [(1 : Int32), (2 : Int32), (3 : Int32)] := by decide +kernel
    exact own_retA X71 hx hrt rfl rfl hlk (hb hby d1_65) (by decide) (by decide) (by show own_QCo Z (14 : Int32) h0 n0 _ T71.heap _; rw [e71]; exact ⟨_, _, rfl, N71, K71, fz68, by rw [hl]; exact ⟨V71, rfl⟩, c72⟩)
  · refine own_by (B := s₁.setTop (mkF m 1 #[VI 15, UU, UU, UU] [(.int 15)])) (fun _ k => XS.iloadN X0.here hx rfl (hb hby d1_0) rfl  k) ?_
    obtain ⟨_, _, ⟨T73, L73, k73, n73⟩, -, X73, ⟨Lc73, hQ73, l73, y73, z73⟩, st73⟩ := Jvm.LawKit.callS X0 hx (y := (⟨"com/example/document_pattern_rules/documentpatternrules/pattern/PairingAddPinLaw", "pc", "(I)I"⟩ : MethodName)) hown (mvT hZ (own_hw 4 hw rfl)) (mvT hZ (own_hw 5 hw rfl)) (mvT hZ (own_hw 2 hw rfl)) (mvT hZ (own_hw 6 hw rfl)) (by decide) (backOf (W := 0) (rm2 l Z a0 hw [] (15 : Int32) h0 n0 (own_old_le O0)) hZ (own_hw 6 hw rfl) (own_hw 2 hw rfl) (by decide) (by decide)) (g := (mkF m 1 #[VI 15, UU, UU, UU] [(.int 15)])) rfl (by rw [hml]; rfl) (argsL := [(.int 15)]) (rest := []) (lenOf pd_1__I_I rfl) rfl (by show 2 * 0 + _ ≤ _; exact Nat.le_of_eq rfl) (hb hby d1_1) (fun _ _ => ⟨rfl, e0, (by decide : 0 + 0 ≤ _), (by decide : 0 + 0 ≤ _)⟩)
    dsimp only [Pt.U, Pt.locs, Pt.cells, Pt.slots] at X73 l73 y73 z73 st73 hQ73
    subst l73 y73 z73
    obtain ⟨rfl, N73, e73⟩ := hQ73
    refine own_by (B := T73.setTop (mkF m 4 #[VI 15, UU, UU, UU] [(.int (own_pc (15 : Int32)))])) st73 ?_
    have M73 := Fr.app N0 N73
    rw [show (own_pc (15 : Int32)) = (4 : Int32) from by decide +kernel]
    refine own_by (B := T73.setTop (mkF m 5 #[VI 15, VI 4, UU, UU] [])) (fun _ k => XS.istoreN X73.here hx rfl (hb hby d1_4) rfl (l' := #[VI 15, VI 4, UU, UU]) rfl k) ?_
    refine own_by (B := T73.setTop (mkF m 6 #[VI 15, VI 4, UU, UU] [(.int 4)])) (fun _ k => XS.iloadN X73.here hx rfl (hb hby d1_5) rfl  k) ?_
    obtain ⟨T74, h74, ka74, X74, e74, E74, A74, EA74, st74⟩ := newPE X73 hx hZ (own_hw 7 hw rfl) e73 (g := (mkF m 6 #[VI 15, VI 4, UU, UU] [(.int 4)])) rfl (hb hby d1_6) rfl (by decide) (cap := 4) (by decide) (by decide) (by decide) (by decide) (ad := "[I") (by decide)
    obtain ⟨b74, g74⟩ : ∃ z, z = h0.size := ⟨_, rfl⟩
    rw [← g74] at A74 EA74 st74
    have sz74 := E74.1
    have gn74 : n0 ≤ b74 := g74 ▸ own_old_le O0
    have fz74 : h0.size ≤ b74 := g74 ▸ K0.1
    have lt74 := own_lt A74.lt
    have O74 := O0.ext E74
    have K74 := K0.ext E74
    have V74 : Arv Z h74 b74 ka74 .int 4 [(.int 0), (.int 0), (.int 0), (.int 0)] (.int 0) := (Arv.new A74 (by decide)).pad (pad_rep [] (.int 0) 4)
    refine own_by (B := T74.setTop (mkF m 8 #[VI 15, VI 4, UU, UU] [(.ref b74)])) st74 ?_
    refine own_by (B := T74.setTop (mkF m 9 #[VI 15, VI 4, VR b74, UU] [])) (fun _ k => XS.astoreN X74.here hx rfl (hb hby d1_8) rfl rfl (l' := #[VI 15, VI 4, VR b74, UU]) rfl k) ?_
    refine own_by (B := T74.setTop (mkF m 10 #[VI 15, VI 4, VR b74, UU] [(.int 0)])) (fun _ k => XS.iconst X74.here hx rfl (hb hby d1_9) k) ?_
    refine own_by (B := T74.setTop (mkF m 11 #[VI 15, VI 4, VR b74, VI 0] [])) (fun _ k => XS.istoreN X74.here hx rfl (hb hby d1_10) rfl (l' := #[VI 15, VI 4, VR b74, VI 0]) rfl k) ?_
    refine own_by (B := T74.setTop (mkF m 12 #[VI 15, VI 4, VR b74, VI 0] [(.int 15)])) (fun _ k => XS.iloadN X74.here hx rfl (hb hby d1_11) rfl  k) ?_
    refine own_by (B := T74.setTop (mkF m 13 #[VI 15, VI 4, VR b74, VI 0] [(.int 1), (.int 15)])) (fun _ k => XS.iconst X74.here hx rfl (hb hby d1_12) k) ?_
    refine own_by (B := T74.setTop (mkF m 14 #[VI 15, VI 4, VR b74, VI 0] [(.int ((15 : Int32) &&& (1 : Int32)))])) (fun _ k => XS.iand X74.here hx rfl (hb hby d1_13) rfl k) ?_
    refine own_by (B := T74.setTop (mkF m 17 #[VI 15, VI 4, VR b74, VI 0] [])) (fun _ k => XS.ifNo X74.here hx rfl (hb hby d1_14) rfl (XT.i0_eq_f (by decide)) k) ?_
    refine own_by (B := T74.setTop (mkF m 18 #[VI 15, VI 4, VR b74, VI 0] [(.ref b74)])) (fun _ k => XS.aloadN X74.here hx rfl (hb hby d1_17) rfl rfl  k) ?_
    refine own_by (B := T74.setTop (mkF m 19 #[VI 15, VI 4, VR b74, VI 0] [(.int 0), (.ref b74)])) (fun _ k => XS.iloadN X74.here hx rfl (hb hby d1_18) rfl  k) ?_
    refine own_by (B := T74.setTop (mkF m 20 #[VI 15, VI 4, VR b74, VI 0] [(.int 0), (.int 0), (.ref b74)])) (fun _ k => XS.iconst X74.here hx rfl (hb hby d1_19) k) ?_
    obtain ⟨cl75, Ar75, qq75, Sz75, Nn75, Hh75, Gg75⟩ := id (V74)
    have hin75 : ¬ ((0 : Int32) < 0 ∨ cl75.slots.size ≤ ((0 : Int32)).toNatClampNeg) := inb_of Sz75 ⟨by decide, by decide⟩
    obtain ⟨T75, h75, X75, e75, W75, st75⟩ := stI X74 hx hZ e74 Ar75 (j := (0 : Int32)) hin75 (g := (mkF m 20 #[VI 15, VI 4, VR b74, VI 0] [(.int 0), (.int 0), (.ref b74)])) rfl rfl (hb hby d1_20)
    have sz75 := W75.size
    have O75 := O74.wr W75 gn74
    have K75 := K74.wr W75 (Or.inr fz74)
    have N75 := Fr.snoc X75 M73 gn74
    have V75 : Arv Z h75 b74 ka74 .int 4 [(.int 0), (.int 0), (.int 0), (.int 0)] (.int 0) := Arv.set Ar75 qq75 Sz75 Nn75 Hh75 Gg75 rfl W75 0 rfl (Nat.le_of_ble_eq_true rfl)
    refine own_by (B := T75.setTop (mkF m 21 #[VI 15, VI 4, VR b74, VI 0] [])) st75 ?_
    refine own_by (B := T75.setTop (mkF m 24 #[VI 15, VI 4, VR b74, VI 1] [])) (fun _ k => XS.iinc X75.here hx rfl (hb hby d1_21) rfl (l' := #[VI 15, VI 4, VR b74, VI 1]) rfl k) ?_
    refine own_by (B := T75.setTop (mkF m 25 #[VI 15, VI 4, VR b74, VI 1] [(.int 15)])) (fun _ k => XS.iloadN X75.here hx rfl (hb hby d1_24) rfl  k) ?_
    refine own_by (B := T75.setTop (mkF m 26 #[VI 15, VI 4, VR b74, VI 1] [(.int 2), (.int 15)])) (fun _ k => XS.iconst X75.here hx rfl (hb hby d1_25) k) ?_
    refine own_by (B := T75.setTop (mkF m 27 #[VI 15, VI 4, VR b74, VI 1] [(.int ((15 : Int32) &&& (2 : Int32)))])) (fun _ k => XS.iand X75.here hx rfl (hb hby d1_26) rfl k) ?_
    refine own_by (B := T75.setTop (mkF m 30 #[VI 15, VI 4, VR b74, VI 1] [])) (fun _ k => XS.ifNo X75.here hx rfl (hb hby d1_27) rfl (XT.i0_eq_f (by decide)) k) ?_
    refine own_by (B := T75.setTop (mkF m 31 #[VI 15, VI 4, VR b74, VI 1] [(.ref b74)])) (fun _ k => XS.aloadN X75.here hx rfl (hb hby d1_30) rfl rfl  k) ?_
    refine own_by (B := T75.setTop (mkF m 32 #[VI 15, VI 4, VR b74, VI 1] [(.int 1), (.ref b74)])) (fun _ k => XS.iloadN X75.here hx rfl (hb hby d1_31) rfl  k) ?_
    refine own_by (B := T75.setTop (mkF m 33 #[VI 15, VI 4, VR b74, VI 1] [(.int 1), (.int 1), (.ref b74)])) (fun _ k => XS.iconst X75.here hx rfl (hb hby d1_32) k) ?_
    obtain ⟨cl76, Ar76, qq76, Sz76, Nn76, Hh76, Gg76⟩ := id (V75)
    have hin76 : ¬ ((1 : Int32) < 0 ∨ cl76.slots.size ≤ ((1 : Int32)).toNatClampNeg) := inb_of Sz76 ⟨by decide, by decide⟩
    obtain ⟨T76, h76, X76, e76, W76, st76⟩ := stI X75 hx hZ e75 Ar76 (j := (1 : Int32)) hin76 (g := (mkF m 33 #[VI 15, VI 4, VR b74, VI 1] [(.int 1), (.int 1), (.ref b74)])) rfl rfl (hb hby d1_33)
    have sz76 := W76.size
    have O76 := O75.wr W76 gn74
    have K76 := K75.wr W76 (Or.inr fz74)
    have N76 := Fr.snoc X76 N75 gn74
    have V76 : Arv Z h76 b74 ka74 .int 4 [(.int 0), (.int 1), (.int 0), (.int 0)] (.int 0) := Arv.set Ar76 qq76 Sz76 Nn76 Hh76 Gg76 rfl W76 1 rfl (Nat.le_of_ble_eq_true rfl)
    refine own_by (B := T76.setTop (mkF m 34 #[VI 15, VI 4, VR b74, VI 1] [])) st76 ?_
    refine own_by (B := T76.setTop (mkF m 37 #[VI 15, VI 4, VR b74, VI 2] [])) (fun _ k => XS.iinc X76.here hx rfl (hb hby d1_34) rfl (l' := #[VI 15, VI 4, VR b74, VI 2]) rfl k) ?_
    refine own_by (B := T76.setTop (mkF m 38 #[VI 15, VI 4, VR b74, VI 2] [(.int 15)])) (fun _ k => XS.iloadN X76.here hx rfl (hb hby d1_37) rfl  k) ?_
    refine own_by (B := T76.setTop (mkF m 39 #[VI 15, VI 4, VR b74, VI 2] [(.int 4), (.int 15)])) (fun _ k => XS.iconst X76.here hx rfl (hb hby d1_38) k) ?_
    refine own_by (B := T76.setTop (mkF m 40 #[VI 15, VI 4, VR b74, VI 2] [(.int ((15 : Int32) &&& (4 : Int32)))])) (fun _ k => XS.iand X76.here hx rfl (hb hby d1_39) rfl k) ?_
    refine own_by (B := T76.setTop (mkF m 43 #[VI 15, VI 4, VR b74, VI 2] [])) (fun _ k => XS.ifNo X76.here hx rfl (hb hby d1_40) rfl (XT.i0_eq_f (by decide)) k) ?_
    refine own_by (B := T76.setTop (mkF m 44 #[VI 15, VI 4, VR b74, VI 2] [(.ref b74)])) (fun _ k => XS.aloadN X76.here hx rfl (hb hby d1_43) rfl rfl  k) ?_
    refine own_by (B := T76.setTop (mkF m 45 #[VI 15, VI 4, VR b74, VI 2] [(.int 2), (.ref b74)])) (fun _ k => XS.iloadN X76.here hx rfl (hb hby d1_44) rfl  k) ?_
    refine own_by (B := T76.setTop (mkF m 46 #[VI 15, VI 4, VR b74, VI 2] [(.int 2), (.int 2), (.ref b74)])) (fun _ k => XS.iconst X76.here hx rfl (hb hby d1_45) k) ?_
    obtain ⟨cl77, Ar77, qq77, Sz77, Nn77, Hh77, Gg77⟩ := id (V76)
    have hin77 : ¬ ((2 : Int32) < 0 ∨ cl77.slots.size ≤ ((2 : Int32)).toNatClampNeg) := inb_of Sz77 ⟨by decide, by decide⟩
    obtain ⟨T77, h77, X77, e77, W77, st77⟩ := stI X76 hx hZ e76 Ar77 (j := (2 : Int32)) hin77 (g := (mkF m 46 #[VI 15, VI 4, VR b74, VI 2] [(.int 2), (.int 2), (.ref b74)])) rfl rfl (hb hby d1_46)
    have sz77 := W77.size
    have O77 := O76.wr W77 gn74
    have K77 := K76.wr W77 (Or.inr fz74)
    have N77 := Fr.snoc X77 N76 gn74
    have V77 : Arv Z h77 b74 ka74 .int 4 [(.int 0), (.int 1), (.int 2), (.int 0)] (.int 0) := Arv.set Ar77 qq77 Sz77 Nn77 Hh77 Gg77 rfl W77 2 rfl (Nat.le_of_ble_eq_true rfl)
    refine own_by (B := T77.setTop (mkF m 47 #[VI 15, VI 4, VR b74, VI 2] [])) st77 ?_
    refine own_by (B := T77.setTop (mkF m 50 #[VI 15, VI 4, VR b74, VI 3] [])) (fun _ k => XS.iinc X77.here hx rfl (hb hby d1_47) rfl (l' := #[VI 15, VI 4, VR b74, VI 3]) rfl k) ?_
    refine own_by (B := T77.setTop (mkF m 51 #[VI 15, VI 4, VR b74, VI 3] [(.int 15)])) (fun _ k => XS.iloadN X77.here hx rfl (hb hby d1_50) rfl  k) ?_
    refine own_by (B := T77.setTop (mkF m 53 #[VI 15, VI 4, VR b74, VI 3] [(.int 8), (.int 15)])) (fun _ k => XS.bipush X77.here hx rfl (hb hby d1_51) k) ?_
    refine own_by (B := T77.setTop (mkF m 54 #[VI 15, VI 4, VR b74, VI 3] [(.int ((15 : Int32) &&& (8 : Int32)))])) (fun _ k => XS.iand X77.here hx rfl (hb hby d1_53) rfl k) ?_
    refine own_by (B := T77.setTop (mkF m 57 #[VI 15, VI 4, VR b74, VI 3] [])) (fun _ k => XS.ifNo X77.here hx rfl (hb hby d1_54) rfl (XT.i0_eq_f (by decide)) k) ?_
    refine own_by (B := T77.setTop (mkF m 58 #[VI 15, VI 4, VR b74, VI 3] [(.ref b74)])) (fun _ k => XS.aloadN X77.here hx rfl (hb hby d1_57) rfl rfl  k) ?_
    refine own_by (B := T77.setTop (mkF m 59 #[VI 15, VI 4, VR b74, VI 3] [(.int 3), (.ref b74)])) (fun _ k => XS.iloadN X77.here hx rfl (hb hby d1_58) rfl  k) ?_
    refine own_by (B := T77.setTop (mkF m 60 #[VI 15, VI 4, VR b74, VI 3] [(.int 3), (.int 3), (.ref b74)])) (fun _ k => XS.iconst X77.here hx rfl (hb hby d1_59) k) ?_
    obtain ⟨cl78, Ar78, qq78, Sz78, Nn78, Hh78, Gg78⟩ := id (V77)
    have hin78 : ¬ ((3 : Int32) < 0 ∨ cl78.slots.size ≤ ((3 : Int32)).toNatClampNeg) := inb_of Sz78 ⟨by decide, by decide⟩
    obtain ⟨T78, h78, X78, e78, W78, st78⟩ := stI X77 hx hZ e77 Ar78 (j := (3 : Int32)) hin78 (g := (mkF m 60 #[VI 15, VI 4, VR b74, VI 3] [(.int 3), (.int 3), (.ref b74)])) rfl rfl (hb hby d1_60)
    have sz78 := W78.size
    have O78 := O77.wr W78 gn74
    have K78 := K77.wr W78 (Or.inr fz74)
    have N78 := Fr.snoc X78 N77 gn74
    have V78 : Arv Z h78 b74 ka74 .int 4 [(.int 0), (.int 1), (.int 2), (.int 3)] (.int 0) := Arv.set Ar78 qq78 Sz78 Nn78 Hh78 Gg78 rfl W78 3 rfl (Nat.le_of_ble_eq_true rfl)
    refine own_by (B := T78.setTop (mkF m 61 #[VI 15, VI 4, VR b74, VI 3] [])) st78 ?_
    refine own_by (B := T78.setTop (mkF m 64 #[VI 15, VI 4, VR b74, VI 4] [])) (fun _ k => XS.iinc X78.here hx rfl (hb hby d1_61) rfl (l' := #[VI 15, VI 4, VR b74, VI 4]) rfl k) ?_
    refine own_by (B := T78.setTop (mkF m 65 #[VI 15, VI 4, VR b74, VI 4] [(.ref b74)])) (fun _ k => XS.aloadN X78.here hx rfl (hb hby d1_64) rfl rfl  k) ?_
    have c79 := ((((EA74.wr W75).wr W76).wr W77).wr W78)
    have hl : own_cols (15 : Int32) = [(0 : Int32), (1 : Int32), (2 : Int32), (3 : Int32)] := by decide +kernel
    exact own_retA X78 hx hrt rfl rfl hlk (hb hby d1_65) (by decide) (by decide) (by show own_QCo Z (15 : Int32) h0 n0 _ T78.heap _; rw [e78]; exact ⟨_, _, rfl, N78, K78, fz74, by rw [hl]; exact ⟨V78, rfl⟩, c79⟩)

def own_three {α : Type} (x y z : α) : Nat → α
  | 0 => x
  | 1 => y
  | _ => z
theorem own_cc {La Lb Lc : List Int32} {P : Nat → List Int32 → Prop} (h0 : P 0 La) (h1 : P 1 Lb) (h2 : P 2 Lc) : ∀ i L, ([La, Lb, Lc] : List (List Int32))[i]? = some L → P i L := by
  intro i L h
  match i, h with
  | 0, h => obtain rfl := Option.some.inj h; exact h0
  | 1, h => obtain rfl := Option.some.inj h; exact h1
  | 2, h => obtain rfl := Option.some.inj h; exact h2
  | n + 3, h => cases h
theorem own_PS_sub {Z : State} {h : Heap} {n0 : Nat} {A : Nat → Nat} {K : Nat → ClassId} {zr zc : Int32} {CA : Nat → Nat} {CK : Nat → ClassId} {CL CL' : List (List Int32)} {u : own_S} (P : own_PS Z h n0 A K zr zc CA CK CL u) (hs : ∀ (i : Nat) (L : List Int32), CL'[i]? = some L → CL[i]? = some L) : own_PS Z h n0 A K zr zc CA CK CL' u := by
  obtain ⟨g0, o0, o1, o2, o3, o4, o5, o6, o7, o8, o9, o10, o11, E, f1, f2, f3, f4, f5, f6, f7, f8, f9, f10, f11, f12, fse, fro, v1, v2, v3, v4, v5, v6, v7, v8, v9, v10, v11, v12, cc⟩ := P
  exact ⟨g0, o0, o1, o2, o3, o4, o5, o6, o7, o8, o9, o10, o11, E, f1, f2, f3, f4, f5, f6, f7, f8, f9, f10, f11, f12, fse, fro, v1, v2, v3, v4, v5, v6, v7, v8, v9, v10, v11, v12, fun i L hi => cc i L (hs i L hi)⟩

theorem own_sub0 {La Lb Lc : List Int32} : ∀ (i : Nat) (L : List Int32), ([] : List (List Int32))[i]? = some L → ([La, Lb, Lc] : List (List Int32))[i]? = some L := by
  intro i L h
  cases h

theorem own_sub1 {La Lb Lc : List Int32} : ∀ (i : Nat) (L : List Int32), ([La] : List (List Int32))[i]? = some L → ([La, Lb, Lc] : List (List Int32))[i]? = some L := by
  intro i L h
  match i, h with
  | 0, h => exact h
  | n + 1, h => cases h

theorem own_sub2 {La Lb Lc : List Int32} : ∀ (i : Nat) (L : List Int32), ([La, Lb] : List (List Int32))[i]? = some L → ([La, Lb, Lc] : List (List Int32))[i]? = some L := by
  intro i L h
  match i, h with
  | 0, h => exact h
  | 1, h => exact h
  | n + 2, h => cases h

theorem own_sub3 {La Lb Lc : List Int32} : ∀ (i : Nat) (L : List Int32), ([La, Lb, Lc] : List (List Int32))[i]? = some L → ([La, Lb, Lc] : List (List Int32))[i]? = some L := by
  intro i L h
  match i, h with
  | 0, h => exact h
  | 1, h => exact h
  | 2, h => exact h
  | n + 3, h => cases h

def own_law0 (CL : List (List Int32)) (uA uB uC : Int32) : Option Int32 := (own_complete CL own_u0 ).bind fun q112 => if (q112.1) = (own_match (0 : Int32) uA uB uC) then (if (q112.1) = (0 : Int32) then (some (1 : Int32)) else (some (1 : Int32))) else (some (0 : Int32))

def own_law1 (CL : List (List Int32)) (uA uB uC : Int32) : Option Int32 := (own_add CL own_u0 0).bind fun q217 => (own_complete CL q217 ).bind fun q219 => if (q219.1) = (own_match (1 : Int32) uA uB uC) then (if (q219.1) = (0 : Int32) then (some (1 : Int32)) else ((own_lowest CL (q219.2) (0 : Int32)).bind fun q224 => if (q224.1) = (own_lref (1 : Int32) uA uB uC) then (some (1 : Int32)) else (some (0 : Int32)))) else (some (0 : Int32))

def own_law2 (CL : List (List Int32)) (uA uB uC : Int32) : Option Int32 := (own_add CL own_u0 0).bind fun q328 => (own_add CL q328 1).bind fun q330 => (own_complete CL q330 ).bind fun q332 => if (q332.1) = (own_match (2 : Int32) uA uB uC) then (if (q332.1) = (0 : Int32) then (some (1 : Int32)) else ((own_lowest CL (q332.2) (0 : Int32)).bind fun q337 => if (q337.1) = (own_lref (2 : Int32) uA uB uC) then (some (1 : Int32)) else (some (0 : Int32)))) else (some (0 : Int32))

def own_law3 (CL : List (List Int32)) (uA uB uC : Int32) : Option Int32 := (own_add CL own_u0 0).bind fun q441 => (own_add CL q441 1).bind fun q443 => (own_add CL q443 2).bind fun q445 => (own_complete CL q445 ).bind fun q447 => if (q447.1) = (own_match (3 : Int32) uA uB uC) then (if (q447.1) = (0 : Int32) then (some (1 : Int32)) else ((own_lowest CL (q447.2) (0 : Int32)).bind fun q452 => if (q452.1) = (own_lref (3 : Int32) uA uB uC) then (some (1 : Int32)) else (some (0 : Int32)))) else (some (0 : Int32))

theorem own_e4 {z : Int32} (h0 : 0 ≤ z.toInt) (h1 : z.toInt < 4) : z = (0 : Int32) ∨ z = (1 : Int32) ∨ z = (2 : Int32) ∨ z = (3 : Int32) := by
  have h : z.toInt = 0 ∨ z.toInt = 1 ∨ z.toInt = 2 ∨ z.toInt = 3 := by omega
  rcases h with h | h | h | h
  · exact Or.inl (Int32.toInt_inj.mp (h.trans (by decide)))
  · exact Or.inr (Or.inl (Int32.toInt_inj.mp (h.trans (by decide))))
  · exact Or.inr (Or.inr (Or.inl (Int32.toInt_inj.mp (h.trans (by decide)))))
  · exact Or.inr (Or.inr (Or.inr ((Int32.toInt_inj.mp (h.trans (by decide))))))

theorem own_e16 {z : Int32} (h0 : 0 ≤ z.toInt) (h1 : z.toInt < 16) : z = (0 : Int32) ∨ z = (1 : Int32) ∨ z = (2 : Int32) ∨ z = (3 : Int32) ∨ z = (4 : Int32) ∨ z = (5 : Int32) ∨ z = (6 : Int32) ∨ z = (7 : Int32) ∨ z = (8 : Int32) ∨ z = (9 : Int32) ∨ z = (10 : Int32) ∨ z = (11 : Int32) ∨ z = (12 : Int32) ∨ z = (13 : Int32) ∨ z = (14 : Int32) ∨ z = (15 : Int32) := by
  have h : z.toInt = 0 ∨ z.toInt = 1 ∨ z.toInt = 2 ∨ z.toInt = 3 ∨ z.toInt = 4 ∨ z.toInt = 5 ∨ z.toInt = 6 ∨ z.toInt = 7 ∨ z.toInt = 8 ∨ z.toInt = 9 ∨ z.toInt = 10 ∨ z.toInt = 11 ∨ z.toInt = 12 ∨ z.toInt = 13 ∨ z.toInt = 14 ∨ z.toInt = 15 := by omega
  rcases h with h | h | h | h | h | h | h | h | h | h | h | h | h | h | h | h
  · exact Or.inl (Int32.toInt_inj.mp (h.trans (by decide)))
  · exact Or.inr (Or.inl (Int32.toInt_inj.mp (h.trans (by decide))))
  · exact Or.inr (Or.inr (Or.inl (Int32.toInt_inj.mp (h.trans (by decide)))))
  · exact Or.inr (Or.inr (Or.inr (Or.inl (Int32.toInt_inj.mp (h.trans (by decide))))))
  · exact Or.inr (Or.inr (Or.inr (Or.inr (Or.inl (Int32.toInt_inj.mp (h.trans (by decide)))))))
  · exact Or.inr (Or.inr (Or.inr (Or.inr (Or.inr (Or.inl (Int32.toInt_inj.mp (h.trans (by decide))))))))
  · exact Or.inr (Or.inr (Or.inr (Or.inr (Or.inr (Or.inr (Or.inl (Int32.toInt_inj.mp (h.trans (by decide)))))))))
  · exact Or.inr (Or.inr (Or.inr (Or.inr (Or.inr (Or.inr (Or.inr (Or.inl (Int32.toInt_inj.mp (h.trans (by decide))))))))))
  · exact Or.inr (Or.inr (Or.inr (Or.inr (Or.inr (Or.inr (Or.inr (Or.inr (Or.inl (Int32.toInt_inj.mp (h.trans (by decide)))))))))))
  · exact Or.inr (Or.inr (Or.inr (Or.inr (Or.inr (Or.inr (Or.inr (Or.inr (Or.inr (Or.inl (Int32.toInt_inj.mp (h.trans (by decide))))))))))))
  · exact Or.inr (Or.inr (Or.inr (Or.inr (Or.inr (Or.inr (Or.inr (Or.inr (Or.inr (Or.inr (Or.inl (Int32.toInt_inj.mp (h.trans (by decide)))))))))))))
  · exact Or.inr (Or.inr (Or.inr (Or.inr (Or.inr (Or.inr (Or.inr (Or.inr (Or.inr (Or.inr (Or.inr (Or.inl (Int32.toInt_inj.mp (h.trans (by decide))))))))))))))
  · exact Or.inr (Or.inr (Or.inr (Or.inr (Or.inr (Or.inr (Or.inr (Or.inr (Or.inr (Or.inr (Or.inr (Or.inr (Or.inl (Int32.toInt_inj.mp (h.trans (by decide)))))))))))))))
  · exact Or.inr (Or.inr (Or.inr (Or.inr (Or.inr (Or.inr (Or.inr (Or.inr (Or.inr (Or.inr (Or.inr (Or.inr (Or.inr (Or.inl (Int32.toInt_inj.mp (h.trans (by decide))))))))))))))))
  · exact Or.inr (Or.inr (Or.inr (Or.inr (Or.inr (Or.inr (Or.inr (Or.inr (Or.inr (Or.inr (Or.inr (Or.inr (Or.inr (Or.inr (Or.inl (Int32.toInt_inj.mp (h.trans (by decide)))))))))))))))))
  · exact Or.inr (Or.inr (Or.inr (Or.inr (Or.inr (Or.inr (Or.inr (Or.inr (Or.inr (Or.inr (Or.inr (Or.inr (Or.inr (Or.inr (Or.inr ((Int32.toInt_inj.mp (h.trans (by decide))))))))))))))))))

theorem own_two_bits (x : Int32) : x &&& (3 : Int32) = 0 ∨ x &&& (3 : Int32) = 1 ∨ x &&& (3 : Int32) = 2 ∨ x &&& (3 : Int32) = 3 := by
  have q := c_and x 3 (by decide)
  have e : (3 : Int32).toInt = 3 := by decide
  exact own_e4 q.1 (by omega)
def own_is16 (z : Int32) : Prop := z = (0 : Int32) ∨ z = (1 : Int32) ∨ z = (2 : Int32) ∨ z = (3 : Int32) ∨ z = (4 : Int32) ∨ z = (5 : Int32) ∨ z = (6 : Int32) ∨ z = (7 : Int32) ∨ z = (8 : Int32) ∨ z = (9 : Int32) ∨ z = (10 : Int32) ∨ z = (11 : Int32) ∨ z = (12 : Int32) ∨ z = (13 : Int32) ∨ z = (14 : Int32) ∨ z = (15 : Int32)
theorem own_in16 {x z : Int32} (h : z = (x &&& (15 : Int32))) : own_is16 z := by
  have h1 := c_and x 15 (by decide)
  have e : (15 : Int32).toInt = 15 := by decide
  rw [← h] at h1
  exact own_e16 h1.1 (by omega)
def own_16 : List Int32 := [0, 1, 2, 3, 4, 5, 6, 7, 8, 9, 10, 11, 12, 13, 14, 15]
theorem own_mem16 {z : Int32} (h : own_is16 z) : z ∈ own_16 := by
  rcases h with rfl | rfl | rfl | rfl | rfl | rfl | rfl | rfl | rfl | rfl | rfl | rfl | rfl | rfl | rfl | rfl <;> decide
theorem own_m0 (ux uy uz : Int32) : own_match (0 : Int32) ux uy uz = own_match (0 : Int32) 0 0 0 := by
  unfold own_match; simp only [if_neg (show ¬ ((0 : Int32) < (0 : Int32)) from by decide)]
theorem own_m1 (ux uy uz : Int32) : own_match (1 : Int32) ux uy uz = own_match (1 : Int32) ux 0 0 := by
  unfold own_match; simp only [if_pos (show (0 : Int32) < (1 : Int32) from by decide), if_true]
theorem own_m2 (ux uy uz : Int32) : own_match (2 : Int32) ux uy uz = own_match (2 : Int32) ux uy 0 := by
  unfold own_match; simp only [if_pos (show (0 : Int32) < (2 : Int32) from by decide), if_neg (show ¬ ((2 : Int32) = (1 : Int32)) from by decide), if_true]
theorem own_f1 (ui ux uy uz : Int32) : own_feas ui (1 : Int32) ux uy uz = own_feas ui (1 : Int32) ux 0 0 := by
  unfold own_feas
  simp only [show (1 : Int32) - (1 : Int32) = 0 from by decide]
  rw [own_m0]; rw [own_m0 (0 &&& _)]
theorem own_f2 (ui ux uy uz : Int32) : own_feas ui (2 : Int32) ux uy uz = own_feas ui (2 : Int32) ux uy 0 := by
  unfold own_feas
  simp only [show (2 : Int32) - (1 : Int32) = 1 from by decide]
  rw [own_m1]; rw [own_m1 _ (0 &&& _)]
theorem own_l1 (ux uy uz : Int32) : own_lref (1 : Int32) ux uy uz = own_lref (1 : Int32) ux 0 0 := by
  unfold own_lref; simp only [own_f1 _ ux uy uz]
theorem own_l2 (ux uy uz : Int32) : own_lref (2 : Int32) ux uy uz = own_lref (2 : Int32) ux uy 0 := by
  unfold own_lref; simp only [own_f2 _ ux uy uz]

set_option maxRecDepth 65536 in
theorem own_all0 : own_law0 [] 0 0 0 = some (1 : Int32) := by decide +kernel

set_option maxRecDepth 65536 in
theorem own_all1 : own_16.all (fun x => decide (own_law1 [own_cols x] x 0 0 = some (1 : Int32))) = true := by decide +kernel

set_option maxRecDepth 65536 in
theorem own_all2 : own_16.all (fun x => own_16.all (fun y => decide (own_law2 [own_cols x, own_cols y] x y 0 = some (1 : Int32)))) = true := by decide +kernel

set_option maxRecDepth 65536 in
theorem own_all3_0 : own_16.all (fun y => own_16.all (fun z => decide (own_law3 [own_cols (0 : Int32), own_cols y, own_cols z] (0 : Int32) y z = some (1 : Int32)))) = true := by decide +kernel

set_option maxRecDepth 65536 in
theorem own_all3_1 : own_16.all (fun y => own_16.all (fun z => decide (own_law3 [own_cols (1 : Int32), own_cols y, own_cols z] (1 : Int32) y z = some (1 : Int32)))) = true := by decide +kernel

set_option maxRecDepth 65536 in
theorem own_all3_2 : own_16.all (fun y => own_16.all (fun z => decide (own_law3 [own_cols (2 : Int32), own_cols y, own_cols z] (2 : Int32) y z = some (1 : Int32)))) = true := by decide +kernel

set_option maxRecDepth 65536 in
theorem own_all3_3 : own_16.all (fun y => own_16.all (fun z => decide (own_law3 [own_cols (3 : Int32), own_cols y, own_cols z] (3 : Int32) y z = some (1 : Int32)))) = true := by decide +kernel

set_option maxRecDepth 65536 in
theorem own_all3_4 : own_16.all (fun y => own_16.all (fun z => decide (own_law3 [own_cols (4 : Int32), own_cols y, own_cols z] (4 : Int32) y z = some (1 : Int32)))) = true := by decide +kernel

set_option maxRecDepth 65536 in
theorem own_all3_5 : own_16.all (fun y => own_16.all (fun z => decide (own_law3 [own_cols (5 : Int32), own_cols y, own_cols z] (5 : Int32) y z = some (1 : Int32)))) = true := by decide +kernel

set_option maxRecDepth 65536 in
theorem own_all3_6 : own_16.all (fun y => own_16.all (fun z => decide (own_law3 [own_cols (6 : Int32), own_cols y, own_cols z] (6 : Int32) y z = some (1 : Int32)))) = true := by decide +kernel

set_option maxRecDepth 65536 in
theorem own_all3_7 : own_16.all (fun y => own_16.all (fun z => decide (own_law3 [own_cols (7 : Int32), own_cols y, own_cols z] (7 : Int32) y z = some (1 : Int32)))) = true := by decide +kernel

set_option maxRecDepth 65536 in
theorem own_all3_8 : own_16.all (fun y => own_16.all (fun z => decide (own_law3 [own_cols (8 : Int32), own_cols y, own_cols z] (8 : Int32) y z = some (1 : Int32)))) = true := by decide +kernel

set_option maxRecDepth 65536 in
theorem own_all3_9 : own_16.all (fun y => own_16.all (fun z => decide (own_law3 [own_cols (9 : Int32), own_cols y, own_cols z] (9 : Int32) y z = some (1 : Int32)))) = true := by decide +kernel

set_option maxRecDepth 65536 in
theorem own_all3_10 : own_16.all (fun y => own_16.all (fun z => decide (own_law3 [own_cols (10 : Int32), own_cols y, own_cols z] (10 : Int32) y z = some (1 : Int32)))) = true := by decide +kernel

set_option maxRecDepth 65536 in
theorem own_all3_11 : own_16.all (fun y => own_16.all (fun z => decide (own_law3 [own_cols (11 : Int32), own_cols y, own_cols z] (11 : Int32) y z = some (1 : Int32)))) = true := by decide +kernel

set_option maxRecDepth 65536 in
theorem own_all3_12 : own_16.all (fun y => own_16.all (fun z => decide (own_law3 [own_cols (12 : Int32), own_cols y, own_cols z] (12 : Int32) y z = some (1 : Int32)))) = true := by decide +kernel

set_option maxRecDepth 65536 in
theorem own_all3_13 : own_16.all (fun y => own_16.all (fun z => decide (own_law3 [own_cols (13 : Int32), own_cols y, own_cols z] (13 : Int32) y z = some (1 : Int32)))) = true := by decide +kernel

set_option maxRecDepth 65536 in
theorem own_all3_14 : own_16.all (fun y => own_16.all (fun z => decide (own_law3 [own_cols (14 : Int32), own_cols y, own_cols z] (14 : Int32) y z = some (1 : Int32)))) = true := by decide +kernel

set_option maxRecDepth 65536 in
theorem own_all3_15 : own_16.all (fun y => own_16.all (fun z => decide (own_law3 [own_cols (15 : Int32), own_cols y, own_cols z] (15 : Int32) y z = some (1 : Int32)))) = true := by decide +kernel

theorem own_fin0 {La Lb Lc : List Int32} {uA uB uC : Int32} (hLa : La = own_cols uA) (hLb : Lb = own_cols uB) (hLc : Lc = own_cols uC) (hA : own_is16 uA) (hB : own_is16 uB) (hC : own_is16 uC) : own_law0 ([] : List (List Int32)) uA uB uC = some (1 : Int32) := by
  have h : own_law0 [] uA uB uC = own_law0 [] 0 0 0 := by unfold own_law0; rw [own_m0]
  exact h.trans own_all0
theorem own_fin1 {La Lb Lc : List Int32} {uA uB uC : Int32} (hLa : La = own_cols uA) (hLb : Lb = own_cols uB) (hLc : Lc = own_cols uC) (hA : own_is16 uA) (hB : own_is16 uB) (hC : own_is16 uC) : own_law1 ([La] : List (List Int32)) uA uB uC = some (1 : Int32) := by
  have h : own_law1 [La] uA uB uC = own_law1 [La] uA 0 0 := by unfold own_law1; rw [own_m1 uA uB uC, own_l1 uA uB uC]
  subst hLa
  exact h.trans (of_decide_eq_true (List.all_eq_true.mp own_all1 _ (own_mem16 hA)))
theorem own_fin2 {La Lb Lc : List Int32} {uA uB uC : Int32} (hLa : La = own_cols uA) (hLb : Lb = own_cols uB) (hLc : Lc = own_cols uC) (hA : own_is16 uA) (hB : own_is16 uB) (hC : own_is16 uC) : own_law2 ([La, Lb] : List (List Int32)) uA uB uC = some (1 : Int32) := by
  have h : own_law2 [La, Lb] uA uB uC = own_law2 [La, Lb] uA uB 0 := by unfold own_law2; rw [own_m2 uA uB uC, own_l2 uA uB uC]
  subst hLa hLb
  exact h.trans (of_decide_eq_true (List.all_eq_true.mp (List.all_eq_true.mp own_all2 _ (own_mem16 hA)) _ (own_mem16 hB)))
theorem own_fin3 {La Lb Lc : List Int32} {uA uB uC : Int32} (hLa : La = own_cols uA) (hLb : Lb = own_cols uB) (hLc : Lc = own_cols uC) (hA : own_is16 uA) (hB : own_is16 uB) (hC : own_is16 uC) : own_law3 ([La, Lb, Lc] : List (List Int32)) uA uB uC = some (1 : Int32) := by
  subst hLa hLb hLc
  rcases hA with rfl | rfl | rfl | rfl | rfl | rfl | rfl | rfl | rfl | rfl | rfl | rfl | rfl | rfl | rfl | rfl
  · exact of_decide_eq_true (List.all_eq_true.mp (List.all_eq_true.mp own_all3_0 _ (own_mem16 hB)) _ (own_mem16 hC))
  · exact of_decide_eq_true (List.all_eq_true.mp (List.all_eq_true.mp own_all3_1 _ (own_mem16 hB)) _ (own_mem16 hC))
  · exact of_decide_eq_true (List.all_eq_true.mp (List.all_eq_true.mp own_all3_2 _ (own_mem16 hB)) _ (own_mem16 hC))
  · exact of_decide_eq_true (List.all_eq_true.mp (List.all_eq_true.mp own_all3_3 _ (own_mem16 hB)) _ (own_mem16 hC))
  · exact of_decide_eq_true (List.all_eq_true.mp (List.all_eq_true.mp own_all3_4 _ (own_mem16 hB)) _ (own_mem16 hC))
  · exact of_decide_eq_true (List.all_eq_true.mp (List.all_eq_true.mp own_all3_5 _ (own_mem16 hB)) _ (own_mem16 hC))
  · exact of_decide_eq_true (List.all_eq_true.mp (List.all_eq_true.mp own_all3_6 _ (own_mem16 hB)) _ (own_mem16 hC))
  · exact of_decide_eq_true (List.all_eq_true.mp (List.all_eq_true.mp own_all3_7 _ (own_mem16 hB)) _ (own_mem16 hC))
  · exact of_decide_eq_true (List.all_eq_true.mp (List.all_eq_true.mp own_all3_8 _ (own_mem16 hB)) _ (own_mem16 hC))
  · exact of_decide_eq_true (List.all_eq_true.mp (List.all_eq_true.mp own_all3_9 _ (own_mem16 hB)) _ (own_mem16 hC))
  · exact of_decide_eq_true (List.all_eq_true.mp (List.all_eq_true.mp own_all3_10 _ (own_mem16 hB)) _ (own_mem16 hC))
  · exact of_decide_eq_true (List.all_eq_true.mp (List.all_eq_true.mp own_all3_11 _ (own_mem16 hB)) _ (own_mem16 hC))
  · exact of_decide_eq_true (List.all_eq_true.mp (List.all_eq_true.mp own_all3_12 _ (own_mem16 hB)) _ (own_mem16 hC))
  · exact of_decide_eq_true (List.all_eq_true.mp (List.all_eq_true.mp own_all3_13 _ (own_mem16 hB)) _ (own_mem16 hC))
  · exact of_decide_eq_true (List.all_eq_true.mp (List.all_eq_true.mp own_all3_14 _ (own_mem16 hB)) _ (own_mem16 hC))
  · exact of_decide_eq_true (List.all_eq_true.mp (List.all_eq_true.mp own_all3_15 _ (own_mem16 hB)) _ (own_mem16 hC))

def own_Q0 (n0 : Nat) (v : Option Value) (h : Heap) (L : List Loc) : Prop := v = some (.int 1) ∧ Fr n0 L

theorem pd_0__I__I : parseMethodDescriptor "(I)[I" = some ⟨[.int], some (.array .int)⟩ := by decide +kernel
theorem pd_0__II_V : parseMethodDescriptor "(II)V" = some ⟨[.int, .int], none⟩ := by decide +kernel
theorem pd_0___Z : parseMethodDescriptor "()Z" = some ⟨[], some .boolean⟩ := by decide +kernel
theorem pd_0__IIII_Z : parseMethodDescriptor "(IIII)Z" = some ⟨[.int, .int, .int, .int], some .boolean⟩ := by decide +kernel
theorem pd_0___I_V : parseMethodDescriptor "([I)V" = some ⟨[(.array .int)], none⟩ := by decide +kernel
theorem pd_0__I_I : parseMethodDescriptor "(I)I" = some ⟨[.int], some .int⟩ := by decide +kernel
theorem pd_0__IIII_I : parseMethodDescriptor "(IIII)I" = some ⟨[.int, .int, .int, .int], some .int⟩ := by decide +kernel
theorem pn_rm0 : plainFor (⟨"com/example/document_pattern_rules/documentpatternrules/pattern/PairingAddPinLaw", "law", "(IIII)Z"⟩ : MethodName) = true := by first | exact plainFor_of_name (by first | (simp [plainName, overriddenIn]; done) | decide +kernel) | exact Jvm.Free.JP.mathPlain rfl (by decide +kernel) | decide +kernel
theorem ef_rm0 (m : MethodId) (x0 : Int32) (x1 : Int32) (x2 : Int32) (x3 : Int32) : entryFrame m #[(.int x0), (.int x1), (.int x2), (.int x3)] maxLocals = mkF m 0 #[VI x0, VI x1, VI x2, VI x3, UU, UU, UU, UU, UU, UU, UU, UU, UU, UU] [] := by first | (simp [entryFrame, mkF, argsToLocals, Value.category, maxLocals]; done) | rfl
set_option maxRecDepth 65536 in
set_option maxHeartbeats 40000000 in
theorem rm0 (l : Launch) (Z : State) (a0 : Array Value) (hw : ∀ d ∈ tables_1, d.before a0 Z = true) (ws : List Jvm.Cond) (ua ub uc ud : Int32) (h0 : Heap) (n0 : Nat) (Z0 : n0 ≤ h0.size) (O0 : Old Z n0 h0) :
    MetFree l x (head1 (Jvm.Cond.code x code maxLocals ret :: ws) room_1) (fun a U => a = #[(.int ua), (.int ub), (.int uc), (.int ud)] ∧ Z.Warmed39 U.vm ∧ U.heap = h0) (fun _ _ _ _ _ => True) (fun _ U o U' => ∃ v L, o = .returned v ∧ (own_Q0 n0) v U'.heap L ∧ FrameEnd U o U' L 40 192) := by
  refine MetFree.of_bodySF pn_rm0 hisR ?_
  intro p e s m args below meth c s₁ Bd hml0 hP hK
  obtain ⟨rfl, hZ, hh⟩ := hP
  have hx := Bd.exec
  have hby := Bd.bytes
  have hml : c.maxLocals = 14 := hml0
  have hown : s.vm.findClass "com/example/document_pattern_rules/documentpatternrules/pattern/PairingAddPinLaw" = some m.cls := findClass_of_methodNamed Bd.named
  have hnm := (name_of_methodNamed Bd.named Bd.method).1
  have hrt := Bd.returns
  have hlk := Bd.notSynchronized
  have X0 : Stand p l e room_1 s m #[(.int ua), (.int ub), (.int uc), (.int ud)] below meth c s₁ [] 0 0 := Stand.of_body Bd
  have e0 : s₁.heap = h0 := by rw [← hh, Bd.state]; rfl
  have N0 := Fr.nil n0
  have K0 := Keep.refl h0 []
  refine own_done (B := s₁.setTop (mkF m 0 #[VI ua, VI ub, VI uc, VI ud, UU, UU, UU, UU, UU, UU, UU, UU, UU, UU] [])) (fun t k => castTop (ef_rm0 m ua ub uc ud) k) ?_
  refine own_by (B := s₁.setTop (mkF m 1 #[VI ua, VI ub, VI uc, VI ud, UU, UU, UU, UU, UU, UU, UU, UU, UU, UU] [(.int ud)])) (fun _ k => XS.iloadN X0.here hx rfl (hb hby at_0) rfl  k) ?_
  refine own_by (B := s₁.setTop (mkF m 2 #[VI ua, VI ub, VI uc, VI ud, UU, UU, UU, UU, UU, UU, UU, UU, UU, UU] [(.int 3), (.int ud)])) (fun _ k => XS.iconst X0.here hx rfl (hb hby at_1) k) ?_
  refine own_by (B := s₁.setTop (mkF m 3 #[VI ua, VI ub, VI uc, VI ud, UU, UU, UU, UU, UU, UU, UU, UU, UU, UU] [(.int (ud &&& (3 : Int32)))])) (fun _ k => XS.iand X0.here hx rfl (hb hby at_2) rfl k) ?_
  obtain ⟨un, hun⟩ : ∃ z : Int32, z = (ud &&& (3 : Int32)) := ⟨_, rfl⟩
  rw [← hun]
  refine own_by (B := s₁.setTop (mkF m 5 #[VI ua, VI ub, VI uc, VI ud, VI un, UU, UU, UU, UU, UU, UU, UU, UU, UU] [])) (fun _ k => XS.istore X0.here hx rfl (hb hby at_3) rfl (l' := #[VI ua, VI ub, VI uc, VI ud, VI un, UU, UU, UU, UU, UU, UU, UU, UU, UU]) rfl k) ?_
  refine own_by (B := s₁.setTop (mkF m 6 #[VI ua, VI ub, VI uc, VI ud, VI un, UU, UU, UU, UU, UU, UU, UU, UU, UU] [(.int ua)])) (fun _ k => XS.iloadN X0.here hx rfl (hb hby at_5) rfl  k) ?_
  refine own_by (B := s₁.setTop (mkF m 8 #[VI ua, VI ub, VI uc, VI ud, VI un, UU, UU, UU, UU, UU, UU, UU, UU, UU] [(.int 15), (.int ua)])) (fun _ k => XS.bipush X0.here hx rfl (hb hby at_6) k) ?_
  refine own_by (B := s₁.setTop (mkF m 9 #[VI ua, VI ub, VI uc, VI ud, VI un, UU, UU, UU, UU, UU, UU, UU, UU, UU] [(.int (ua &&& (15 : Int32)))])) (fun _ k => XS.iand X0.here hx rfl (hb hby at_8) rfl k) ?_
  obtain ⟨uA, huA⟩ : ∃ z : Int32, z = (ua &&& (15 : Int32)) := ⟨_, rfl⟩
  rw [← huA]
  have h16uA := own_in16 huA
  refine own_by (B := s₁.setTop (mkF m 11 #[VI ua, VI ub, VI uc, VI ud, VI un, VI uA, UU, UU, UU, UU, UU, UU, UU, UU] [])) (fun _ k => XS.istore X0.here hx rfl (hb hby at_9) rfl (l' := #[VI ua, VI ub, VI uc, VI ud, VI un, VI uA, UU, UU, UU, UU, UU, UU, UU, UU]) rfl k) ?_
  refine own_by (B := s₁.setTop (mkF m 12 #[VI ua, VI ub, VI uc, VI ud, VI un, VI uA, UU, UU, UU, UU, UU, UU, UU, UU] [(.int ub)])) (fun _ k => XS.iloadN X0.here hx rfl (hb hby at_11) rfl  k) ?_
  refine own_by (B := s₁.setTop (mkF m 14 #[VI ua, VI ub, VI uc, VI ud, VI un, VI uA, UU, UU, UU, UU, UU, UU, UU, UU] [(.int 15), (.int ub)])) (fun _ k => XS.bipush X0.here hx rfl (hb hby at_12) k) ?_
  refine own_by (B := s₁.setTop (mkF m 15 #[VI ua, VI ub, VI uc, VI ud, VI un, VI uA, UU, UU, UU, UU, UU, UU, UU, UU] [(.int (ub &&& (15 : Int32)))])) (fun _ k => XS.iand X0.here hx rfl (hb hby at_14) rfl k) ?_
  obtain ⟨uB, huB⟩ : ∃ z : Int32, z = (ub &&& (15 : Int32)) := ⟨_, rfl⟩
  rw [← huB]
  have h16uB := own_in16 huB
  refine own_by (B := s₁.setTop (mkF m 17 #[VI ua, VI ub, VI uc, VI ud, VI un, VI uA, VI uB, UU, UU, UU, UU, UU, UU, UU] [])) (fun _ k => XS.istore X0.here hx rfl (hb hby at_15) rfl (l' := #[VI ua, VI ub, VI uc, VI ud, VI un, VI uA, VI uB, UU, UU, UU, UU, UU, UU, UU]) rfl k) ?_
  refine own_by (B := s₁.setTop (mkF m 18 #[VI ua, VI ub, VI uc, VI ud, VI un, VI uA, VI uB, UU, UU, UU, UU, UU, UU, UU] [(.int uc)])) (fun _ k => XS.iloadN X0.here hx rfl (hb hby at_17) rfl  k) ?_
  refine own_by (B := s₁.setTop (mkF m 20 #[VI ua, VI ub, VI uc, VI ud, VI un, VI uA, VI uB, UU, UU, UU, UU, UU, UU, UU] [(.int 15), (.int uc)])) (fun _ k => XS.bipush X0.here hx rfl (hb hby at_18) k) ?_
  refine own_by (B := s₁.setTop (mkF m 21 #[VI ua, VI ub, VI uc, VI ud, VI un, VI uA, VI uB, UU, UU, UU, UU, UU, UU, UU] [(.int (uc &&& (15 : Int32)))])) (fun _ k => XS.iand X0.here hx rfl (hb hby at_20) rfl k) ?_
  obtain ⟨uC, huC⟩ : ∃ z : Int32, z = (uc &&& (15 : Int32)) := ⟨_, rfl⟩
  rw [← huC]
  have h16uC := own_in16 huC
  refine own_by (B := s₁.setTop (mkF m 23 #[VI ua, VI ub, VI uc, VI ud, VI un, VI uA, VI uB, VI uC, UU, UU, UU, UU, UU, UU] [])) (fun _ k => XS.istore X0.here hx rfl (hb hby at_21) rfl (l' := #[VI ua, VI ub, VI uc, VI ud, VI un, VI uA, VI uB, VI uC, UU, UU, UU, UU, UU, UU]) rfl k) ?_
  refine own_by (B := s₁.setTop (mkF m 25 #[VI ua, VI ub, VI uc, VI ud, VI un, VI uA, VI uB, VI uC, UU, UU, UU, UU, UU, UU] [(.int uA)])) (fun _ k => XS.iload X0.here hx rfl (hb hby at_23) rfl  k) ?_
  obtain ⟨_, _, ⟨T1, L1, k1, n1⟩, -, X1, ⟨Lc1, hQ1, l1, y1, z1⟩, st1⟩ := Jvm.LawKit.callS X0 hx (y := (⟨"com/example/document_pattern_rules/documentpatternrules/pattern/PairingAddPinLaw", "cols", "(I)[I"⟩ : MethodName)) hown (mvT hZ (own_hw 0 hw rfl)) (mvT hZ (own_hw 1 hw rfl)) (mvT hZ (own_hw 2 hw rfl)) (mvT hZ (own_hw 3 hw rfl)) (by decide) (backOf (W := 0) (rmCo l Z a0 hw [] uA h0 n0 (own_old_le O0) O0 h16uA) hZ (own_hw 3 hw rfl) (own_hw 2 hw rfl) (by decide) (by decide)) (g := (mkF m 25 #[VI ua, VI ub, VI uc, VI ud, VI un, VI uA, VI uB, VI uC, UU, UU, UU, UU, UU, UU] [(.int uA)])) rfl (by rw [hml]; rfl) (argsL := [(.int uA)]) (rest := []) (lenOf pd_0__I__I rfl) rfl (by show 2 * 0 + _ ≤ _; exact Nat.le_of_eq rfl) (hb hby at_25) (fun _ _ => ⟨rfl, e0, (by decide : 0 + 1 ≤ _), (by decide : 0 + 4 ≤ _)⟩)
  dsimp only [Pt.U, Pt.locs, Pt.cells, Pt.slots] at X1 l1 y1 z1 st1 hQ1
  subst l1 y1 z1
  obtain ⟨ba, kka, rfl, NC1, KC1, hb1, VC1, EC1⟩ := hQ1
  refine own_by (B := T1.setTop (mkF m 28 #[VI ua, VI ub, VI uc, VI ud, VI un, VI uA, VI uB, VI uC, UU, UU, UU, UU, UU, UU] [(.ref ba)])) st1 ?_
  have gnba : n0 ≤ ba := Nat.le_trans (own_old_le O0) hb1
  have fzba : h0.size ≤ ba := Nat.le_trans K0.1 hb1
  obtain ⟨h1, e1⟩ : ∃ z, T1.heap = z := ⟨_, rfl⟩
  rw [e1] at KC1 VC1 EC1
  have sz1 := KC1.1
  have O1 := O0.keep KC1 all0
  have K1 := K0.trans KC1 all0
  have N1 := Fr.app N0 NC1
  have ltba := own_lt EC1.lt
  obtain ⟨La, hLa⟩ : ∃ z : List Int32, z = own_cols uA := ⟨_, rfl⟩
  rw [← hLa] at VC1
  refine own_by (B := T1.setTop (mkF m 30 #[VI ua, VI ub, VI uc, VI ud, VI un, VI uA, VI uB, VI uC, VR ba, UU, UU, UU, UU, UU] [])) (fun _ k => XS.astore X1.here hx rfl (hb hby at_28) rfl rfl (l' := #[VI ua, VI ub, VI uc, VI ud, VI un, VI uA, VI uB, VI uC, VR ba, UU, UU, UU, UU, UU]) rfl k) ?_
  refine own_by (B := T1.setTop (mkF m 32 #[VI ua, VI ub, VI uc, VI ud, VI un, VI uA, VI uB, VI uC, VR ba, UU, UU, UU, UU, UU] [(.int uB)])) (fun _ k => XS.iload X1.here hx rfl (hb hby at_30) rfl  k) ?_
  obtain ⟨_, _, ⟨T2, L2, k2, n2⟩, -, X2, ⟨Lc2, hQ2, l2, y2, z2⟩, st2⟩ := Jvm.LawKit.callS X1 hx (y := (⟨"com/example/document_pattern_rules/documentpatternrules/pattern/PairingAddPinLaw", "cols", "(I)[I"⟩ : MethodName)) hown (mvT hZ (own_hw 0 hw rfl)) (mvT hZ (own_hw 1 hw rfl)) (mvT hZ (own_hw 2 hw rfl)) (mvT hZ (own_hw 3 hw rfl)) (by decide) (backOf (W := 0) (rmCo l Z a0 hw [] uB h1 n0 (own_old_le O1) O1 h16uB) hZ (own_hw 3 hw rfl) (own_hw 2 hw rfl) (by decide) (by decide)) (g := (mkF m 32 #[VI ua, VI ub, VI uc, VI ud, VI un, VI uA, VI uB, VI uC, VR ba, UU, UU, UU, UU, UU] [(.int uB)])) rfl (by rw [hml]; rfl) (argsL := [(.int uB)]) (rest := []) (lenOf pd_0__I__I rfl) rfl (by show 2 * 0 + _ ≤ _; exact Nat.le_of_eq rfl) (hb hby at_32) (fun _ _ => ⟨rfl, e1, (by decide : 1 + 1 ≤ _), (by decide : 4 + 4 ≤ _)⟩)
  dsimp only [Pt.U, Pt.locs, Pt.cells, Pt.slots] at X2 l2 y2 z2 st2 hQ2
  subst l2 y2 z2
  obtain ⟨bb, kkb, rfl, NC2, KC2, hb2, VC2, EC2⟩ := hQ2
  refine own_by (B := T2.setTop (mkF m 35 #[VI ua, VI ub, VI uc, VI ud, VI un, VI uA, VI uB, VI uC, VR ba, UU, UU, UU, UU, UU] [(.ref bb)])) st2 ?_
  have gnbb : n0 ≤ bb := Nat.le_trans (own_old_le O1) hb2
  have fzbb : h0.size ≤ bb := Nat.le_trans K1.1 hb2
  obtain ⟨h2, e2⟩ : ∃ z, T2.heap = z := ⟨_, rfl⟩
  rw [e2] at KC2 VC2 EC2
  have sz2 := KC2.1
  have O2 := O1.keep KC2 all0
  have K2 := K1.trans KC2 all0
  have N2 := Fr.app N1 NC2
  have ltbb := own_lt EC2.lt
  obtain ⟨Lb, hLb⟩ : ∃ z : List Int32, z = own_cols uB := ⟨_, rfl⟩
  rw [← hLb] at VC2
  refine own_by (B := T2.setTop (mkF m 37 #[VI ua, VI ub, VI uc, VI ud, VI un, VI uA, VI uB, VI uC, VR ba, VR bb, UU, UU, UU, UU] [])) (fun _ k => XS.astore X2.here hx rfl (hb hby at_35) rfl rfl (l' := #[VI ua, VI ub, VI uc, VI ud, VI un, VI uA, VI uB, VI uC, VR ba, VR bb, UU, UU, UU, UU]) rfl k) ?_
  refine own_by (B := T2.setTop (mkF m 39 #[VI ua, VI ub, VI uc, VI ud, VI un, VI uA, VI uB, VI uC, VR ba, VR bb, UU, UU, UU, UU] [(.int uC)])) (fun _ k => XS.iload X2.here hx rfl (hb hby at_37) rfl  k) ?_
  obtain ⟨_, _, ⟨T3, L3, k3, n3⟩, -, X3, ⟨Lc3, hQ3, l3, y3, z3⟩, st3⟩ := Jvm.LawKit.callS X2 hx (y := (⟨"com/example/document_pattern_rules/documentpatternrules/pattern/PairingAddPinLaw", "cols", "(I)[I"⟩ : MethodName)) hown (mvT hZ (own_hw 0 hw rfl)) (mvT hZ (own_hw 1 hw rfl)) (mvT hZ (own_hw 2 hw rfl)) (mvT hZ (own_hw 3 hw rfl)) (by decide) (backOf (W := 0) (rmCo l Z a0 hw [] uC h2 n0 (own_old_le O2) O2 h16uC) hZ (own_hw 3 hw rfl) (own_hw 2 hw rfl) (by decide) (by decide)) (g := (mkF m 39 #[VI ua, VI ub, VI uc, VI ud, VI un, VI uA, VI uB, VI uC, VR ba, VR bb, UU, UU, UU, UU] [(.int uC)])) rfl (by rw [hml]; rfl) (argsL := [(.int uC)]) (rest := []) (lenOf pd_0__I__I rfl) rfl (by show 2 * 0 + _ ≤ _; exact Nat.le_of_eq rfl) (hb hby at_39) (fun _ _ => ⟨rfl, e2, (by decide : 2 + 1 ≤ _), (by decide : 8 + 4 ≤ _)⟩)
  dsimp only [Pt.U, Pt.locs, Pt.cells, Pt.slots] at X3 l3 y3 z3 st3 hQ3
  subst l3 y3 z3
  obtain ⟨bc, kkc, rfl, NC3, KC3, hb3, VC3, EC3⟩ := hQ3
  refine own_by (B := T3.setTop (mkF m 42 #[VI ua, VI ub, VI uc, VI ud, VI un, VI uA, VI uB, VI uC, VR ba, VR bb, UU, UU, UU, UU] [(.ref bc)])) st3 ?_
  have gnbc : n0 ≤ bc := Nat.le_trans (own_old_le O2) hb3
  have fzbc : h0.size ≤ bc := Nat.le_trans K2.1 hb3
  obtain ⟨h3, e3⟩ : ∃ z, T3.heap = z := ⟨_, rfl⟩
  rw [e3] at KC3 VC3 EC3
  have sz3 := KC3.1
  have O3 := O2.keep KC3 all0
  have K3 := K2.trans KC3 all0
  have N3 := Fr.app N2 NC3
  have ltbc := own_lt EC3.lt
  obtain ⟨Lc, hLc⟩ : ∃ z : List Int32, z = own_cols uC := ⟨_, rfl⟩
  rw [← hLc] at VC3
  refine own_by (B := T3.setTop (mkF m 44 #[VI ua, VI ub, VI uc, VI ud, VI un, VI uA, VI uB, VI uC, VR ba, VR bb, VR bc, UU, UU, UU] [])) (fun _ k => XS.astore X3.here hx rfl (hb hby at_42) rfl rfl (l' := #[VI ua, VI ub, VI uc, VI ud, VI un, VI uA, VI uB, VI uC, VR ba, VR bb, VR bc, UU, UU, UU]) rfl k) ?_
  obtain ⟨T4, h4, X4, e4, E4, A4, D4, -, st4⟩ := newO X3 hx hZ hown (own_hw 8 hw rfl) (own_hw 9 hw rfl) (own_hw 10 hw rfl) e3 (g := (mkF m 44 #[VI ua, VI ub, VI uc, VI ud, VI un, VI uA, VI uB, VI uC, VR ba, VR bb, VR bc, UU, UU, UU] [])) rfl (hb hby at_44) (by decide) (by decide)
  obtain ⟨b4, g4⟩ : ∃ z, z = h3.size := ⟨_, rfl⟩
  rw [← g4] at A4 D4 st4
  have sz4 := E4.1
  have gn4 : n0 ≤ b4 := g4 ▸ own_old_le O3
  have fz4 : h0.size ≤ b4 := g4 ▸ K3.1
  have lt4 := own_lt A4.lt
  have O4 := O3.ext E4
  have K4 := K3.ext E4
  have F4_fits : Fld Z h4 b4 "com/example/document_pattern_rules/documentpatternrules/pattern/Pairing" "fits" "[[I" .null := D4 (Or.inr (own_hw 20 hw rfl)) (ty := (.array (.array .int))) (by decide)
  have F4_kind : Fld Z h4 b4 "com/example/document_pattern_rules/documentpatternrules/pattern/Pairing" "kind" "[I" .null := D4 (Or.inr (own_hw 22 hw rfl)) (ty := (.array .int)) (by decide)
  have F4_partner : Fld Z h4 b4 "com/example/document_pattern_rules/documentpatternrules/pattern/Pairing" "partner" "[I" .null := D4 (Or.inr (own_hw 24 hw rfl)) (ty := (.array .int)) (by decide)
  have F4_holder : Fld Z h4 b4 "com/example/document_pattern_rules/documentpatternrules/pattern/Pairing" "holder" "[I" .null := D4 (Or.inr (own_hw 26 hw rfl)) (ty := (.array .int)) (by decide)
  have F4_fixed : Fld Z h4 b4 "com/example/document_pattern_rules/documentpatternrules/pattern/Pairing" "fixed" "[Z" .null := D4 (Or.inr (own_hw 29 hw rfl)) (ty := (.array .boolean)) (by decide)
  have F4_visited : Fld Z h4 b4 "com/example/document_pattern_rules/documentpatternrules/pattern/Pairing" "visited" "[J" .null := D4 (Or.inr (own_hw 32 hw rfl)) (ty := (.array .long)) (by decide)
  have F4_path : Fld Z h4 b4 "com/example/document_pattern_rules/documentpatternrules/pattern/Pairing" "path" "[I" .null := D4 (Or.inr (own_hw 34 hw rfl)) (ty := (.array .int)) (by decide)
  have F4_via : Fld Z h4 b4 "com/example/document_pattern_rules/documentpatternrules/pattern/Pairing" "via" "[I" .null := D4 (Or.inr (own_hw 36 hw rfl)) (ty := (.array .int)) (by decide)
  have F4_ownFrom : Fld Z h4 b4 "com/example/document_pattern_rules/documentpatternrules/pattern/Pairing" "ownFrom" "[I" .null := D4 (Or.inr (own_hw 38 hw rfl)) (ty := (.array .int)) (by decide)
  have F4_scanned : Fld Z h4 b4 "com/example/document_pattern_rules/documentpatternrules/pattern/Pairing" "scanned" "[J" .null := D4 (Or.inr (own_hw 40 hw rfl)) (ty := (.array .long)) (by decide)
  have F4_next : Fld Z h4 b4 "com/example/document_pattern_rules/documentpatternrules/pattern/Pairing" "next" "[I" .null := D4 (Or.inr (own_hw 42 hw rfl)) (ty := (.array .int)) (by decide)
  have F4_fixedFrom : Fld Z h4 b4 "com/example/document_pattern_rules/documentpatternrules/pattern/Pairing" "fixedFrom" "[I" .null := D4 (Or.inr (own_hw 44 hw rfl)) (ty := (.array .int)) (by decide)
  have F4_rows : Fld Z h4 b4 "com/example/document_pattern_rules/documentpatternrules/pattern/Pairing" "rows" "I" (.int 0) := D4 (Or.inl (own_hw 55 hw rfl)) (ty := .int) (by decide)
  have F4_searches : Fld Z h4 b4 "com/example/document_pattern_rules/documentpatternrules/pattern/Pairing" "searches" "J" (.long (0 : Int64)) := D4 (Or.inl (own_hw 63 hw rfl)) (ty := .long) (by decide)
  refine own_by (B := T4.setTop (mkF m 47 #[VI ua, VI ub, VI uc, VI ud, VI un, VI uA, VI uB, VI uC, VR ba, VR bb, VR bc, UU, UU, UU] [(.ref b4)])) st4 ?_
  refine own_by (B := T4.setTop (mkF m 48 #[VI ua, VI ub, VI uc, VI ud, VI un, VI uA, VI uB, VI uC, VR ba, VR bb, VR bc, UU, UU, UU] [(.ref b4), (.ref b4)])) (fun _ k => XS.dup X4.here hx rfl (hb hby at_47) rfl rfl k) ?_
  refine own_by (B := T4.setTop (mkF m 49 #[VI ua, VI ub, VI uc, VI ud, VI un, VI uA, VI uB, VI uC, VR ba, VR bb, VR bc, UU, UU, UU] [(.int 3), (.ref b4), (.ref b4)])) (fun _ k => XS.iconst X4.here hx rfl (hb hby at_48) k) ?_
  refine own_by (B := T4.setTop (mkF m 50 #[VI ua, VI ub, VI uc, VI ud, VI un, VI uA, VI uB, VI uC, VR ba, VR bb, VR bc, UU, UU, UU] [(.int 4), (.int 3), (.ref b4), (.ref b4)])) (fun _ k => XS.iconst X4.here hx rfl (hb hby at_49) k) ?_
  have c5 := (((VC1.keep KC2 nin0).keep KC3 nin0).ext E4)
  have c6 := ((VC2.keep KC3 nin0).ext E4)
  have c7 := (VC3.ext E4)
  have c8 := (((EC1.keep KC2).keep KC3).ext E4)
  have c9 := ((EC2.keep KC3).ext E4)
  have c10 := (EC3.ext E4)
  have lab : ba < b4 ∧ bb < b4 ∧ bc < b4 := ⟨by omega, by omega, by omega⟩
  have cc : ∀ i L, ([La, Lb, Lc] : List (List Int32))[i]? = some L → (fun i L => own_IA Z h4 (own_three ba bb bc i) (own_three kka kkb kkc i) .int (Int32.ofNat L.length) L ∧ Exa Z h4 (own_three ba bb bc i) "[I" ∧ own_three ba bb bc i < b4) i L := own_cc (P := fun i L => own_IA Z h4 (own_three ba bb bc i) (own_three kka kkb kkc i) .int (Int32.ofNat L.length) L ∧ Exa Z h4 (own_three ba bb bc i) "[I" ∧ own_three ba bb bc i < b4) ⟨c5, c8, lab.1⟩ ⟨c6, c9, lab.2.1⟩ ⟨c7, c10, lab.2.2⟩
  obtain ⟨_, _, ⟨T11, L11, k11, n11⟩, -, X11, ⟨Lc11, hQ11, l11, y11, z11⟩, st11⟩ := X4.specialBack hx (y := (⟨"com/example/document_pattern_rules/documentpatternrules/pattern/Pairing", "<init>", "(II)V"⟩ : MethodName)) rfl hown (mvT hZ (own_hw 11 hw rfl)) (mvT hZ (own_hw 12 hw rfl)) (mvT hZ (own_hw 13 hw rfl)) (by decide) (backOf (W := 1) (rmCt l Z a0 hw [] b4 (own_three ba bb bc) (own_three kka kkb kkc) [La, Lb, Lc] h4 n0 (own_old_le O4) O4 A4 F4_fits F4_kind F4_partner F4_holder F4_fixed F4_visited F4_path F4_via F4_ownFrom F4_scanned F4_next F4_fixedFrom F4_searches F4_rows gn4 cc) hZ (own_hw 13 hw rfl) (own_hw 10 hw rfl) (by decide) (by decide)) (g := (mkF m 50 #[VI ua, VI ub, VI uc, VI ud, VI un, VI uA, VI uB, VI uC, VR ba, VR bb, VR bc, UU, UU, UU] [(.int 4), (.int 3), (.ref b4), (.ref b4)])) rfl (by rw [hml]; rfl) (Steps.refl _) (a := b4) (argsL := [(.int 3), (.int 4)]) (rest := [(.ref b4)]) (lenOf pd_0__II_V rfl) rfl (by show 2 * 0 + _ ≤ _; exact Nat.le_of_eq rfl) (hb hby at_50) (fun _ _ => ⟨rfl, e4, (by decide : 4 + 12 ≤ _), (by decide : 26 + 38 ≤ _)⟩)
  dsimp only [Pt.U, Pt.locs, Pt.cells, Pt.slots] at X11 l11 y11 z11 st11 hQ11
  subst l11 y11 z11
  obtain ⟨A, K, rfl, NC11, hA, PC11⟩ := hQ11
  subst hA
  obtain ⟨h11, e11⟩ : ∃ z, T11.heap = z := ⟨_, rfl⟩
  rw [e11] at PC11
  have N11 := Fr.app N3 NC11
  refine own_by (B := T11.setTop (mkF m 53 #[VI ua, VI ub, VI uc, VI ud, VI un, VI uA, VI uB, VI uC, VR ba, VR bb, VR bc, UU, UU, UU] [(.ref (A 0))])) (fun _ k => st11.trans k) ?_
  refine own_by (B := T11.setTop (mkF m 55 #[VI ua, VI ub, VI uc, VI ud, VI un, VI uA, VI uB, VI uC, VR ba, VR bb, VR bc, VR (A 0), UU, UU] [])) (fun _ k => XS.astore X11.here hx rfl (hb hby at_53) rfl rfl (l' := #[VI ua, VI ub, VI uc, VI ud, VI un, VI uA, VI uB, VI uC, VR ba, VR bb, VR bc, VR (A 0), UU, UU]) rfl k) ?_
  rcases (own_two_bits ud) with h4 | h4 | h4 | h4
  · obtain rfl : un = (0 : Int32) := hun.trans h4
    have PK := own_PS_sub (CL' := ([] : List (List Int32))) PC11 own_sub0
    have hF : own_law0 ([] : List (List Int32)) uA uB uC = some (1 : Int32) := own_fin0 hLa hLb hLc h16uA h16uB h16uC
    unfold own_law0 at hF
    refine own_by (B := T11.setTop (mkF m 57 #[VI ua, VI ub, VI uc, VI ud, VI 0, VI uA, VI uB, VI uC, VR ba, VR bb, VR bc, VR (A 0), UU, UU] [(.int 0)])) (fun _ k => XS.iload X11.here hx rfl (hb hby at_55) rfl  k) ?_
    refine own_by (B := T11.setTop (mkF m 58 #[VI ua, VI ub, VI uc, VI ud, VI 0, VI uA, VI uB, VI uC, VR ba, VR bb, VR bc, VR (A 0), UU, UU] [(.int 1), (.int 0)])) (fun _ k => XS.iconst X11.here hx rfl (hb hby at_57) k) ?_
    refine own_by (B := T11.setTop (mkF m 68 #[VI ua, VI ub, VI uc, VI ud, VI 0, VI uA, VI uB, VI uC, VR ba, VR bb, VR bc, VR (A 0), UU, UU] [])) (fun _ k => XS.icmpYes X11.here hx rfl (pc0 := 58) (pc' := 68) rfl (hb hby at_58) rfl (XT.ii_lt_t (by decide)) (by decide) (by decide) k) ?_
    refine own_by (B := T11.setTop (mkF m 70 #[VI ua, VI ub, VI uc, VI ud, VI 0, VI uA, VI uB, VI uC, VR ba, VR bb, VR bc, VR (A 0), UU, UU] [(.int 0)])) (fun _ k => XS.iload X11.here hx rfl (hb hby at_68) rfl  k) ?_
    refine own_by (B := T11.setTop (mkF m 71 #[VI ua, VI ub, VI uc, VI ud, VI 0, VI uA, VI uB, VI uC, VR ba, VR bb, VR bc, VR (A 0), UU, UU] [(.int 2), (.int 0)])) (fun _ k => XS.iconst X11.here hx rfl (hb hby at_70) k) ?_
    refine own_by (B := T11.setTop (mkF m 81 #[VI ua, VI ub, VI uc, VI ud, VI 0, VI uA, VI uB, VI uC, VR ba, VR bb, VR bc, VR (A 0), UU, UU] [])) (fun _ k => XS.icmpYes X11.here hx rfl (pc0 := 71) (pc' := 81) rfl (hb hby at_71) rfl (XT.ii_lt_t (by decide)) (by decide) (by decide) k) ?_
    refine own_by (B := T11.setTop (mkF m 83 #[VI ua, VI ub, VI uc, VI ud, VI 0, VI uA, VI uB, VI uC, VR ba, VR bb, VR bc, VR (A 0), UU, UU] [(.int 0)])) (fun _ k => XS.iload X11.here hx rfl (hb hby at_81) rfl  k) ?_
    refine own_by (B := T11.setTop (mkF m 84 #[VI ua, VI ub, VI uc, VI ud, VI 0, VI uA, VI uB, VI uC, VR ba, VR bb, VR bc, VR (A 0), UU, UU] [(.int 3), (.int 0)])) (fun _ k => XS.iconst X11.here hx rfl (hb hby at_83) k) ?_
    refine own_by (B := T11.setTop (mkF m 94 #[VI ua, VI ub, VI uc, VI ud, VI 0, VI uA, VI uB, VI uC, VR ba, VR bb, VR bc, VR (A 0), UU, UU] [])) (fun _ k => XS.icmpYes X11.here hx rfl (pc0 := 84) (pc' := 94) rfl (hb hby at_84) rfl (XT.ii_lt_t (by decide)) (by decide) (by decide) k) ?_
    refine own_by (B := T11.setTop (mkF m 96 #[VI ua, VI ub, VI uc, VI ud, VI 0, VI uA, VI uB, VI uC, VR ba, VR bb, VR bc, VR (A 0), UU, UU] [(.ref (A 0))])) (fun _ k => XS.aload X11.here hx rfl (hb hby at_94) rfl rfl  k) ?_
    obtain ⟨q112, hq112, hF⟩ := own_bind hF
    obtain ⟨cq113, kq113, qa113, qb113, qc113⟩ := isOf hZ e11 (own_PS_E PK)
    obtain ⟨_, _, ⟨T113, L113, k113, n113⟩, -, X113, ⟨Lc113, hQ113, l113, y113, z113⟩, st113⟩ := X11.virtualBack hx (y := (⟨"com/example/document_pattern_rules/documentpatternrules/pattern/Pairing", "complete", "()Z"⟩ : MethodName)) (z := (⟨"com/example/document_pattern_rules/documentpatternrules/pattern/Pairing", "complete", "()Z"⟩ : MethodName)) hown (mvT hZ (own_hw 57 hw rfl)) (mvT hZ (own_hw 58 hw rfl)) (notFace_of_selects (args := #[]) (mvT hZ (own_hw 60 hw rfl))) (mvT hZ (own_hw 60 hw rfl)) (mvT hZ (own_hw 59 hw rfl)) (by decide) (backOf (W := 0) (rm_complete l Z a0 hw [] A K (3 : Int32) (4 : Int32) (own_three ba bb bc) (own_three kka kkb kkc) ([] : List (List Int32)) own_u0 _  h11 n0 (Nat.le_trans (own_PS_gn PK).1 (Nat.le_of_lt (own_PS_E PK).lt)) PK hq112) hZ (own_hw 61 hw rfl) (own_hw 10 hw rfl) (by decide) (by decide)) qa113 qc113 (g := (mkF m 96 #[VI ua, VI ub, VI uc, VI ud, VI 0, VI uA, VI uB, VI uC, VR ba, VR bb, VR bc, VR (A 0), UU, UU] [(.ref (A 0))])) rfl (by rw [hml]; rfl) (Steps.refl _) (argsL := []) (rest := []) (lenOf pd_0___Z rfl) rfl (by show 2 * 0 + _ ≤ _; exact Nat.le_of_eq rfl) (hb hby at_96) (fun _ _ => ⟨rfl, e11, (by decide : 16 + 0 ≤ _), (by decide : 64 + 0 ≤ _)⟩)
    dsimp only [Pt.U, Pt.locs, Pt.cells, Pt.slots] at X113 l113 y113 z113 st113 hQ113
    subst l113 y113 z113
    obtain ⟨rfl, NC113, PC113⟩ := hQ113
    refine own_by (B := T113.setTop (mkF m 99 #[VI ua, VI ub, VI uc, VI ud, VI 0, VI uA, VI uB, VI uC, VR ba, VR bb, VR bc, VR (A 0), UU, UU] [(.int (q112.1))])) (fun _ k => st113.trans k) ?_
    obtain ⟨h113, e113⟩ : ∃ z, T113.heap = z := ⟨_, rfl⟩
    rw [e113] at PC113
    have N113 := Fr.app N11 NC113
    refine own_by (B := T113.setTop (mkF m 101 #[VI ua, VI ub, VI uc, VI ud, VI 0, VI uA, VI uB, VI uC, VR ba, VR bb, VR bc, VR (A 0), VI (q112.1), UU] [])) (fun _ k => XS.istore X113.here hx rfl (hb hby at_99) rfl (l' := #[VI ua, VI ub, VI uc, VI ud, VI 0, VI uA, VI uB, VI uC, VR ba, VR bb, VR bc, VR (A 0), VI (q112.1), UU]) rfl k) ?_
    refine own_by (B := T113.setTop (mkF m 103 #[VI ua, VI ub, VI uc, VI ud, VI 0, VI uA, VI uB, VI uC, VR ba, VR bb, VR bc, VR (A 0), VI (q112.1), UU] [(.int 0)])) (fun _ k => XS.iload X113.here hx rfl (hb hby at_101) rfl  k) ?_
    refine own_by (B := T113.setTop (mkF m 105 #[VI ua, VI ub, VI uc, VI ud, VI 0, VI uA, VI uB, VI uC, VR ba, VR bb, VR bc, VR (A 0), VI (q112.1), UU] [(.int uA), (.int 0)])) (fun _ k => XS.iload X113.here hx rfl (hb hby at_103) rfl  k) ?_
    refine own_by (B := T113.setTop (mkF m 107 #[VI ua, VI ub, VI uc, VI ud, VI 0, VI uA, VI uB, VI uC, VR ba, VR bb, VR bc, VR (A 0), VI (q112.1), UU] [(.int uB), (.int uA), (.int 0)])) (fun _ k => XS.iload X113.here hx rfl (hb hby at_105) rfl  k) ?_
    refine own_by (B := T113.setTop (mkF m 109 #[VI ua, VI ub, VI uc, VI ud, VI 0, VI uA, VI uB, VI uC, VR ba, VR bb, VR bc, VR (A 0), VI (q112.1), UU] [(.int uC), (.int uB), (.int uA), (.int 0)])) (fun _ k => XS.iload X113.here hx rfl (hb hby at_107) rfl  k) ?_
    obtain ⟨_, _, ⟨T114, L114, k114, n114⟩, -, X114, ⟨Lc114, hQ114, l114, y114, z114⟩, st114⟩ := Jvm.LawKit.callS X113 hx (y := (⟨"com/example/document_pattern_rules/documentpatternrules/pattern/PairingAddPinLaw", "match", "(IIII)Z"⟩ : MethodName)) hown (mvT hZ (own_hw 72 hw rfl)) (mvT hZ (own_hw 73 hw rfl)) (mvT hZ (own_hw 2 hw rfl)) (mvT hZ (own_hw 74 hw rfl)) (by decide) (backOf (W := 0) (rm10 l Z a0 hw [] (0 : Int32) uA uB uC h113 n0 (Nat.le_trans (own_PS_gn PC113).1 (Nat.le_of_lt (own_PS_E PC113).lt))) hZ (own_hw 74 hw rfl) (own_hw 2 hw rfl) (by decide) (by decide)) (g := (mkF m 109 #[VI ua, VI ub, VI uc, VI ud, VI 0, VI uA, VI uB, VI uC, VR ba, VR bb, VR bc, VR (A 0), VI (q112.1), UU] [(.int uC), (.int uB), (.int uA), (.int 0)])) rfl (by rw [hml]; rfl) (argsL := [(.int 0), (.int uA), (.int uB), (.int uC)]) (rest := []) (lenOf pd_0__IIII_Z rfl) rfl (by show 2 * 0 + _ ≤ _; exact Nat.le_of_eq rfl) (hb hby at_109) (fun _ _ => ⟨rfl, e113, (by decide : 16 + 0 ≤ _), (by decide : 64 + 0 ≤ _)⟩)
    dsimp only [Pt.U, Pt.locs, Pt.cells, Pt.slots] at X114 l114 y114 z114 st114 hQ114
    subst l114 y114 z114
    obtain ⟨rfl, N114, e114⟩ := hQ114
    refine own_by (B := T114.setTop (mkF m 112 #[VI ua, VI ub, VI uc, VI ud, VI 0, VI uA, VI uB, VI uC, VR ba, VR bb, VR bc, VR (A 0), VI (q112.1), UU] [(.int (own_match (0 : Int32) uA uB uC))])) st114 ?_
    have M114 := Fr.app N113 N114
    refine own_by (B := T114.setTop (mkF m 114 #[VI ua, VI ub, VI uc, VI ud, VI 0, VI uA, VI uB, VI uC, VR ba, VR bb, VR bc, VR (A 0), VI (q112.1), VI (own_match (0 : Int32) uA uB uC)] [])) (fun _ k => XS.istore X114.here hx rfl (hb hby at_112) rfl (l' := #[VI ua, VI ub, VI uc, VI ud, VI 0, VI uA, VI uB, VI uC, VR ba, VR bb, VR bc, VR (A 0), VI (q112.1), VI (own_match (0 : Int32) uA uB uC)]) rfl k) ?_
    refine own_by (B := T114.setTop (mkF m 116 #[VI ua, VI ub, VI uc, VI ud, VI 0, VI uA, VI uB, VI uC, VR ba, VR bb, VR bc, VR (A 0), VI (q112.1), VI (own_match (0 : Int32) uA uB uC)] [(.int (q112.1))])) (fun _ k => XS.iload X114.here hx rfl (hb hby at_114) rfl  k) ?_
    refine own_by (B := T114.setTop (mkF m 118 #[VI ua, VI ub, VI uc, VI ud, VI 0, VI uA, VI uB, VI uC, VR ba, VR bb, VR bc, VR (A 0), VI (q112.1), VI (own_match (0 : Int32) uA uB uC)] [(.int (own_match (0 : Int32) uA uB uC)), (.int (q112.1))])) (fun _ k => XS.iload X114.here hx rfl (hb hby at_116) rfl  k) ?_
    by_cases hc115 : (q112.1) = (own_match (0 : Int32) uA uB uC)
    · rw [if_pos hc115] at hF
      refine own_by (B := T114.setTop (mkF m 123 #[VI ua, VI ub, VI uc, VI ud, VI 0, VI uA, VI uB, VI uC, VR ba, VR bb, VR bc, VR (A 0), VI (q112.1), VI (own_match (0 : Int32) uA uB uC)] [])) (fun _ k => XS.icmpYes X114.here hx rfl (pc0 := 118) (pc' := 123) rfl (hb hby at_118) rfl (XT.ii_eq_t hc115) (by decide) (by decide) k) ?_
      refine own_by (B := T114.setTop (mkF m 125 #[VI ua, VI ub, VI uc, VI ud, VI 0, VI uA, VI uB, VI uC, VR ba, VR bb, VR bc, VR (A 0), VI (q112.1), VI (own_match (0 : Int32) uA uB uC)] [(.int (q112.1))])) (fun _ k => XS.iload X114.here hx rfl (hb hby at_123) rfl  k) ?_
      by_cases hc116 : (q112.1) = (0 : Int32)
      · rw [if_pos hc116] at hF
        refine own_by (B := T114.setTop (mkF m 133 #[VI ua, VI ub, VI uc, VI ud, VI 0, VI uA, VI uB, VI uC, VR ba, VR bb, VR bc, VR (A 0), VI (q112.1), VI (own_match (0 : Int32) uA uB uC)] [])) (fun _ k => XS.ifYes X114.here hx rfl (pc0 := 125) (pc' := 133) rfl (hb hby at_125) rfl (XT.i0_eq_t hc116) (by decide) (by decide) k) ?_
        refine own_by (B := T114.setTop (mkF m 134 #[VI ua, VI ub, VI uc, VI ud, VI 0, VI uA, VI uB, VI uC, VR ba, VR bb, VR bc, VR (A 0), VI (q112.1), VI (own_match (0 : Int32) uA uB uC)] [(.int 1)])) (fun _ k => XS.iconst X114.here hx rfl (hb hby at_133) k) ?_
        exact own_retZ X114 hx hrt hlk rfl (hb hby at_134) (by decide) (by decide) ⟨rfl, M114⟩
      · rw [if_neg hc116] at hF
        refine own_by (B := T114.setTop (mkF m 128 #[VI ua, VI ub, VI uc, VI ud, VI 0, VI uA, VI uB, VI uC, VR ba, VR bb, VR bc, VR (A 0), VI (q112.1), VI (own_match (0 : Int32) uA uB uC)] [])) (fun _ k => XS.ifNo X114.here hx rfl (hb hby at_125) rfl (XT.i0_eq_f hc116) k) ?_
        refine own_by (B := T114.setTop (mkF m 130 #[VI ua, VI ub, VI uc, VI ud, VI 0, VI uA, VI uB, VI uC, VR ba, VR bb, VR bc, VR (A 0), VI (q112.1), VI (own_match (0 : Int32) uA uB uC)] [(.int 0)])) (fun _ k => XS.iload X114.here hx rfl (hb hby at_128) rfl  k) ?_
        refine own_by (B := T114.setTop (mkF m 133 #[VI ua, VI ub, VI uc, VI ud, VI 0, VI uA, VI uB, VI uC, VR ba, VR bb, VR bc, VR (A 0), VI (q112.1), VI (own_match (0 : Int32) uA uB uC)] [])) (fun _ k => XS.ifNo X114.here hx rfl (hb hby at_130) rfl (XT.i0_ne_f (by decide)) k) ?_
        refine own_by (B := T114.setTop (mkF m 134 #[VI ua, VI ub, VI uc, VI ud, VI 0, VI uA, VI uB, VI uC, VR ba, VR bb, VR bc, VR (A 0), VI (q112.1), VI (own_match (0 : Int32) uA uB uC)] [(.int 1)])) (fun _ k => XS.iconst X114.here hx rfl (hb hby at_133) k) ?_
        exact own_retZ X114 hx hrt hlk rfl (hb hby at_134) (by decide) (by decide) ⟨rfl, M114⟩
    · rw [if_neg hc115] at hF
      refine own_by (B := T114.setTop (mkF m 121 #[VI ua, VI ub, VI uc, VI ud, VI 0, VI uA, VI uB, VI uC, VR ba, VR bb, VR bc, VR (A 0), VI (q112.1), VI (own_match (0 : Int32) uA uB uC)] [])) (fun _ k => XS.icmpNo X114.here hx rfl (hb hby at_118) rfl (XT.ii_eq_f hc115) k) ?_
      refine own_by (B := T114.setTop (mkF m 122 #[VI ua, VI ub, VI uc, VI ud, VI 0, VI uA, VI uB, VI uC, VR ba, VR bb, VR bc, VR (A 0), VI (q112.1), VI (own_match (0 : Int32) uA uB uC)] [(.int 0)])) (fun _ k => XS.iconst X114.here hx rfl (hb hby at_121) k) ?_
      exact absurd (Option.some.inj hF) (by decide)
  · obtain rfl : un = (1 : Int32) := hun.trans h4
    have PK := own_PS_sub (CL' := ([La] : List (List Int32))) PC11 own_sub1
    have hF : own_law1 ([La] : List (List Int32)) uA uB uC = some (1 : Int32) := own_fin1 hLa hLb hLc h16uA h16uB h16uC
    unfold own_law1 at hF
    refine own_by (B := T11.setTop (mkF m 57 #[VI ua, VI ub, VI uc, VI ud, VI 1, VI uA, VI uB, VI uC, VR ba, VR bb, VR bc, VR (A 0), UU, UU] [(.int 1)])) (fun _ k => XS.iload X11.here hx rfl (hb hby at_55) rfl  k) ?_
    refine own_by (B := T11.setTop (mkF m 58 #[VI ua, VI ub, VI uc, VI ud, VI 1, VI uA, VI uB, VI uC, VR ba, VR bb, VR bc, VR (A 0), UU, UU] [(.int 1), (.int 1)])) (fun _ k => XS.iconst X11.here hx rfl (hb hby at_57) k) ?_
    refine own_by (B := T11.setTop (mkF m 61 #[VI ua, VI ub, VI uc, VI ud, VI 1, VI uA, VI uB, VI uC, VR ba, VR bb, VR bc, VR (A 0), UU, UU] [])) (fun _ k => XS.icmpNo X11.here hx rfl (hb hby at_58) rfl (XT.ii_lt_f (by decide)) k) ?_
    refine own_by (B := T11.setTop (mkF m 63 #[VI ua, VI ub, VI uc, VI ud, VI 1, VI uA, VI uB, VI uC, VR ba, VR bb, VR bc, VR (A 0), UU, UU] [(.ref (A 0))])) (fun _ k => XS.aload X11.here hx rfl (hb hby at_61) rfl rfl  k) ?_
    refine own_by (B := T11.setTop (mkF m 65 #[VI ua, VI ub, VI uc, VI ud, VI 1, VI uA, VI uB, VI uC, VR ba, VR bb, VR bc, VR (A 0), UU, UU] [(.ref ba), (.ref (A 0))])) (fun _ k => XS.aload X11.here hx rfl (hb hby at_63) rfl rfl  k) ?_
    obtain ⟨q217, hq217, hF⟩ := own_bind hF
    obtain ⟨cq218, kq218, qa218, qb218, qc218⟩ := isOf hZ e11 (own_PS_E PK)
    obtain ⟨_, _, ⟨T218, L218, k218, n218⟩, -, X218, ⟨Lc218, hQ218, l218, y218, z218⟩, st218⟩ := X11.virtualBack hx (y := (⟨"com/example/document_pattern_rules/documentpatternrules/pattern/Pairing", "add", "([I)V"⟩ : MethodName)) (z := (⟨"com/example/document_pattern_rules/documentpatternrules/pattern/Pairing", "add", "([I)V"⟩ : MethodName)) hown (mvT hZ (own_hw 49 hw rfl)) (mvT hZ (own_hw 50 hw rfl)) (notFace_of_selects (args := #[]) (mvT hZ (own_hw 52 hw rfl))) (mvT hZ (own_hw 52 hw rfl)) (mvT hZ (own_hw 51 hw rfl)) (by decide) (backOf (W := 0) (rm_add l Z a0 hw [] A K (3 : Int32) (4 : Int32) (own_three ba bb bc) (own_three kka kkb kkc) ([La] : List (List Int32)) own_u0 _ 0 La h11 n0 (Nat.le_trans (own_PS_gn PK).1 (Nat.le_of_lt (own_PS_E PK).lt)) PK hq217 rfl) hZ (own_hw 53 hw rfl) (own_hw 10 hw rfl) (by decide) (by decide)) qa218 qc218 (g := (mkF m 65 #[VI ua, VI ub, VI uc, VI ud, VI 1, VI uA, VI uB, VI uC, VR ba, VR bb, VR bc, VR (A 0), UU, UU] [(.ref ba), (.ref (A 0))])) rfl (by rw [hml]; rfl) (Steps.refl _) (argsL := [(.ref ba)]) (rest := []) (lenOf pd_0___I_V rfl) rfl (by show 2 * 0 + _ ≤ _; exact Nat.le_of_eq rfl) (hb hby at_65) (fun _ _ => ⟨rfl, e11, (by decide : 16 + 0 ≤ _), (by decide : 64 + 0 ≤ _)⟩)
    dsimp only [Pt.U, Pt.locs, Pt.cells, Pt.slots] at X218 l218 y218 z218 st218 hQ218
    subst l218 y218 z218
    obtain ⟨rfl, NC218, PC218⟩ := hQ218
    refine own_by (B := T218.setTop (mkF m 68 #[VI ua, VI ub, VI uc, VI ud, VI 1, VI uA, VI uB, VI uC, VR ba, VR bb, VR bc, VR (A 0), UU, UU] [])) (fun _ k => st218.trans k) ?_
    obtain ⟨h218, e218⟩ : ∃ z, T218.heap = z := ⟨_, rfl⟩
    rw [e218] at PC218
    have N218 := Fr.app N11 NC218
    refine own_by (B := T218.setTop (mkF m 70 #[VI ua, VI ub, VI uc, VI ud, VI 1, VI uA, VI uB, VI uC, VR ba, VR bb, VR bc, VR (A 0), UU, UU] [(.int 1)])) (fun _ k => XS.iload X218.here hx rfl (hb hby at_68) rfl  k) ?_
    refine own_by (B := T218.setTop (mkF m 71 #[VI ua, VI ub, VI uc, VI ud, VI 1, VI uA, VI uB, VI uC, VR ba, VR bb, VR bc, VR (A 0), UU, UU] [(.int 2), (.int 1)])) (fun _ k => XS.iconst X218.here hx rfl (hb hby at_70) k) ?_
    refine own_by (B := T218.setTop (mkF m 81 #[VI ua, VI ub, VI uc, VI ud, VI 1, VI uA, VI uB, VI uC, VR ba, VR bb, VR bc, VR (A 0), UU, UU] [])) (fun _ k => XS.icmpYes X218.here hx rfl (pc0 := 71) (pc' := 81) rfl (hb hby at_71) rfl (XT.ii_lt_t (by decide)) (by decide) (by decide) k) ?_
    refine own_by (B := T218.setTop (mkF m 83 #[VI ua, VI ub, VI uc, VI ud, VI 1, VI uA, VI uB, VI uC, VR ba, VR bb, VR bc, VR (A 0), UU, UU] [(.int 1)])) (fun _ k => XS.iload X218.here hx rfl (hb hby at_81) rfl  k) ?_
    refine own_by (B := T218.setTop (mkF m 84 #[VI ua, VI ub, VI uc, VI ud, VI 1, VI uA, VI uB, VI uC, VR ba, VR bb, VR bc, VR (A 0), UU, UU] [(.int 3), (.int 1)])) (fun _ k => XS.iconst X218.here hx rfl (hb hby at_83) k) ?_
    refine own_by (B := T218.setTop (mkF m 94 #[VI ua, VI ub, VI uc, VI ud, VI 1, VI uA, VI uB, VI uC, VR ba, VR bb, VR bc, VR (A 0), UU, UU] [])) (fun _ k => XS.icmpYes X218.here hx rfl (pc0 := 84) (pc' := 94) rfl (hb hby at_84) rfl (XT.ii_lt_t (by decide)) (by decide) (by decide) k) ?_
    refine own_by (B := T218.setTop (mkF m 96 #[VI ua, VI ub, VI uc, VI ud, VI 1, VI uA, VI uB, VI uC, VR ba, VR bb, VR bc, VR (A 0), UU, UU] [(.ref (A 0))])) (fun _ k => XS.aload X218.here hx rfl (hb hby at_94) rfl rfl  k) ?_
    obtain ⟨q219, hq219, hF⟩ := own_bind hF
    obtain ⟨cq220, kq220, qa220, qb220, qc220⟩ := isOf hZ e218 (own_PS_E PC218)
    obtain ⟨_, _, ⟨T220, L220, k220, n220⟩, -, X220, ⟨Lc220, hQ220, l220, y220, z220⟩, st220⟩ := X218.virtualBack hx (y := (⟨"com/example/document_pattern_rules/documentpatternrules/pattern/Pairing", "complete", "()Z"⟩ : MethodName)) (z := (⟨"com/example/document_pattern_rules/documentpatternrules/pattern/Pairing", "complete", "()Z"⟩ : MethodName)) hown (mvT hZ (own_hw 57 hw rfl)) (mvT hZ (own_hw 58 hw rfl)) (notFace_of_selects (args := #[]) (mvT hZ (own_hw 60 hw rfl))) (mvT hZ (own_hw 60 hw rfl)) (mvT hZ (own_hw 59 hw rfl)) (by decide) (backOf (W := 0) (rm_complete l Z a0 hw [] A K (3 : Int32) (4 : Int32) (own_three ba bb bc) (own_three kka kkb kkc) ([La] : List (List Int32)) q217 _  h218 n0 (Nat.le_trans (own_PS_gn PC218).1 (Nat.le_of_lt (own_PS_E PC218).lt)) PC218 hq219) hZ (own_hw 61 hw rfl) (own_hw 10 hw rfl) (by decide) (by decide)) qa220 qc220 (g := (mkF m 96 #[VI ua, VI ub, VI uc, VI ud, VI 1, VI uA, VI uB, VI uC, VR ba, VR bb, VR bc, VR (A 0), UU, UU] [(.ref (A 0))])) rfl (by rw [hml]; rfl) (Steps.refl _) (argsL := []) (rest := []) (lenOf pd_0___Z rfl) rfl (by show 2 * 0 + _ ≤ _; exact Nat.le_of_eq rfl) (hb hby at_96) (fun _ _ => ⟨rfl, e218, (by decide : 16 + 0 ≤ _), (by decide : 64 + 0 ≤ _)⟩)
    dsimp only [Pt.U, Pt.locs, Pt.cells, Pt.slots] at X220 l220 y220 z220 st220 hQ220
    subst l220 y220 z220
    obtain ⟨rfl, NC220, PC220⟩ := hQ220
    refine own_by (B := T220.setTop (mkF m 99 #[VI ua, VI ub, VI uc, VI ud, VI 1, VI uA, VI uB, VI uC, VR ba, VR bb, VR bc, VR (A 0), UU, UU] [(.int (q219.1))])) (fun _ k => st220.trans k) ?_
    obtain ⟨h220, e220⟩ : ∃ z, T220.heap = z := ⟨_, rfl⟩
    rw [e220] at PC220
    have N220 := Fr.app N218 NC220
    refine own_by (B := T220.setTop (mkF m 101 #[VI ua, VI ub, VI uc, VI ud, VI 1, VI uA, VI uB, VI uC, VR ba, VR bb, VR bc, VR (A 0), VI (q219.1), UU] [])) (fun _ k => XS.istore X220.here hx rfl (hb hby at_99) rfl (l' := #[VI ua, VI ub, VI uc, VI ud, VI 1, VI uA, VI uB, VI uC, VR ba, VR bb, VR bc, VR (A 0), VI (q219.1), UU]) rfl k) ?_
    refine own_by (B := T220.setTop (mkF m 103 #[VI ua, VI ub, VI uc, VI ud, VI 1, VI uA, VI uB, VI uC, VR ba, VR bb, VR bc, VR (A 0), VI (q219.1), UU] [(.int 1)])) (fun _ k => XS.iload X220.here hx rfl (hb hby at_101) rfl  k) ?_
    refine own_by (B := T220.setTop (mkF m 105 #[VI ua, VI ub, VI uc, VI ud, VI 1, VI uA, VI uB, VI uC, VR ba, VR bb, VR bc, VR (A 0), VI (q219.1), UU] [(.int uA), (.int 1)])) (fun _ k => XS.iload X220.here hx rfl (hb hby at_103) rfl  k) ?_
    refine own_by (B := T220.setTop (mkF m 107 #[VI ua, VI ub, VI uc, VI ud, VI 1, VI uA, VI uB, VI uC, VR ba, VR bb, VR bc, VR (A 0), VI (q219.1), UU] [(.int uB), (.int uA), (.int 1)])) (fun _ k => XS.iload X220.here hx rfl (hb hby at_105) rfl  k) ?_
    refine own_by (B := T220.setTop (mkF m 109 #[VI ua, VI ub, VI uc, VI ud, VI 1, VI uA, VI uB, VI uC, VR ba, VR bb, VR bc, VR (A 0), VI (q219.1), UU] [(.int uC), (.int uB), (.int uA), (.int 1)])) (fun _ k => XS.iload X220.here hx rfl (hb hby at_107) rfl  k) ?_
    obtain ⟨_, _, ⟨T221, L221, k221, n221⟩, -, X221, ⟨Lc221, hQ221, l221, y221, z221⟩, st221⟩ := Jvm.LawKit.callS X220 hx (y := (⟨"com/example/document_pattern_rules/documentpatternrules/pattern/PairingAddPinLaw", "match", "(IIII)Z"⟩ : MethodName)) hown (mvT hZ (own_hw 72 hw rfl)) (mvT hZ (own_hw 73 hw rfl)) (mvT hZ (own_hw 2 hw rfl)) (mvT hZ (own_hw 74 hw rfl)) (by decide) (backOf (W := 0) (rm10 l Z a0 hw [] (1 : Int32) uA uB uC h220 n0 (Nat.le_trans (own_PS_gn PC220).1 (Nat.le_of_lt (own_PS_E PC220).lt))) hZ (own_hw 74 hw rfl) (own_hw 2 hw rfl) (by decide) (by decide)) (g := (mkF m 109 #[VI ua, VI ub, VI uc, VI ud, VI 1, VI uA, VI uB, VI uC, VR ba, VR bb, VR bc, VR (A 0), VI (q219.1), UU] [(.int uC), (.int uB), (.int uA), (.int 1)])) rfl (by rw [hml]; rfl) (argsL := [(.int 1), (.int uA), (.int uB), (.int uC)]) (rest := []) (lenOf pd_0__IIII_Z rfl) rfl (by show 2 * 0 + _ ≤ _; exact Nat.le_of_eq rfl) (hb hby at_109) (fun _ _ => ⟨rfl, e220, (by decide : 16 + 0 ≤ _), (by decide : 64 + 0 ≤ _)⟩)
    dsimp only [Pt.U, Pt.locs, Pt.cells, Pt.slots] at X221 l221 y221 z221 st221 hQ221
    subst l221 y221 z221
    obtain ⟨rfl, N221, e221⟩ := hQ221
    refine own_by (B := T221.setTop (mkF m 112 #[VI ua, VI ub, VI uc, VI ud, VI 1, VI uA, VI uB, VI uC, VR ba, VR bb, VR bc, VR (A 0), VI (q219.1), UU] [(.int (own_match (1 : Int32) uA uB uC))])) st221 ?_
    have M221 := Fr.app N220 N221
    refine own_by (B := T221.setTop (mkF m 114 #[VI ua, VI ub, VI uc, VI ud, VI 1, VI uA, VI uB, VI uC, VR ba, VR bb, VR bc, VR (A 0), VI (q219.1), VI (own_match (1 : Int32) uA uB uC)] [])) (fun _ k => XS.istore X221.here hx rfl (hb hby at_112) rfl (l' := #[VI ua, VI ub, VI uc, VI ud, VI 1, VI uA, VI uB, VI uC, VR ba, VR bb, VR bc, VR (A 0), VI (q219.1), VI (own_match (1 : Int32) uA uB uC)]) rfl k) ?_
    refine own_by (B := T221.setTop (mkF m 116 #[VI ua, VI ub, VI uc, VI ud, VI 1, VI uA, VI uB, VI uC, VR ba, VR bb, VR bc, VR (A 0), VI (q219.1), VI (own_match (1 : Int32) uA uB uC)] [(.int (q219.1))])) (fun _ k => XS.iload X221.here hx rfl (hb hby at_114) rfl  k) ?_
    refine own_by (B := T221.setTop (mkF m 118 #[VI ua, VI ub, VI uc, VI ud, VI 1, VI uA, VI uB, VI uC, VR ba, VR bb, VR bc, VR (A 0), VI (q219.1), VI (own_match (1 : Int32) uA uB uC)] [(.int (own_match (1 : Int32) uA uB uC)), (.int (q219.1))])) (fun _ k => XS.iload X221.here hx rfl (hb hby at_116) rfl  k) ?_
    by_cases hc222 : (q219.1) = (own_match (1 : Int32) uA uB uC)
    · rw [if_pos hc222] at hF
      refine own_by (B := T221.setTop (mkF m 123 #[VI ua, VI ub, VI uc, VI ud, VI 1, VI uA, VI uB, VI uC, VR ba, VR bb, VR bc, VR (A 0), VI (q219.1), VI (own_match (1 : Int32) uA uB uC)] [])) (fun _ k => XS.icmpYes X221.here hx rfl (pc0 := 118) (pc' := 123) rfl (hb hby at_118) rfl (XT.ii_eq_t hc222) (by decide) (by decide) k) ?_
      refine own_by (B := T221.setTop (mkF m 125 #[VI ua, VI ub, VI uc, VI ud, VI 1, VI uA, VI uB, VI uC, VR ba, VR bb, VR bc, VR (A 0), VI (q219.1), VI (own_match (1 : Int32) uA uB uC)] [(.int (q219.1))])) (fun _ k => XS.iload X221.here hx rfl (hb hby at_123) rfl  k) ?_
      by_cases hc223 : (q219.1) = (0 : Int32)
      · rw [if_pos hc223] at hF
        refine own_by (B := T221.setTop (mkF m 133 #[VI ua, VI ub, VI uc, VI ud, VI 1, VI uA, VI uB, VI uC, VR ba, VR bb, VR bc, VR (A 0), VI (q219.1), VI (own_match (1 : Int32) uA uB uC)] [])) (fun _ k => XS.ifYes X221.here hx rfl (pc0 := 125) (pc' := 133) rfl (hb hby at_125) rfl (XT.i0_eq_t hc223) (by decide) (by decide) k) ?_
        refine own_by (B := T221.setTop (mkF m 134 #[VI ua, VI ub, VI uc, VI ud, VI 1, VI uA, VI uB, VI uC, VR ba, VR bb, VR bc, VR (A 0), VI (q219.1), VI (own_match (1 : Int32) uA uB uC)] [(.int 1)])) (fun _ k => XS.iconst X221.here hx rfl (hb hby at_133) k) ?_
        exact own_retZ X221 hx hrt hlk rfl (hb hby at_134) (by decide) (by decide) ⟨rfl, M221⟩
      · rw [if_neg hc223] at hF
        refine own_by (B := T221.setTop (mkF m 128 #[VI ua, VI ub, VI uc, VI ud, VI 1, VI uA, VI uB, VI uC, VR ba, VR bb, VR bc, VR (A 0), VI (q219.1), VI (own_match (1 : Int32) uA uB uC)] [])) (fun _ k => XS.ifNo X221.here hx rfl (hb hby at_125) rfl (XT.i0_eq_f hc223) k) ?_
        refine own_by (B := T221.setTop (mkF m 130 #[VI ua, VI ub, VI uc, VI ud, VI 1, VI uA, VI uB, VI uC, VR ba, VR bb, VR bc, VR (A 0), VI (q219.1), VI (own_match (1 : Int32) uA uB uC)] [(.int 1)])) (fun _ k => XS.iload X221.here hx rfl (hb hby at_128) rfl  k) ?_
        refine own_by (B := T221.setTop (mkF m 135 #[VI ua, VI ub, VI uc, VI ud, VI 1, VI uA, VI uB, VI uC, VR ba, VR bb, VR bc, VR (A 0), VI (q219.1), VI (own_match (1 : Int32) uA uB uC)] [])) (fun _ k => XS.ifYes X221.here hx rfl (pc0 := 130) (pc' := 135) rfl (hb hby at_130) rfl (XT.i0_ne_t (by decide)) (by decide) (by decide) k) ?_
        refine own_by (B := T221.setTop (mkF m 137 #[VI ua, VI ub, VI uc, VI ud, VI 1, VI uA, VI uB, VI uC, VR ba, VR bb, VR bc, VR (A 0), VI (q219.1), VI (own_match (1 : Int32) uA uB uC)] [(.ref (A 0))])) (fun _ k => XS.aload X221.here hx rfl (hb hby at_135) rfl rfl  k) ?_
        refine own_by (B := T221.setTop (mkF m 138 #[VI ua, VI ub, VI uc, VI ud, VI 1, VI uA, VI uB, VI uC, VR ba, VR bb, VR bc, VR (A 0), VI (q219.1), VI (own_match (1 : Int32) uA uB uC)] [(.int 0), (.ref (A 0))])) (fun _ k => XS.iconst X221.here hx rfl (hb hby at_137) k) ?_
        obtain ⟨q224, hq224, hF⟩ := own_bind hF
        obtain ⟨cq225, kq225, qa225, qb225, qc225⟩ := isOf hZ e221 (own_PS_E PC220)
        obtain ⟨_, _, ⟨T225, L225, k225, n225⟩, -, X225, ⟨Lc225, hQ225, l225, y225, z225⟩, st225⟩ := X221.virtualBack hx (y := (⟨"com/example/document_pattern_rules/documentpatternrules/pattern/Pairing", "lowest", "(I)I"⟩ : MethodName)) (z := (⟨"com/example/document_pattern_rules/documentpatternrules/pattern/Pairing", "lowest", "(I)I"⟩ : MethodName)) hown (mvT hZ (own_hw 79 hw rfl)) (mvT hZ (own_hw 80 hw rfl)) (notFace_of_selects (args := #[]) (mvT hZ (own_hw 82 hw rfl))) (mvT hZ (own_hw 82 hw rfl)) (mvT hZ (own_hw 81 hw rfl)) (by decide) (backOf (W := 0) (rm_lowest l Z a0 hw [] A K (3 : Int32) (4 : Int32) (own_three ba bb bc) (own_three kka kkb kkc) ([La] : List (List Int32)) (q219.2) _ (0 : Int32) h220 n0 (Nat.le_trans (own_PS_gn PC220).1 (Nat.le_of_lt (own_PS_E PC220).lt)) PC220 hq224) hZ (own_hw 83 hw rfl) (own_hw 10 hw rfl) (by decide) (by decide)) qa225 qc225 (g := (mkF m 138 #[VI ua, VI ub, VI uc, VI ud, VI 1, VI uA, VI uB, VI uC, VR ba, VR bb, VR bc, VR (A 0), VI (q219.1), VI (own_match (1 : Int32) uA uB uC)] [(.int 0), (.ref (A 0))])) rfl (by rw [hml]; rfl) (Steps.refl _) (argsL := [(.int 0)]) (rest := []) (lenOf pd_0__I_I rfl) rfl (by show 2 * 0 + _ ≤ _; exact Nat.le_of_eq rfl) (hb hby at_138) (fun _ _ => ⟨rfl, e221, (by decide : 16 + 0 ≤ _), (by decide : 64 + 0 ≤ _)⟩)
        dsimp only [Pt.U, Pt.locs, Pt.cells, Pt.slots] at X225 l225 y225 z225 st225 hQ225
        subst l225 y225 z225
        obtain ⟨rfl, NC225, PC225⟩ := hQ225
        refine own_by (B := T225.setTop (mkF m 141 #[VI ua, VI ub, VI uc, VI ud, VI 1, VI uA, VI uB, VI uC, VR ba, VR bb, VR bc, VR (A 0), VI (q219.1), VI (own_match (1 : Int32) uA uB uC)] [(.int (q224.1))])) (fun _ k => st225.trans k) ?_
        obtain ⟨h225, e225⟩ : ∃ z, T225.heap = z := ⟨_, rfl⟩
        rw [e225] at PC225
        have N225 := Fr.app M221 NC225
        refine own_by (B := T225.setTop (mkF m 143 #[VI ua, VI ub, VI uc, VI ud, VI 1, VI uA, VI uB, VI uC, VR ba, VR bb, VR bc, VR (A 0), VI (q219.1), VI (own_match (1 : Int32) uA uB uC)] [(.int 1), (.int (q224.1))])) (fun _ k => XS.iload X225.here hx rfl (hb hby at_141) rfl  k) ?_
        refine own_by (B := T225.setTop (mkF m 145 #[VI ua, VI ub, VI uc, VI ud, VI 1, VI uA, VI uB, VI uC, VR ba, VR bb, VR bc, VR (A 0), VI (q219.1), VI (own_match (1 : Int32) uA uB uC)] [(.int uA), (.int 1), (.int (q224.1))])) (fun _ k => XS.iload X225.here hx rfl (hb hby at_143) rfl  k) ?_
        refine own_by (B := T225.setTop (mkF m 147 #[VI ua, VI ub, VI uc, VI ud, VI 1, VI uA, VI uB, VI uC, VR ba, VR bb, VR bc, VR (A 0), VI (q219.1), VI (own_match (1 : Int32) uA uB uC)] [(.int uB), (.int uA), (.int 1), (.int (q224.1))])) (fun _ k => XS.iload X225.here hx rfl (hb hby at_145) rfl  k) ?_
        refine own_by (B := T225.setTop (mkF m 149 #[VI ua, VI ub, VI uc, VI ud, VI 1, VI uA, VI uB, VI uC, VR ba, VR bb, VR bc, VR (A 0), VI (q219.1), VI (own_match (1 : Int32) uA uB uC)] [(.int uC), (.int uB), (.int uA), (.int 1), (.int (q224.1))])) (fun _ k => XS.iload X225.here hx rfl (hb hby at_147) rfl  k) ?_
        obtain ⟨_, _, ⟨T226, L226, k226, n226⟩, -, X226, ⟨Lc226, hQ226, l226, y226, z226⟩, st226⟩ := Jvm.LawKit.callS X225 hx (y := (⟨"com/example/document_pattern_rules/documentpatternrules/pattern/PairingAddPinLaw", "lowestRef", "(IIII)I"⟩ : MethodName)) hown (mvT hZ (own_hw 84 hw rfl)) (mvT hZ (own_hw 85 hw rfl)) (mvT hZ (own_hw 2 hw rfl)) (mvT hZ (own_hw 86 hw rfl)) (by decide) (backOf (W := 1) (rm13 l Z a0 hw [] (1 : Int32) uA uB uC h225 n0 (Nat.le_trans (own_PS_gn PC225).1 (Nat.le_of_lt (own_PS_E PC225).lt))) hZ (own_hw 86 hw rfl) (own_hw 2 hw rfl) (by decide) (by decide)) (g := (mkF m 149 #[VI ua, VI ub, VI uc, VI ud, VI 1, VI uA, VI uB, VI uC, VR ba, VR bb, VR bc, VR (A 0), VI (q219.1), VI (own_match (1 : Int32) uA uB uC)] [(.int uC), (.int uB), (.int uA), (.int 1), (.int (q224.1))])) rfl (by rw [hml]; rfl) (argsL := [(.int 1), (.int uA), (.int uB), (.int uC)]) (rest := [(.int (q224.1))]) (lenOf pd_0__IIII_I rfl) rfl (by show 2 * 0 + _ ≤ _; exact Nat.le_of_eq rfl) (hb hby at_149) (fun _ _ => ⟨rfl, e225, (by decide : 16 + 0 ≤ _), (by decide : 64 + 0 ≤ _)⟩)
        dsimp only [Pt.U, Pt.locs, Pt.cells, Pt.slots] at X226 l226 y226 z226 st226 hQ226
        subst l226 y226 z226
        obtain ⟨rfl, N226, e226⟩ := hQ226
        refine own_by (B := T226.setTop (mkF m 152 #[VI ua, VI ub, VI uc, VI ud, VI 1, VI uA, VI uB, VI uC, VR ba, VR bb, VR bc, VR (A 0), VI (q219.1), VI (own_match (1 : Int32) uA uB uC)] [(.int (own_lref (1 : Int32) uA uB uC)), (.int (q224.1))])) st226 ?_
        have M226 := Fr.app N225 N226
        by_cases hc227 : (q224.1) = (own_lref (1 : Int32) uA uB uC)
        · rw [if_pos hc227] at hF
          refine own_by (B := T226.setTop (mkF m 155 #[VI ua, VI ub, VI uc, VI ud, VI 1, VI uA, VI uB, VI uC, VR ba, VR bb, VR bc, VR (A 0), VI (q219.1), VI (own_match (1 : Int32) uA uB uC)] [])) (fun _ k => XS.icmpNo X226.here hx rfl (hb hby at_152) rfl (XT.ii_ne_f hc227) k) ?_
          refine own_by (B := T226.setTop (mkF m 156 #[VI ua, VI ub, VI uc, VI ud, VI 1, VI uA, VI uB, VI uC, VR ba, VR bb, VR bc, VR (A 0), VI (q219.1), VI (own_match (1 : Int32) uA uB uC)] [(.int 1)])) (fun _ k => XS.iconst X226.here hx rfl (hb hby at_155) k) ?_
          refine own_by (B := T226.setTop (mkF m 160 #[VI ua, VI ub, VI uc, VI ud, VI 1, VI uA, VI uB, VI uC, VR ba, VR bb, VR bc, VR (A 0), VI (q219.1), VI (own_match (1 : Int32) uA uB uC)] [(.int 1)])) (fun _ k => XS.goto X226.here hx rfl (pc0 := 156) (pc' := 160) rfl (hb hby at_156) (by decide) (by decide) k) ?_
          exact own_retZ X226 hx hrt hlk rfl (hb hby at_160) (by decide) (by decide) ⟨rfl, M226⟩
        · rw [if_neg hc227] at hF
          refine own_by (B := T226.setTop (mkF m 159 #[VI ua, VI ub, VI uc, VI ud, VI 1, VI uA, VI uB, VI uC, VR ba, VR bb, VR bc, VR (A 0), VI (q219.1), VI (own_match (1 : Int32) uA uB uC)] [])) (fun _ k => XS.icmpYes X226.here hx rfl (pc0 := 152) (pc' := 159) rfl (hb hby at_152) rfl (XT.ii_ne_t hc227) (by decide) (by decide) k) ?_
          refine own_by (B := T226.setTop (mkF m 160 #[VI ua, VI ub, VI uc, VI ud, VI 1, VI uA, VI uB, VI uC, VR ba, VR bb, VR bc, VR (A 0), VI (q219.1), VI (own_match (1 : Int32) uA uB uC)] [(.int 0)])) (fun _ k => XS.iconst X226.here hx rfl (hb hby at_159) k) ?_
          exact absurd (Option.some.inj hF) (by decide)
    · rw [if_neg hc222] at hF
      refine own_by (B := T221.setTop (mkF m 121 #[VI ua, VI ub, VI uc, VI ud, VI 1, VI uA, VI uB, VI uC, VR ba, VR bb, VR bc, VR (A 0), VI (q219.1), VI (own_match (1 : Int32) uA uB uC)] [])) (fun _ k => XS.icmpNo X221.here hx rfl (hb hby at_118) rfl (XT.ii_eq_f hc222) k) ?_
      refine own_by (B := T221.setTop (mkF m 122 #[VI ua, VI ub, VI uc, VI ud, VI 1, VI uA, VI uB, VI uC, VR ba, VR bb, VR bc, VR (A 0), VI (q219.1), VI (own_match (1 : Int32) uA uB uC)] [(.int 0)])) (fun _ k => XS.iconst X221.here hx rfl (hb hby at_121) k) ?_
      exact absurd (Option.some.inj hF) (by decide)
  · obtain rfl : un = (2 : Int32) := hun.trans h4
    have PK := own_PS_sub (CL' := ([La, Lb] : List (List Int32))) PC11 own_sub2
    have hF : own_law2 ([La, Lb] : List (List Int32)) uA uB uC = some (1 : Int32) := own_fin2 hLa hLb hLc h16uA h16uB h16uC
    unfold own_law2 at hF
    refine own_by (B := T11.setTop (mkF m 57 #[VI ua, VI ub, VI uc, VI ud, VI 2, VI uA, VI uB, VI uC, VR ba, VR bb, VR bc, VR (A 0), UU, UU] [(.int 2)])) (fun _ k => XS.iload X11.here hx rfl (hb hby at_55) rfl  k) ?_
    refine own_by (B := T11.setTop (mkF m 58 #[VI ua, VI ub, VI uc, VI ud, VI 2, VI uA, VI uB, VI uC, VR ba, VR bb, VR bc, VR (A 0), UU, UU] [(.int 1), (.int 2)])) (fun _ k => XS.iconst X11.here hx rfl (hb hby at_57) k) ?_
    refine own_by (B := T11.setTop (mkF m 61 #[VI ua, VI ub, VI uc, VI ud, VI 2, VI uA, VI uB, VI uC, VR ba, VR bb, VR bc, VR (A 0), UU, UU] [])) (fun _ k => XS.icmpNo X11.here hx rfl (hb hby at_58) rfl (XT.ii_lt_f (by decide)) k) ?_
    refine own_by (B := T11.setTop (mkF m 63 #[VI ua, VI ub, VI uc, VI ud, VI 2, VI uA, VI uB, VI uC, VR ba, VR bb, VR bc, VR (A 0), UU, UU] [(.ref (A 0))])) (fun _ k => XS.aload X11.here hx rfl (hb hby at_61) rfl rfl  k) ?_
    refine own_by (B := T11.setTop (mkF m 65 #[VI ua, VI ub, VI uc, VI ud, VI 2, VI uA, VI uB, VI uC, VR ba, VR bb, VR bc, VR (A 0), UU, UU] [(.ref ba), (.ref (A 0))])) (fun _ k => XS.aload X11.here hx rfl (hb hby at_63) rfl rfl  k) ?_
    obtain ⟨q328, hq328, hF⟩ := own_bind hF
    obtain ⟨cq329, kq329, qa329, qb329, qc329⟩ := isOf hZ e11 (own_PS_E PK)
    obtain ⟨_, _, ⟨T329, L329, k329, n329⟩, -, X329, ⟨Lc329, hQ329, l329, y329, z329⟩, st329⟩ := X11.virtualBack hx (y := (⟨"com/example/document_pattern_rules/documentpatternrules/pattern/Pairing", "add", "([I)V"⟩ : MethodName)) (z := (⟨"com/example/document_pattern_rules/documentpatternrules/pattern/Pairing", "add", "([I)V"⟩ : MethodName)) hown (mvT hZ (own_hw 49 hw rfl)) (mvT hZ (own_hw 50 hw rfl)) (notFace_of_selects (args := #[]) (mvT hZ (own_hw 52 hw rfl))) (mvT hZ (own_hw 52 hw rfl)) (mvT hZ (own_hw 51 hw rfl)) (by decide) (backOf (W := 0) (rm_add l Z a0 hw [] A K (3 : Int32) (4 : Int32) (own_three ba bb bc) (own_three kka kkb kkc) ([La, Lb] : List (List Int32)) own_u0 _ 0 La h11 n0 (Nat.le_trans (own_PS_gn PK).1 (Nat.le_of_lt (own_PS_E PK).lt)) PK hq328 rfl) hZ (own_hw 53 hw rfl) (own_hw 10 hw rfl) (by decide) (by decide)) qa329 qc329 (g := (mkF m 65 #[VI ua, VI ub, VI uc, VI ud, VI 2, VI uA, VI uB, VI uC, VR ba, VR bb, VR bc, VR (A 0), UU, UU] [(.ref ba), (.ref (A 0))])) rfl (by rw [hml]; rfl) (Steps.refl _) (argsL := [(.ref ba)]) (rest := []) (lenOf pd_0___I_V rfl) rfl (by show 2 * 0 + _ ≤ _; exact Nat.le_of_eq rfl) (hb hby at_65) (fun _ _ => ⟨rfl, e11, (by decide : 16 + 0 ≤ _), (by decide : 64 + 0 ≤ _)⟩)
    dsimp only [Pt.U, Pt.locs, Pt.cells, Pt.slots] at X329 l329 y329 z329 st329 hQ329
    subst l329 y329 z329
    obtain ⟨rfl, NC329, PC329⟩ := hQ329
    refine own_by (B := T329.setTop (mkF m 68 #[VI ua, VI ub, VI uc, VI ud, VI 2, VI uA, VI uB, VI uC, VR ba, VR bb, VR bc, VR (A 0), UU, UU] [])) (fun _ k => st329.trans k) ?_
    obtain ⟨h329, e329⟩ : ∃ z, T329.heap = z := ⟨_, rfl⟩
    rw [e329] at PC329
    have N329 := Fr.app N11 NC329
    refine own_by (B := T329.setTop (mkF m 70 #[VI ua, VI ub, VI uc, VI ud, VI 2, VI uA, VI uB, VI uC, VR ba, VR bb, VR bc, VR (A 0), UU, UU] [(.int 2)])) (fun _ k => XS.iload X329.here hx rfl (hb hby at_68) rfl  k) ?_
    refine own_by (B := T329.setTop (mkF m 71 #[VI ua, VI ub, VI uc, VI ud, VI 2, VI uA, VI uB, VI uC, VR ba, VR bb, VR bc, VR (A 0), UU, UU] [(.int 2), (.int 2)])) (fun _ k => XS.iconst X329.here hx rfl (hb hby at_70) k) ?_
    refine own_by (B := T329.setTop (mkF m 74 #[VI ua, VI ub, VI uc, VI ud, VI 2, VI uA, VI uB, VI uC, VR ba, VR bb, VR bc, VR (A 0), UU, UU] [])) (fun _ k => XS.icmpNo X329.here hx rfl (hb hby at_71) rfl (XT.ii_lt_f (by decide)) k) ?_
    refine own_by (B := T329.setTop (mkF m 76 #[VI ua, VI ub, VI uc, VI ud, VI 2, VI uA, VI uB, VI uC, VR ba, VR bb, VR bc, VR (A 0), UU, UU] [(.ref (A 0))])) (fun _ k => XS.aload X329.here hx rfl (hb hby at_74) rfl rfl  k) ?_
    refine own_by (B := T329.setTop (mkF m 78 #[VI ua, VI ub, VI uc, VI ud, VI 2, VI uA, VI uB, VI uC, VR ba, VR bb, VR bc, VR (A 0), UU, UU] [(.ref bb), (.ref (A 0))])) (fun _ k => XS.aload X329.here hx rfl (hb hby at_76) rfl rfl  k) ?_
    obtain ⟨q330, hq330, hF⟩ := own_bind hF
    obtain ⟨cq331, kq331, qa331, qb331, qc331⟩ := isOf hZ e329 (own_PS_E PC329)
    obtain ⟨_, _, ⟨T331, L331, k331, n331⟩, -, X331, ⟨Lc331, hQ331, l331, y331, z331⟩, st331⟩ := X329.virtualBack hx (y := (⟨"com/example/document_pattern_rules/documentpatternrules/pattern/Pairing", "add", "([I)V"⟩ : MethodName)) (z := (⟨"com/example/document_pattern_rules/documentpatternrules/pattern/Pairing", "add", "([I)V"⟩ : MethodName)) hown (mvT hZ (own_hw 49 hw rfl)) (mvT hZ (own_hw 50 hw rfl)) (notFace_of_selects (args := #[]) (mvT hZ (own_hw 52 hw rfl))) (mvT hZ (own_hw 52 hw rfl)) (mvT hZ (own_hw 51 hw rfl)) (by decide) (backOf (W := 0) (rm_add l Z a0 hw [] A K (3 : Int32) (4 : Int32) (own_three ba bb bc) (own_three kka kkb kkc) ([La, Lb] : List (List Int32)) q328 _ 1 Lb h329 n0 (Nat.le_trans (own_PS_gn PC329).1 (Nat.le_of_lt (own_PS_E PC329).lt)) PC329 hq330 rfl) hZ (own_hw 53 hw rfl) (own_hw 10 hw rfl) (by decide) (by decide)) qa331 qc331 (g := (mkF m 78 #[VI ua, VI ub, VI uc, VI ud, VI 2, VI uA, VI uB, VI uC, VR ba, VR bb, VR bc, VR (A 0), UU, UU] [(.ref bb), (.ref (A 0))])) rfl (by rw [hml]; rfl) (Steps.refl _) (argsL := [(.ref bb)]) (rest := []) (lenOf pd_0___I_V rfl) rfl (by show 2 * 0 + _ ≤ _; exact Nat.le_of_eq rfl) (hb hby at_78) (fun _ _ => ⟨rfl, e329, (by decide : 16 + 0 ≤ _), (by decide : 64 + 0 ≤ _)⟩)
    dsimp only [Pt.U, Pt.locs, Pt.cells, Pt.slots] at X331 l331 y331 z331 st331 hQ331
    subst l331 y331 z331
    obtain ⟨rfl, NC331, PC331⟩ := hQ331
    refine own_by (B := T331.setTop (mkF m 81 #[VI ua, VI ub, VI uc, VI ud, VI 2, VI uA, VI uB, VI uC, VR ba, VR bb, VR bc, VR (A 0), UU, UU] [])) (fun _ k => st331.trans k) ?_
    obtain ⟨h331, e331⟩ : ∃ z, T331.heap = z := ⟨_, rfl⟩
    rw [e331] at PC331
    have N331 := Fr.app N329 NC331
    refine own_by (B := T331.setTop (mkF m 83 #[VI ua, VI ub, VI uc, VI ud, VI 2, VI uA, VI uB, VI uC, VR ba, VR bb, VR bc, VR (A 0), UU, UU] [(.int 2)])) (fun _ k => XS.iload X331.here hx rfl (hb hby at_81) rfl  k) ?_
    refine own_by (B := T331.setTop (mkF m 84 #[VI ua, VI ub, VI uc, VI ud, VI 2, VI uA, VI uB, VI uC, VR ba, VR bb, VR bc, VR (A 0), UU, UU] [(.int 3), (.int 2)])) (fun _ k => XS.iconst X331.here hx rfl (hb hby at_83) k) ?_
    refine own_by (B := T331.setTop (mkF m 94 #[VI ua, VI ub, VI uc, VI ud, VI 2, VI uA, VI uB, VI uC, VR ba, VR bb, VR bc, VR (A 0), UU, UU] [])) (fun _ k => XS.icmpYes X331.here hx rfl (pc0 := 84) (pc' := 94) rfl (hb hby at_84) rfl (XT.ii_lt_t (by decide)) (by decide) (by decide) k) ?_
    refine own_by (B := T331.setTop (mkF m 96 #[VI ua, VI ub, VI uc, VI ud, VI 2, VI uA, VI uB, VI uC, VR ba, VR bb, VR bc, VR (A 0), UU, UU] [(.ref (A 0))])) (fun _ k => XS.aload X331.here hx rfl (hb hby at_94) rfl rfl  k) ?_
    obtain ⟨q332, hq332, hF⟩ := own_bind hF
    obtain ⟨cq333, kq333, qa333, qb333, qc333⟩ := isOf hZ e331 (own_PS_E PC331)
    obtain ⟨_, _, ⟨T333, L333, k333, n333⟩, -, X333, ⟨Lc333, hQ333, l333, y333, z333⟩, st333⟩ := X331.virtualBack hx (y := (⟨"com/example/document_pattern_rules/documentpatternrules/pattern/Pairing", "complete", "()Z"⟩ : MethodName)) (z := (⟨"com/example/document_pattern_rules/documentpatternrules/pattern/Pairing", "complete", "()Z"⟩ : MethodName)) hown (mvT hZ (own_hw 57 hw rfl)) (mvT hZ (own_hw 58 hw rfl)) (notFace_of_selects (args := #[]) (mvT hZ (own_hw 60 hw rfl))) (mvT hZ (own_hw 60 hw rfl)) (mvT hZ (own_hw 59 hw rfl)) (by decide) (backOf (W := 0) (rm_complete l Z a0 hw [] A K (3 : Int32) (4 : Int32) (own_three ba bb bc) (own_three kka kkb kkc) ([La, Lb] : List (List Int32)) q330 _  h331 n0 (Nat.le_trans (own_PS_gn PC331).1 (Nat.le_of_lt (own_PS_E PC331).lt)) PC331 hq332) hZ (own_hw 61 hw rfl) (own_hw 10 hw rfl) (by decide) (by decide)) qa333 qc333 (g := (mkF m 96 #[VI ua, VI ub, VI uc, VI ud, VI 2, VI uA, VI uB, VI uC, VR ba, VR bb, VR bc, VR (A 0), UU, UU] [(.ref (A 0))])) rfl (by rw [hml]; rfl) (Steps.refl _) (argsL := []) (rest := []) (lenOf pd_0___Z rfl) rfl (by show 2 * 0 + _ ≤ _; exact Nat.le_of_eq rfl) (hb hby at_96) (fun _ _ => ⟨rfl, e331, (by decide : 16 + 0 ≤ _), (by decide : 64 + 0 ≤ _)⟩)
    dsimp only [Pt.U, Pt.locs, Pt.cells, Pt.slots] at X333 l333 y333 z333 st333 hQ333
    subst l333 y333 z333
    obtain ⟨rfl, NC333, PC333⟩ := hQ333
    refine own_by (B := T333.setTop (mkF m 99 #[VI ua, VI ub, VI uc, VI ud, VI 2, VI uA, VI uB, VI uC, VR ba, VR bb, VR bc, VR (A 0), UU, UU] [(.int (q332.1))])) (fun _ k => st333.trans k) ?_
    obtain ⟨h333, e333⟩ : ∃ z, T333.heap = z := ⟨_, rfl⟩
    rw [e333] at PC333
    have N333 := Fr.app N331 NC333
    refine own_by (B := T333.setTop (mkF m 101 #[VI ua, VI ub, VI uc, VI ud, VI 2, VI uA, VI uB, VI uC, VR ba, VR bb, VR bc, VR (A 0), VI (q332.1), UU] [])) (fun _ k => XS.istore X333.here hx rfl (hb hby at_99) rfl (l' := #[VI ua, VI ub, VI uc, VI ud, VI 2, VI uA, VI uB, VI uC, VR ba, VR bb, VR bc, VR (A 0), VI (q332.1), UU]) rfl k) ?_
    refine own_by (B := T333.setTop (mkF m 103 #[VI ua, VI ub, VI uc, VI ud, VI 2, VI uA, VI uB, VI uC, VR ba, VR bb, VR bc, VR (A 0), VI (q332.1), UU] [(.int 2)])) (fun _ k => XS.iload X333.here hx rfl (hb hby at_101) rfl  k) ?_
    refine own_by (B := T333.setTop (mkF m 105 #[VI ua, VI ub, VI uc, VI ud, VI 2, VI uA, VI uB, VI uC, VR ba, VR bb, VR bc, VR (A 0), VI (q332.1), UU] [(.int uA), (.int 2)])) (fun _ k => XS.iload X333.here hx rfl (hb hby at_103) rfl  k) ?_
    refine own_by (B := T333.setTop (mkF m 107 #[VI ua, VI ub, VI uc, VI ud, VI 2, VI uA, VI uB, VI uC, VR ba, VR bb, VR bc, VR (A 0), VI (q332.1), UU] [(.int uB), (.int uA), (.int 2)])) (fun _ k => XS.iload X333.here hx rfl (hb hby at_105) rfl  k) ?_
    refine own_by (B := T333.setTop (mkF m 109 #[VI ua, VI ub, VI uc, VI ud, VI 2, VI uA, VI uB, VI uC, VR ba, VR bb, VR bc, VR (A 0), VI (q332.1), UU] [(.int uC), (.int uB), (.int uA), (.int 2)])) (fun _ k => XS.iload X333.here hx rfl (hb hby at_107) rfl  k) ?_
    obtain ⟨_, _, ⟨T334, L334, k334, n334⟩, -, X334, ⟨Lc334, hQ334, l334, y334, z334⟩, st334⟩ := Jvm.LawKit.callS X333 hx (y := (⟨"com/example/document_pattern_rules/documentpatternrules/pattern/PairingAddPinLaw", "match", "(IIII)Z"⟩ : MethodName)) hown (mvT hZ (own_hw 72 hw rfl)) (mvT hZ (own_hw 73 hw rfl)) (mvT hZ (own_hw 2 hw rfl)) (mvT hZ (own_hw 74 hw rfl)) (by decide) (backOf (W := 0) (rm10 l Z a0 hw [] (2 : Int32) uA uB uC h333 n0 (Nat.le_trans (own_PS_gn PC333).1 (Nat.le_of_lt (own_PS_E PC333).lt))) hZ (own_hw 74 hw rfl) (own_hw 2 hw rfl) (by decide) (by decide)) (g := (mkF m 109 #[VI ua, VI ub, VI uc, VI ud, VI 2, VI uA, VI uB, VI uC, VR ba, VR bb, VR bc, VR (A 0), VI (q332.1), UU] [(.int uC), (.int uB), (.int uA), (.int 2)])) rfl (by rw [hml]; rfl) (argsL := [(.int 2), (.int uA), (.int uB), (.int uC)]) (rest := []) (lenOf pd_0__IIII_Z rfl) rfl (by show 2 * 0 + _ ≤ _; exact Nat.le_of_eq rfl) (hb hby at_109) (fun _ _ => ⟨rfl, e333, (by decide : 16 + 0 ≤ _), (by decide : 64 + 0 ≤ _)⟩)
    dsimp only [Pt.U, Pt.locs, Pt.cells, Pt.slots] at X334 l334 y334 z334 st334 hQ334
    subst l334 y334 z334
    obtain ⟨rfl, N334, e334⟩ := hQ334
    refine own_by (B := T334.setTop (mkF m 112 #[VI ua, VI ub, VI uc, VI ud, VI 2, VI uA, VI uB, VI uC, VR ba, VR bb, VR bc, VR (A 0), VI (q332.1), UU] [(.int (own_match (2 : Int32) uA uB uC))])) st334 ?_
    have M334 := Fr.app N333 N334
    refine own_by (B := T334.setTop (mkF m 114 #[VI ua, VI ub, VI uc, VI ud, VI 2, VI uA, VI uB, VI uC, VR ba, VR bb, VR bc, VR (A 0), VI (q332.1), VI (own_match (2 : Int32) uA uB uC)] [])) (fun _ k => XS.istore X334.here hx rfl (hb hby at_112) rfl (l' := #[VI ua, VI ub, VI uc, VI ud, VI 2, VI uA, VI uB, VI uC, VR ba, VR bb, VR bc, VR (A 0), VI (q332.1), VI (own_match (2 : Int32) uA uB uC)]) rfl k) ?_
    refine own_by (B := T334.setTop (mkF m 116 #[VI ua, VI ub, VI uc, VI ud, VI 2, VI uA, VI uB, VI uC, VR ba, VR bb, VR bc, VR (A 0), VI (q332.1), VI (own_match (2 : Int32) uA uB uC)] [(.int (q332.1))])) (fun _ k => XS.iload X334.here hx rfl (hb hby at_114) rfl  k) ?_
    refine own_by (B := T334.setTop (mkF m 118 #[VI ua, VI ub, VI uc, VI ud, VI 2, VI uA, VI uB, VI uC, VR ba, VR bb, VR bc, VR (A 0), VI (q332.1), VI (own_match (2 : Int32) uA uB uC)] [(.int (own_match (2 : Int32) uA uB uC)), (.int (q332.1))])) (fun _ k => XS.iload X334.here hx rfl (hb hby at_116) rfl  k) ?_
    by_cases hc335 : (q332.1) = (own_match (2 : Int32) uA uB uC)
    · rw [if_pos hc335] at hF
      refine own_by (B := T334.setTop (mkF m 123 #[VI ua, VI ub, VI uc, VI ud, VI 2, VI uA, VI uB, VI uC, VR ba, VR bb, VR bc, VR (A 0), VI (q332.1), VI (own_match (2 : Int32) uA uB uC)] [])) (fun _ k => XS.icmpYes X334.here hx rfl (pc0 := 118) (pc' := 123) rfl (hb hby at_118) rfl (XT.ii_eq_t hc335) (by decide) (by decide) k) ?_
      refine own_by (B := T334.setTop (mkF m 125 #[VI ua, VI ub, VI uc, VI ud, VI 2, VI uA, VI uB, VI uC, VR ba, VR bb, VR bc, VR (A 0), VI (q332.1), VI (own_match (2 : Int32) uA uB uC)] [(.int (q332.1))])) (fun _ k => XS.iload X334.here hx rfl (hb hby at_123) rfl  k) ?_
      by_cases hc336 : (q332.1) = (0 : Int32)
      · rw [if_pos hc336] at hF
        refine own_by (B := T334.setTop (mkF m 133 #[VI ua, VI ub, VI uc, VI ud, VI 2, VI uA, VI uB, VI uC, VR ba, VR bb, VR bc, VR (A 0), VI (q332.1), VI (own_match (2 : Int32) uA uB uC)] [])) (fun _ k => XS.ifYes X334.here hx rfl (pc0 := 125) (pc' := 133) rfl (hb hby at_125) rfl (XT.i0_eq_t hc336) (by decide) (by decide) k) ?_
        refine own_by (B := T334.setTop (mkF m 134 #[VI ua, VI ub, VI uc, VI ud, VI 2, VI uA, VI uB, VI uC, VR ba, VR bb, VR bc, VR (A 0), VI (q332.1), VI (own_match (2 : Int32) uA uB uC)] [(.int 1)])) (fun _ k => XS.iconst X334.here hx rfl (hb hby at_133) k) ?_
        exact own_retZ X334 hx hrt hlk rfl (hb hby at_134) (by decide) (by decide) ⟨rfl, M334⟩
      · rw [if_neg hc336] at hF
        refine own_by (B := T334.setTop (mkF m 128 #[VI ua, VI ub, VI uc, VI ud, VI 2, VI uA, VI uB, VI uC, VR ba, VR bb, VR bc, VR (A 0), VI (q332.1), VI (own_match (2 : Int32) uA uB uC)] [])) (fun _ k => XS.ifNo X334.here hx rfl (hb hby at_125) rfl (XT.i0_eq_f hc336) k) ?_
        refine own_by (B := T334.setTop (mkF m 130 #[VI ua, VI ub, VI uc, VI ud, VI 2, VI uA, VI uB, VI uC, VR ba, VR bb, VR bc, VR (A 0), VI (q332.1), VI (own_match (2 : Int32) uA uB uC)] [(.int 2)])) (fun _ k => XS.iload X334.here hx rfl (hb hby at_128) rfl  k) ?_
        refine own_by (B := T334.setTop (mkF m 135 #[VI ua, VI ub, VI uc, VI ud, VI 2, VI uA, VI uB, VI uC, VR ba, VR bb, VR bc, VR (A 0), VI (q332.1), VI (own_match (2 : Int32) uA uB uC)] [])) (fun _ k => XS.ifYes X334.here hx rfl (pc0 := 130) (pc' := 135) rfl (hb hby at_130) rfl (XT.i0_ne_t (by decide)) (by decide) (by decide) k) ?_
        refine own_by (B := T334.setTop (mkF m 137 #[VI ua, VI ub, VI uc, VI ud, VI 2, VI uA, VI uB, VI uC, VR ba, VR bb, VR bc, VR (A 0), VI (q332.1), VI (own_match (2 : Int32) uA uB uC)] [(.ref (A 0))])) (fun _ k => XS.aload X334.here hx rfl (hb hby at_135) rfl rfl  k) ?_
        refine own_by (B := T334.setTop (mkF m 138 #[VI ua, VI ub, VI uc, VI ud, VI 2, VI uA, VI uB, VI uC, VR ba, VR bb, VR bc, VR (A 0), VI (q332.1), VI (own_match (2 : Int32) uA uB uC)] [(.int 0), (.ref (A 0))])) (fun _ k => XS.iconst X334.here hx rfl (hb hby at_137) k) ?_
        obtain ⟨q337, hq337, hF⟩ := own_bind hF
        obtain ⟨cq338, kq338, qa338, qb338, qc338⟩ := isOf hZ e334 (own_PS_E PC333)
        obtain ⟨_, _, ⟨T338, L338, k338, n338⟩, -, X338, ⟨Lc338, hQ338, l338, y338, z338⟩, st338⟩ := X334.virtualBack hx (y := (⟨"com/example/document_pattern_rules/documentpatternrules/pattern/Pairing", "lowest", "(I)I"⟩ : MethodName)) (z := (⟨"com/example/document_pattern_rules/documentpatternrules/pattern/Pairing", "lowest", "(I)I"⟩ : MethodName)) hown (mvT hZ (own_hw 79 hw rfl)) (mvT hZ (own_hw 80 hw rfl)) (notFace_of_selects (args := #[]) (mvT hZ (own_hw 82 hw rfl))) (mvT hZ (own_hw 82 hw rfl)) (mvT hZ (own_hw 81 hw rfl)) (by decide) (backOf (W := 0) (rm_lowest l Z a0 hw [] A K (3 : Int32) (4 : Int32) (own_three ba bb bc) (own_three kka kkb kkc) ([La, Lb] : List (List Int32)) (q332.2) _ (0 : Int32) h333 n0 (Nat.le_trans (own_PS_gn PC333).1 (Nat.le_of_lt (own_PS_E PC333).lt)) PC333 hq337) hZ (own_hw 83 hw rfl) (own_hw 10 hw rfl) (by decide) (by decide)) qa338 qc338 (g := (mkF m 138 #[VI ua, VI ub, VI uc, VI ud, VI 2, VI uA, VI uB, VI uC, VR ba, VR bb, VR bc, VR (A 0), VI (q332.1), VI (own_match (2 : Int32) uA uB uC)] [(.int 0), (.ref (A 0))])) rfl (by rw [hml]; rfl) (Steps.refl _) (argsL := [(.int 0)]) (rest := []) (lenOf pd_0__I_I rfl) rfl (by show 2 * 0 + _ ≤ _; exact Nat.le_of_eq rfl) (hb hby at_138) (fun _ _ => ⟨rfl, e334, (by decide : 16 + 0 ≤ _), (by decide : 64 + 0 ≤ _)⟩)
        dsimp only [Pt.U, Pt.locs, Pt.cells, Pt.slots] at X338 l338 y338 z338 st338 hQ338
        subst l338 y338 z338
        obtain ⟨rfl, NC338, PC338⟩ := hQ338
        refine own_by (B := T338.setTop (mkF m 141 #[VI ua, VI ub, VI uc, VI ud, VI 2, VI uA, VI uB, VI uC, VR ba, VR bb, VR bc, VR (A 0), VI (q332.1), VI (own_match (2 : Int32) uA uB uC)] [(.int (q337.1))])) (fun _ k => st338.trans k) ?_
        obtain ⟨h338, e338⟩ : ∃ z, T338.heap = z := ⟨_, rfl⟩
        rw [e338] at PC338
        have N338 := Fr.app M334 NC338
        refine own_by (B := T338.setTop (mkF m 143 #[VI ua, VI ub, VI uc, VI ud, VI 2, VI uA, VI uB, VI uC, VR ba, VR bb, VR bc, VR (A 0), VI (q332.1), VI (own_match (2 : Int32) uA uB uC)] [(.int 2), (.int (q337.1))])) (fun _ k => XS.iload X338.here hx rfl (hb hby at_141) rfl  k) ?_
        refine own_by (B := T338.setTop (mkF m 145 #[VI ua, VI ub, VI uc, VI ud, VI 2, VI uA, VI uB, VI uC, VR ba, VR bb, VR bc, VR (A 0), VI (q332.1), VI (own_match (2 : Int32) uA uB uC)] [(.int uA), (.int 2), (.int (q337.1))])) (fun _ k => XS.iload X338.here hx rfl (hb hby at_143) rfl  k) ?_
        refine own_by (B := T338.setTop (mkF m 147 #[VI ua, VI ub, VI uc, VI ud, VI 2, VI uA, VI uB, VI uC, VR ba, VR bb, VR bc, VR (A 0), VI (q332.1), VI (own_match (2 : Int32) uA uB uC)] [(.int uB), (.int uA), (.int 2), (.int (q337.1))])) (fun _ k => XS.iload X338.here hx rfl (hb hby at_145) rfl  k) ?_
        refine own_by (B := T338.setTop (mkF m 149 #[VI ua, VI ub, VI uc, VI ud, VI 2, VI uA, VI uB, VI uC, VR ba, VR bb, VR bc, VR (A 0), VI (q332.1), VI (own_match (2 : Int32) uA uB uC)] [(.int uC), (.int uB), (.int uA), (.int 2), (.int (q337.1))])) (fun _ k => XS.iload X338.here hx rfl (hb hby at_147) rfl  k) ?_
        obtain ⟨_, _, ⟨T339, L339, k339, n339⟩, -, X339, ⟨Lc339, hQ339, l339, y339, z339⟩, st339⟩ := Jvm.LawKit.callS X338 hx (y := (⟨"com/example/document_pattern_rules/documentpatternrules/pattern/PairingAddPinLaw", "lowestRef", "(IIII)I"⟩ : MethodName)) hown (mvT hZ (own_hw 84 hw rfl)) (mvT hZ (own_hw 85 hw rfl)) (mvT hZ (own_hw 2 hw rfl)) (mvT hZ (own_hw 86 hw rfl)) (by decide) (backOf (W := 1) (rm13 l Z a0 hw [] (2 : Int32) uA uB uC h338 n0 (Nat.le_trans (own_PS_gn PC338).1 (Nat.le_of_lt (own_PS_E PC338).lt))) hZ (own_hw 86 hw rfl) (own_hw 2 hw rfl) (by decide) (by decide)) (g := (mkF m 149 #[VI ua, VI ub, VI uc, VI ud, VI 2, VI uA, VI uB, VI uC, VR ba, VR bb, VR bc, VR (A 0), VI (q332.1), VI (own_match (2 : Int32) uA uB uC)] [(.int uC), (.int uB), (.int uA), (.int 2), (.int (q337.1))])) rfl (by rw [hml]; rfl) (argsL := [(.int 2), (.int uA), (.int uB), (.int uC)]) (rest := [(.int (q337.1))]) (lenOf pd_0__IIII_I rfl) rfl (by show 2 * 0 + _ ≤ _; exact Nat.le_of_eq rfl) (hb hby at_149) (fun _ _ => ⟨rfl, e338, (by decide : 16 + 0 ≤ _), (by decide : 64 + 0 ≤ _)⟩)
        dsimp only [Pt.U, Pt.locs, Pt.cells, Pt.slots] at X339 l339 y339 z339 st339 hQ339
        subst l339 y339 z339
        obtain ⟨rfl, N339, e339⟩ := hQ339
        refine own_by (B := T339.setTop (mkF m 152 #[VI ua, VI ub, VI uc, VI ud, VI 2, VI uA, VI uB, VI uC, VR ba, VR bb, VR bc, VR (A 0), VI (q332.1), VI (own_match (2 : Int32) uA uB uC)] [(.int (own_lref (2 : Int32) uA uB uC)), (.int (q337.1))])) st339 ?_
        have M339 := Fr.app N338 N339
        by_cases hc340 : (q337.1) = (own_lref (2 : Int32) uA uB uC)
        · rw [if_pos hc340] at hF
          refine own_by (B := T339.setTop (mkF m 155 #[VI ua, VI ub, VI uc, VI ud, VI 2, VI uA, VI uB, VI uC, VR ba, VR bb, VR bc, VR (A 0), VI (q332.1), VI (own_match (2 : Int32) uA uB uC)] [])) (fun _ k => XS.icmpNo X339.here hx rfl (hb hby at_152) rfl (XT.ii_ne_f hc340) k) ?_
          refine own_by (B := T339.setTop (mkF m 156 #[VI ua, VI ub, VI uc, VI ud, VI 2, VI uA, VI uB, VI uC, VR ba, VR bb, VR bc, VR (A 0), VI (q332.1), VI (own_match (2 : Int32) uA uB uC)] [(.int 1)])) (fun _ k => XS.iconst X339.here hx rfl (hb hby at_155) k) ?_
          refine own_by (B := T339.setTop (mkF m 160 #[VI ua, VI ub, VI uc, VI ud, VI 2, VI uA, VI uB, VI uC, VR ba, VR bb, VR bc, VR (A 0), VI (q332.1), VI (own_match (2 : Int32) uA uB uC)] [(.int 1)])) (fun _ k => XS.goto X339.here hx rfl (pc0 := 156) (pc' := 160) rfl (hb hby at_156) (by decide) (by decide) k) ?_
          exact own_retZ X339 hx hrt hlk rfl (hb hby at_160) (by decide) (by decide) ⟨rfl, M339⟩
        · rw [if_neg hc340] at hF
          refine own_by (B := T339.setTop (mkF m 159 #[VI ua, VI ub, VI uc, VI ud, VI 2, VI uA, VI uB, VI uC, VR ba, VR bb, VR bc, VR (A 0), VI (q332.1), VI (own_match (2 : Int32) uA uB uC)] [])) (fun _ k => XS.icmpYes X339.here hx rfl (pc0 := 152) (pc' := 159) rfl (hb hby at_152) rfl (XT.ii_ne_t hc340) (by decide) (by decide) k) ?_
          refine own_by (B := T339.setTop (mkF m 160 #[VI ua, VI ub, VI uc, VI ud, VI 2, VI uA, VI uB, VI uC, VR ba, VR bb, VR bc, VR (A 0), VI (q332.1), VI (own_match (2 : Int32) uA uB uC)] [(.int 0)])) (fun _ k => XS.iconst X339.here hx rfl (hb hby at_159) k) ?_
          exact absurd (Option.some.inj hF) (by decide)
    · rw [if_neg hc335] at hF
      refine own_by (B := T334.setTop (mkF m 121 #[VI ua, VI ub, VI uc, VI ud, VI 2, VI uA, VI uB, VI uC, VR ba, VR bb, VR bc, VR (A 0), VI (q332.1), VI (own_match (2 : Int32) uA uB uC)] [])) (fun _ k => XS.icmpNo X334.here hx rfl (hb hby at_118) rfl (XT.ii_eq_f hc335) k) ?_
      refine own_by (B := T334.setTop (mkF m 122 #[VI ua, VI ub, VI uc, VI ud, VI 2, VI uA, VI uB, VI uC, VR ba, VR bb, VR bc, VR (A 0), VI (q332.1), VI (own_match (2 : Int32) uA uB uC)] [(.int 0)])) (fun _ k => XS.iconst X334.here hx rfl (hb hby at_121) k) ?_
      exact absurd (Option.some.inj hF) (by decide)
  · obtain rfl : un = (3 : Int32) := hun.trans h4
    have PK := own_PS_sub (CL' := ([La, Lb, Lc] : List (List Int32))) PC11 own_sub3
    have hF : own_law3 ([La, Lb, Lc] : List (List Int32)) uA uB uC = some (1 : Int32) := own_fin3 hLa hLb hLc h16uA h16uB h16uC
    unfold own_law3 at hF
    refine own_by (B := T11.setTop (mkF m 57 #[VI ua, VI ub, VI uc, VI ud, VI 3, VI uA, VI uB, VI uC, VR ba, VR bb, VR bc, VR (A 0), UU, UU] [(.int 3)])) (fun _ k => XS.iload X11.here hx rfl (hb hby at_55) rfl  k) ?_
    refine own_by (B := T11.setTop (mkF m 58 #[VI ua, VI ub, VI uc, VI ud, VI 3, VI uA, VI uB, VI uC, VR ba, VR bb, VR bc, VR (A 0), UU, UU] [(.int 1), (.int 3)])) (fun _ k => XS.iconst X11.here hx rfl (hb hby at_57) k) ?_
    refine own_by (B := T11.setTop (mkF m 61 #[VI ua, VI ub, VI uc, VI ud, VI 3, VI uA, VI uB, VI uC, VR ba, VR bb, VR bc, VR (A 0), UU, UU] [])) (fun _ k => XS.icmpNo X11.here hx rfl (hb hby at_58) rfl (XT.ii_lt_f (by decide)) k) ?_
    refine own_by (B := T11.setTop (mkF m 63 #[VI ua, VI ub, VI uc, VI ud, VI 3, VI uA, VI uB, VI uC, VR ba, VR bb, VR bc, VR (A 0), UU, UU] [(.ref (A 0))])) (fun _ k => XS.aload X11.here hx rfl (hb hby at_61) rfl rfl  k) ?_
    refine own_by (B := T11.setTop (mkF m 65 #[VI ua, VI ub, VI uc, VI ud, VI 3, VI uA, VI uB, VI uC, VR ba, VR bb, VR bc, VR (A 0), UU, UU] [(.ref ba), (.ref (A 0))])) (fun _ k => XS.aload X11.here hx rfl (hb hby at_63) rfl rfl  k) ?_
    obtain ⟨q441, hq441, hF⟩ := own_bind hF
    obtain ⟨cq442, kq442, qa442, qb442, qc442⟩ := isOf hZ e11 (own_PS_E PK)
    obtain ⟨_, _, ⟨T442, L442, k442, n442⟩, -, X442, ⟨Lc442, hQ442, l442, y442, z442⟩, st442⟩ := X11.virtualBack hx (y := (⟨"com/example/document_pattern_rules/documentpatternrules/pattern/Pairing", "add", "([I)V"⟩ : MethodName)) (z := (⟨"com/example/document_pattern_rules/documentpatternrules/pattern/Pairing", "add", "([I)V"⟩ : MethodName)) hown (mvT hZ (own_hw 49 hw rfl)) (mvT hZ (own_hw 50 hw rfl)) (notFace_of_selects (args := #[]) (mvT hZ (own_hw 52 hw rfl))) (mvT hZ (own_hw 52 hw rfl)) (mvT hZ (own_hw 51 hw rfl)) (by decide) (backOf (W := 0) (rm_add l Z a0 hw [] A K (3 : Int32) (4 : Int32) (own_three ba bb bc) (own_three kka kkb kkc) ([La, Lb, Lc] : List (List Int32)) own_u0 _ 0 La h11 n0 (Nat.le_trans (own_PS_gn PK).1 (Nat.le_of_lt (own_PS_E PK).lt)) PK hq441 rfl) hZ (own_hw 53 hw rfl) (own_hw 10 hw rfl) (by decide) (by decide)) qa442 qc442 (g := (mkF m 65 #[VI ua, VI ub, VI uc, VI ud, VI 3, VI uA, VI uB, VI uC, VR ba, VR bb, VR bc, VR (A 0), UU, UU] [(.ref ba), (.ref (A 0))])) rfl (by rw [hml]; rfl) (Steps.refl _) (argsL := [(.ref ba)]) (rest := []) (lenOf pd_0___I_V rfl) rfl (by show 2 * 0 + _ ≤ _; exact Nat.le_of_eq rfl) (hb hby at_65) (fun _ _ => ⟨rfl, e11, (by decide : 16 + 0 ≤ _), (by decide : 64 + 0 ≤ _)⟩)
    dsimp only [Pt.U, Pt.locs, Pt.cells, Pt.slots] at X442 l442 y442 z442 st442 hQ442
    subst l442 y442 z442
    obtain ⟨rfl, NC442, PC442⟩ := hQ442
    refine own_by (B := T442.setTop (mkF m 68 #[VI ua, VI ub, VI uc, VI ud, VI 3, VI uA, VI uB, VI uC, VR ba, VR bb, VR bc, VR (A 0), UU, UU] [])) (fun _ k => st442.trans k) ?_
    obtain ⟨h442, e442⟩ : ∃ z, T442.heap = z := ⟨_, rfl⟩
    rw [e442] at PC442
    have N442 := Fr.app N11 NC442
    refine own_by (B := T442.setTop (mkF m 70 #[VI ua, VI ub, VI uc, VI ud, VI 3, VI uA, VI uB, VI uC, VR ba, VR bb, VR bc, VR (A 0), UU, UU] [(.int 3)])) (fun _ k => XS.iload X442.here hx rfl (hb hby at_68) rfl  k) ?_
    refine own_by (B := T442.setTop (mkF m 71 #[VI ua, VI ub, VI uc, VI ud, VI 3, VI uA, VI uB, VI uC, VR ba, VR bb, VR bc, VR (A 0), UU, UU] [(.int 2), (.int 3)])) (fun _ k => XS.iconst X442.here hx rfl (hb hby at_70) k) ?_
    refine own_by (B := T442.setTop (mkF m 74 #[VI ua, VI ub, VI uc, VI ud, VI 3, VI uA, VI uB, VI uC, VR ba, VR bb, VR bc, VR (A 0), UU, UU] [])) (fun _ k => XS.icmpNo X442.here hx rfl (hb hby at_71) rfl (XT.ii_lt_f (by decide)) k) ?_
    refine own_by (B := T442.setTop (mkF m 76 #[VI ua, VI ub, VI uc, VI ud, VI 3, VI uA, VI uB, VI uC, VR ba, VR bb, VR bc, VR (A 0), UU, UU] [(.ref (A 0))])) (fun _ k => XS.aload X442.here hx rfl (hb hby at_74) rfl rfl  k) ?_
    refine own_by (B := T442.setTop (mkF m 78 #[VI ua, VI ub, VI uc, VI ud, VI 3, VI uA, VI uB, VI uC, VR ba, VR bb, VR bc, VR (A 0), UU, UU] [(.ref bb), (.ref (A 0))])) (fun _ k => XS.aload X442.here hx rfl (hb hby at_76) rfl rfl  k) ?_
    obtain ⟨q443, hq443, hF⟩ := own_bind hF
    obtain ⟨cq444, kq444, qa444, qb444, qc444⟩ := isOf hZ e442 (own_PS_E PC442)
    obtain ⟨_, _, ⟨T444, L444, k444, n444⟩, -, X444, ⟨Lc444, hQ444, l444, y444, z444⟩, st444⟩ := X442.virtualBack hx (y := (⟨"com/example/document_pattern_rules/documentpatternrules/pattern/Pairing", "add", "([I)V"⟩ : MethodName)) (z := (⟨"com/example/document_pattern_rules/documentpatternrules/pattern/Pairing", "add", "([I)V"⟩ : MethodName)) hown (mvT hZ (own_hw 49 hw rfl)) (mvT hZ (own_hw 50 hw rfl)) (notFace_of_selects (args := #[]) (mvT hZ (own_hw 52 hw rfl))) (mvT hZ (own_hw 52 hw rfl)) (mvT hZ (own_hw 51 hw rfl)) (by decide) (backOf (W := 0) (rm_add l Z a0 hw [] A K (3 : Int32) (4 : Int32) (own_three ba bb bc) (own_three kka kkb kkc) ([La, Lb, Lc] : List (List Int32)) q441 _ 1 Lb h442 n0 (Nat.le_trans (own_PS_gn PC442).1 (Nat.le_of_lt (own_PS_E PC442).lt)) PC442 hq443 rfl) hZ (own_hw 53 hw rfl) (own_hw 10 hw rfl) (by decide) (by decide)) qa444 qc444 (g := (mkF m 78 #[VI ua, VI ub, VI uc, VI ud, VI 3, VI uA, VI uB, VI uC, VR ba, VR bb, VR bc, VR (A 0), UU, UU] [(.ref bb), (.ref (A 0))])) rfl (by rw [hml]; rfl) (Steps.refl _) (argsL := [(.ref bb)]) (rest := []) (lenOf pd_0___I_V rfl) rfl (by show 2 * 0 + _ ≤ _; exact Nat.le_of_eq rfl) (hb hby at_78) (fun _ _ => ⟨rfl, e442, (by decide : 16 + 0 ≤ _), (by decide : 64 + 0 ≤ _)⟩)
    dsimp only [Pt.U, Pt.locs, Pt.cells, Pt.slots] at X444 l444 y444 z444 st444 hQ444
    subst l444 y444 z444
    obtain ⟨rfl, NC444, PC444⟩ := hQ444
    refine own_by (B := T444.setTop (mkF m 81 #[VI ua, VI ub, VI uc, VI ud, VI 3, VI uA, VI uB, VI uC, VR ba, VR bb, VR bc, VR (A 0), UU, UU] [])) (fun _ k => st444.trans k) ?_
    obtain ⟨h444, e444⟩ : ∃ z, T444.heap = z := ⟨_, rfl⟩
    rw [e444] at PC444
    have N444 := Fr.app N442 NC444
    refine own_by (B := T444.setTop (mkF m 83 #[VI ua, VI ub, VI uc, VI ud, VI 3, VI uA, VI uB, VI uC, VR ba, VR bb, VR bc, VR (A 0), UU, UU] [(.int 3)])) (fun _ k => XS.iload X444.here hx rfl (hb hby at_81) rfl  k) ?_
    refine own_by (B := T444.setTop (mkF m 84 #[VI ua, VI ub, VI uc, VI ud, VI 3, VI uA, VI uB, VI uC, VR ba, VR bb, VR bc, VR (A 0), UU, UU] [(.int 3), (.int 3)])) (fun _ k => XS.iconst X444.here hx rfl (hb hby at_83) k) ?_
    refine own_by (B := T444.setTop (mkF m 87 #[VI ua, VI ub, VI uc, VI ud, VI 3, VI uA, VI uB, VI uC, VR ba, VR bb, VR bc, VR (A 0), UU, UU] [])) (fun _ k => XS.icmpNo X444.here hx rfl (hb hby at_84) rfl (XT.ii_lt_f (by decide)) k) ?_
    refine own_by (B := T444.setTop (mkF m 89 #[VI ua, VI ub, VI uc, VI ud, VI 3, VI uA, VI uB, VI uC, VR ba, VR bb, VR bc, VR (A 0), UU, UU] [(.ref (A 0))])) (fun _ k => XS.aload X444.here hx rfl (hb hby at_87) rfl rfl  k) ?_
    refine own_by (B := T444.setTop (mkF m 91 #[VI ua, VI ub, VI uc, VI ud, VI 3, VI uA, VI uB, VI uC, VR ba, VR bb, VR bc, VR (A 0), UU, UU] [(.ref bc), (.ref (A 0))])) (fun _ k => XS.aload X444.here hx rfl (hb hby at_89) rfl rfl  k) ?_
    obtain ⟨q445, hq445, hF⟩ := own_bind hF
    obtain ⟨cq446, kq446, qa446, qb446, qc446⟩ := isOf hZ e444 (own_PS_E PC444)
    obtain ⟨_, _, ⟨T446, L446, k446, n446⟩, -, X446, ⟨Lc446, hQ446, l446, y446, z446⟩, st446⟩ := X444.virtualBack hx (y := (⟨"com/example/document_pattern_rules/documentpatternrules/pattern/Pairing", "add", "([I)V"⟩ : MethodName)) (z := (⟨"com/example/document_pattern_rules/documentpatternrules/pattern/Pairing", "add", "([I)V"⟩ : MethodName)) hown (mvT hZ (own_hw 49 hw rfl)) (mvT hZ (own_hw 50 hw rfl)) (notFace_of_selects (args := #[]) (mvT hZ (own_hw 52 hw rfl))) (mvT hZ (own_hw 52 hw rfl)) (mvT hZ (own_hw 51 hw rfl)) (by decide) (backOf (W := 0) (rm_add l Z a0 hw [] A K (3 : Int32) (4 : Int32) (own_three ba bb bc) (own_three kka kkb kkc) ([La, Lb, Lc] : List (List Int32)) q443 _ 2 Lc h444 n0 (Nat.le_trans (own_PS_gn PC444).1 (Nat.le_of_lt (own_PS_E PC444).lt)) PC444 hq445 rfl) hZ (own_hw 53 hw rfl) (own_hw 10 hw rfl) (by decide) (by decide)) qa446 qc446 (g := (mkF m 91 #[VI ua, VI ub, VI uc, VI ud, VI 3, VI uA, VI uB, VI uC, VR ba, VR bb, VR bc, VR (A 0), UU, UU] [(.ref bc), (.ref (A 0))])) rfl (by rw [hml]; rfl) (Steps.refl _) (argsL := [(.ref bc)]) (rest := []) (lenOf pd_0___I_V rfl) rfl (by show 2 * 0 + _ ≤ _; exact Nat.le_of_eq rfl) (hb hby at_91) (fun _ _ => ⟨rfl, e444, (by decide : 16 + 0 ≤ _), (by decide : 64 + 0 ≤ _)⟩)
    dsimp only [Pt.U, Pt.locs, Pt.cells, Pt.slots] at X446 l446 y446 z446 st446 hQ446
    subst l446 y446 z446
    obtain ⟨rfl, NC446, PC446⟩ := hQ446
    refine own_by (B := T446.setTop (mkF m 94 #[VI ua, VI ub, VI uc, VI ud, VI 3, VI uA, VI uB, VI uC, VR ba, VR bb, VR bc, VR (A 0), UU, UU] [])) (fun _ k => st446.trans k) ?_
    obtain ⟨h446, e446⟩ : ∃ z, T446.heap = z := ⟨_, rfl⟩
    rw [e446] at PC446
    have N446 := Fr.app N444 NC446
    refine own_by (B := T446.setTop (mkF m 96 #[VI ua, VI ub, VI uc, VI ud, VI 3, VI uA, VI uB, VI uC, VR ba, VR bb, VR bc, VR (A 0), UU, UU] [(.ref (A 0))])) (fun _ k => XS.aload X446.here hx rfl (hb hby at_94) rfl rfl  k) ?_
    obtain ⟨q447, hq447, hF⟩ := own_bind hF
    obtain ⟨cq448, kq448, qa448, qb448, qc448⟩ := isOf hZ e446 (own_PS_E PC446)
    obtain ⟨_, _, ⟨T448, L448, k448, n448⟩, -, X448, ⟨Lc448, hQ448, l448, y448, z448⟩, st448⟩ := X446.virtualBack hx (y := (⟨"com/example/document_pattern_rules/documentpatternrules/pattern/Pairing", "complete", "()Z"⟩ : MethodName)) (z := (⟨"com/example/document_pattern_rules/documentpatternrules/pattern/Pairing", "complete", "()Z"⟩ : MethodName)) hown (mvT hZ (own_hw 57 hw rfl)) (mvT hZ (own_hw 58 hw rfl)) (notFace_of_selects (args := #[]) (mvT hZ (own_hw 60 hw rfl))) (mvT hZ (own_hw 60 hw rfl)) (mvT hZ (own_hw 59 hw rfl)) (by decide) (backOf (W := 0) (rm_complete l Z a0 hw [] A K (3 : Int32) (4 : Int32) (own_three ba bb bc) (own_three kka kkb kkc) ([La, Lb, Lc] : List (List Int32)) q445 _  h446 n0 (Nat.le_trans (own_PS_gn PC446).1 (Nat.le_of_lt (own_PS_E PC446).lt)) PC446 hq447) hZ (own_hw 61 hw rfl) (own_hw 10 hw rfl) (by decide) (by decide)) qa448 qc448 (g := (mkF m 96 #[VI ua, VI ub, VI uc, VI ud, VI 3, VI uA, VI uB, VI uC, VR ba, VR bb, VR bc, VR (A 0), UU, UU] [(.ref (A 0))])) rfl (by rw [hml]; rfl) (Steps.refl _) (argsL := []) (rest := []) (lenOf pd_0___Z rfl) rfl (by show 2 * 0 + _ ≤ _; exact Nat.le_of_eq rfl) (hb hby at_96) (fun _ _ => ⟨rfl, e446, (by decide : 16 + 0 ≤ _), (by decide : 64 + 0 ≤ _)⟩)
    dsimp only [Pt.U, Pt.locs, Pt.cells, Pt.slots] at X448 l448 y448 z448 st448 hQ448
    subst l448 y448 z448
    obtain ⟨rfl, NC448, PC448⟩ := hQ448
    refine own_by (B := T448.setTop (mkF m 99 #[VI ua, VI ub, VI uc, VI ud, VI 3, VI uA, VI uB, VI uC, VR ba, VR bb, VR bc, VR (A 0), UU, UU] [(.int (q447.1))])) (fun _ k => st448.trans k) ?_
    obtain ⟨h448, e448⟩ : ∃ z, T448.heap = z := ⟨_, rfl⟩
    rw [e448] at PC448
    have N448 := Fr.app N446 NC448
    refine own_by (B := T448.setTop (mkF m 101 #[VI ua, VI ub, VI uc, VI ud, VI 3, VI uA, VI uB, VI uC, VR ba, VR bb, VR bc, VR (A 0), VI (q447.1), UU] [])) (fun _ k => XS.istore X448.here hx rfl (hb hby at_99) rfl (l' := #[VI ua, VI ub, VI uc, VI ud, VI 3, VI uA, VI uB, VI uC, VR ba, VR bb, VR bc, VR (A 0), VI (q447.1), UU]) rfl k) ?_
    refine own_by (B := T448.setTop (mkF m 103 #[VI ua, VI ub, VI uc, VI ud, VI 3, VI uA, VI uB, VI uC, VR ba, VR bb, VR bc, VR (A 0), VI (q447.1), UU] [(.int 3)])) (fun _ k => XS.iload X448.here hx rfl (hb hby at_101) rfl  k) ?_
    refine own_by (B := T448.setTop (mkF m 105 #[VI ua, VI ub, VI uc, VI ud, VI 3, VI uA, VI uB, VI uC, VR ba, VR bb, VR bc, VR (A 0), VI (q447.1), UU] [(.int uA), (.int 3)])) (fun _ k => XS.iload X448.here hx rfl (hb hby at_103) rfl  k) ?_
    refine own_by (B := T448.setTop (mkF m 107 #[VI ua, VI ub, VI uc, VI ud, VI 3, VI uA, VI uB, VI uC, VR ba, VR bb, VR bc, VR (A 0), VI (q447.1), UU] [(.int uB), (.int uA), (.int 3)])) (fun _ k => XS.iload X448.here hx rfl (hb hby at_105) rfl  k) ?_
    refine own_by (B := T448.setTop (mkF m 109 #[VI ua, VI ub, VI uc, VI ud, VI 3, VI uA, VI uB, VI uC, VR ba, VR bb, VR bc, VR (A 0), VI (q447.1), UU] [(.int uC), (.int uB), (.int uA), (.int 3)])) (fun _ k => XS.iload X448.here hx rfl (hb hby at_107) rfl  k) ?_
    obtain ⟨_, _, ⟨T449, L449, k449, n449⟩, -, X449, ⟨Lc449, hQ449, l449, y449, z449⟩, st449⟩ := Jvm.LawKit.callS X448 hx (y := (⟨"com/example/document_pattern_rules/documentpatternrules/pattern/PairingAddPinLaw", "match", "(IIII)Z"⟩ : MethodName)) hown (mvT hZ (own_hw 72 hw rfl)) (mvT hZ (own_hw 73 hw rfl)) (mvT hZ (own_hw 2 hw rfl)) (mvT hZ (own_hw 74 hw rfl)) (by decide) (backOf (W := 0) (rm10 l Z a0 hw [] (3 : Int32) uA uB uC h448 n0 (Nat.le_trans (own_PS_gn PC448).1 (Nat.le_of_lt (own_PS_E PC448).lt))) hZ (own_hw 74 hw rfl) (own_hw 2 hw rfl) (by decide) (by decide)) (g := (mkF m 109 #[VI ua, VI ub, VI uc, VI ud, VI 3, VI uA, VI uB, VI uC, VR ba, VR bb, VR bc, VR (A 0), VI (q447.1), UU] [(.int uC), (.int uB), (.int uA), (.int 3)])) rfl (by rw [hml]; rfl) (argsL := [(.int 3), (.int uA), (.int uB), (.int uC)]) (rest := []) (lenOf pd_0__IIII_Z rfl) rfl (by show 2 * 0 + _ ≤ _; exact Nat.le_of_eq rfl) (hb hby at_109) (fun _ _ => ⟨rfl, e448, (by decide : 16 + 0 ≤ _), (by decide : 64 + 0 ≤ _)⟩)
    dsimp only [Pt.U, Pt.locs, Pt.cells, Pt.slots] at X449 l449 y449 z449 st449 hQ449
    subst l449 y449 z449
    obtain ⟨rfl, N449, e449⟩ := hQ449
    refine own_by (B := T449.setTop (mkF m 112 #[VI ua, VI ub, VI uc, VI ud, VI 3, VI uA, VI uB, VI uC, VR ba, VR bb, VR bc, VR (A 0), VI (q447.1), UU] [(.int (own_match (3 : Int32) uA uB uC))])) st449 ?_
    have M449 := Fr.app N448 N449
    refine own_by (B := T449.setTop (mkF m 114 #[VI ua, VI ub, VI uc, VI ud, VI 3, VI uA, VI uB, VI uC, VR ba, VR bb, VR bc, VR (A 0), VI (q447.1), VI (own_match (3 : Int32) uA uB uC)] [])) (fun _ k => XS.istore X449.here hx rfl (hb hby at_112) rfl (l' := #[VI ua, VI ub, VI uc, VI ud, VI 3, VI uA, VI uB, VI uC, VR ba, VR bb, VR bc, VR (A 0), VI (q447.1), VI (own_match (3 : Int32) uA uB uC)]) rfl k) ?_
    refine own_by (B := T449.setTop (mkF m 116 #[VI ua, VI ub, VI uc, VI ud, VI 3, VI uA, VI uB, VI uC, VR ba, VR bb, VR bc, VR (A 0), VI (q447.1), VI (own_match (3 : Int32) uA uB uC)] [(.int (q447.1))])) (fun _ k => XS.iload X449.here hx rfl (hb hby at_114) rfl  k) ?_
    refine own_by (B := T449.setTop (mkF m 118 #[VI ua, VI ub, VI uc, VI ud, VI 3, VI uA, VI uB, VI uC, VR ba, VR bb, VR bc, VR (A 0), VI (q447.1), VI (own_match (3 : Int32) uA uB uC)] [(.int (own_match (3 : Int32) uA uB uC)), (.int (q447.1))])) (fun _ k => XS.iload X449.here hx rfl (hb hby at_116) rfl  k) ?_
    by_cases hc450 : (q447.1) = (own_match (3 : Int32) uA uB uC)
    · rw [if_pos hc450] at hF
      refine own_by (B := T449.setTop (mkF m 123 #[VI ua, VI ub, VI uc, VI ud, VI 3, VI uA, VI uB, VI uC, VR ba, VR bb, VR bc, VR (A 0), VI (q447.1), VI (own_match (3 : Int32) uA uB uC)] [])) (fun _ k => XS.icmpYes X449.here hx rfl (pc0 := 118) (pc' := 123) rfl (hb hby at_118) rfl (XT.ii_eq_t hc450) (by decide) (by decide) k) ?_
      refine own_by (B := T449.setTop (mkF m 125 #[VI ua, VI ub, VI uc, VI ud, VI 3, VI uA, VI uB, VI uC, VR ba, VR bb, VR bc, VR (A 0), VI (q447.1), VI (own_match (3 : Int32) uA uB uC)] [(.int (q447.1))])) (fun _ k => XS.iload X449.here hx rfl (hb hby at_123) rfl  k) ?_
      by_cases hc451 : (q447.1) = (0 : Int32)
      · rw [if_pos hc451] at hF
        refine own_by (B := T449.setTop (mkF m 133 #[VI ua, VI ub, VI uc, VI ud, VI 3, VI uA, VI uB, VI uC, VR ba, VR bb, VR bc, VR (A 0), VI (q447.1), VI (own_match (3 : Int32) uA uB uC)] [])) (fun _ k => XS.ifYes X449.here hx rfl (pc0 := 125) (pc' := 133) rfl (hb hby at_125) rfl (XT.i0_eq_t hc451) (by decide) (by decide) k) ?_
        refine own_by (B := T449.setTop (mkF m 134 #[VI ua, VI ub, VI uc, VI ud, VI 3, VI uA, VI uB, VI uC, VR ba, VR bb, VR bc, VR (A 0), VI (q447.1), VI (own_match (3 : Int32) uA uB uC)] [(.int 1)])) (fun _ k => XS.iconst X449.here hx rfl (hb hby at_133) k) ?_
        exact own_retZ X449 hx hrt hlk rfl (hb hby at_134) (by decide) (by decide) ⟨rfl, M449⟩
      · rw [if_neg hc451] at hF
        refine own_by (B := T449.setTop (mkF m 128 #[VI ua, VI ub, VI uc, VI ud, VI 3, VI uA, VI uB, VI uC, VR ba, VR bb, VR bc, VR (A 0), VI (q447.1), VI (own_match (3 : Int32) uA uB uC)] [])) (fun _ k => XS.ifNo X449.here hx rfl (hb hby at_125) rfl (XT.i0_eq_f hc451) k) ?_
        refine own_by (B := T449.setTop (mkF m 130 #[VI ua, VI ub, VI uc, VI ud, VI 3, VI uA, VI uB, VI uC, VR ba, VR bb, VR bc, VR (A 0), VI (q447.1), VI (own_match (3 : Int32) uA uB uC)] [(.int 3)])) (fun _ k => XS.iload X449.here hx rfl (hb hby at_128) rfl  k) ?_
        refine own_by (B := T449.setTop (mkF m 135 #[VI ua, VI ub, VI uc, VI ud, VI 3, VI uA, VI uB, VI uC, VR ba, VR bb, VR bc, VR (A 0), VI (q447.1), VI (own_match (3 : Int32) uA uB uC)] [])) (fun _ k => XS.ifYes X449.here hx rfl (pc0 := 130) (pc' := 135) rfl (hb hby at_130) rfl (XT.i0_ne_t (by decide)) (by decide) (by decide) k) ?_
        refine own_by (B := T449.setTop (mkF m 137 #[VI ua, VI ub, VI uc, VI ud, VI 3, VI uA, VI uB, VI uC, VR ba, VR bb, VR bc, VR (A 0), VI (q447.1), VI (own_match (3 : Int32) uA uB uC)] [(.ref (A 0))])) (fun _ k => XS.aload X449.here hx rfl (hb hby at_135) rfl rfl  k) ?_
        refine own_by (B := T449.setTop (mkF m 138 #[VI ua, VI ub, VI uc, VI ud, VI 3, VI uA, VI uB, VI uC, VR ba, VR bb, VR bc, VR (A 0), VI (q447.1), VI (own_match (3 : Int32) uA uB uC)] [(.int 0), (.ref (A 0))])) (fun _ k => XS.iconst X449.here hx rfl (hb hby at_137) k) ?_
        obtain ⟨q452, hq452, hF⟩ := own_bind hF
        obtain ⟨cq453, kq453, qa453, qb453, qc453⟩ := isOf hZ e449 (own_PS_E PC448)
        obtain ⟨_, _, ⟨T453, L453, k453, n453⟩, -, X453, ⟨Lc453, hQ453, l453, y453, z453⟩, st453⟩ := X449.virtualBack hx (y := (⟨"com/example/document_pattern_rules/documentpatternrules/pattern/Pairing", "lowest", "(I)I"⟩ : MethodName)) (z := (⟨"com/example/document_pattern_rules/documentpatternrules/pattern/Pairing", "lowest", "(I)I"⟩ : MethodName)) hown (mvT hZ (own_hw 79 hw rfl)) (mvT hZ (own_hw 80 hw rfl)) (notFace_of_selects (args := #[]) (mvT hZ (own_hw 82 hw rfl))) (mvT hZ (own_hw 82 hw rfl)) (mvT hZ (own_hw 81 hw rfl)) (by decide) (backOf (W := 0) (rm_lowest l Z a0 hw [] A K (3 : Int32) (4 : Int32) (own_three ba bb bc) (own_three kka kkb kkc) ([La, Lb, Lc] : List (List Int32)) (q447.2) _ (0 : Int32) h448 n0 (Nat.le_trans (own_PS_gn PC448).1 (Nat.le_of_lt (own_PS_E PC448).lt)) PC448 hq452) hZ (own_hw 83 hw rfl) (own_hw 10 hw rfl) (by decide) (by decide)) qa453 qc453 (g := (mkF m 138 #[VI ua, VI ub, VI uc, VI ud, VI 3, VI uA, VI uB, VI uC, VR ba, VR bb, VR bc, VR (A 0), VI (q447.1), VI (own_match (3 : Int32) uA uB uC)] [(.int 0), (.ref (A 0))])) rfl (by rw [hml]; rfl) (Steps.refl _) (argsL := [(.int 0)]) (rest := []) (lenOf pd_0__I_I rfl) rfl (by show 2 * 0 + _ ≤ _; exact Nat.le_of_eq rfl) (hb hby at_138) (fun _ _ => ⟨rfl, e449, (by decide : 16 + 0 ≤ _), (by decide : 64 + 0 ≤ _)⟩)
        dsimp only [Pt.U, Pt.locs, Pt.cells, Pt.slots] at X453 l453 y453 z453 st453 hQ453
        subst l453 y453 z453
        obtain ⟨rfl, NC453, PC453⟩ := hQ453
        refine own_by (B := T453.setTop (mkF m 141 #[VI ua, VI ub, VI uc, VI ud, VI 3, VI uA, VI uB, VI uC, VR ba, VR bb, VR bc, VR (A 0), VI (q447.1), VI (own_match (3 : Int32) uA uB uC)] [(.int (q452.1))])) (fun _ k => st453.trans k) ?_
        obtain ⟨h453, e453⟩ : ∃ z, T453.heap = z := ⟨_, rfl⟩
        rw [e453] at PC453
        have N453 := Fr.app M449 NC453
        refine own_by (B := T453.setTop (mkF m 143 #[VI ua, VI ub, VI uc, VI ud, VI 3, VI uA, VI uB, VI uC, VR ba, VR bb, VR bc, VR (A 0), VI (q447.1), VI (own_match (3 : Int32) uA uB uC)] [(.int 3), (.int (q452.1))])) (fun _ k => XS.iload X453.here hx rfl (hb hby at_141) rfl  k) ?_
        refine own_by (B := T453.setTop (mkF m 145 #[VI ua, VI ub, VI uc, VI ud, VI 3, VI uA, VI uB, VI uC, VR ba, VR bb, VR bc, VR (A 0), VI (q447.1), VI (own_match (3 : Int32) uA uB uC)] [(.int uA), (.int 3), (.int (q452.1))])) (fun _ k => XS.iload X453.here hx rfl (hb hby at_143) rfl  k) ?_
        refine own_by (B := T453.setTop (mkF m 147 #[VI ua, VI ub, VI uc, VI ud, VI 3, VI uA, VI uB, VI uC, VR ba, VR bb, VR bc, VR (A 0), VI (q447.1), VI (own_match (3 : Int32) uA uB uC)] [(.int uB), (.int uA), (.int 3), (.int (q452.1))])) (fun _ k => XS.iload X453.here hx rfl (hb hby at_145) rfl  k) ?_
        refine own_by (B := T453.setTop (mkF m 149 #[VI ua, VI ub, VI uc, VI ud, VI 3, VI uA, VI uB, VI uC, VR ba, VR bb, VR bc, VR (A 0), VI (q447.1), VI (own_match (3 : Int32) uA uB uC)] [(.int uC), (.int uB), (.int uA), (.int 3), (.int (q452.1))])) (fun _ k => XS.iload X453.here hx rfl (hb hby at_147) rfl  k) ?_
        obtain ⟨_, _, ⟨T454, L454, k454, n454⟩, -, X454, ⟨Lc454, hQ454, l454, y454, z454⟩, st454⟩ := Jvm.LawKit.callS X453 hx (y := (⟨"com/example/document_pattern_rules/documentpatternrules/pattern/PairingAddPinLaw", "lowestRef", "(IIII)I"⟩ : MethodName)) hown (mvT hZ (own_hw 84 hw rfl)) (mvT hZ (own_hw 85 hw rfl)) (mvT hZ (own_hw 2 hw rfl)) (mvT hZ (own_hw 86 hw rfl)) (by decide) (backOf (W := 1) (rm13 l Z a0 hw [] (3 : Int32) uA uB uC h453 n0 (Nat.le_trans (own_PS_gn PC453).1 (Nat.le_of_lt (own_PS_E PC453).lt))) hZ (own_hw 86 hw rfl) (own_hw 2 hw rfl) (by decide) (by decide)) (g := (mkF m 149 #[VI ua, VI ub, VI uc, VI ud, VI 3, VI uA, VI uB, VI uC, VR ba, VR bb, VR bc, VR (A 0), VI (q447.1), VI (own_match (3 : Int32) uA uB uC)] [(.int uC), (.int uB), (.int uA), (.int 3), (.int (q452.1))])) rfl (by rw [hml]; rfl) (argsL := [(.int 3), (.int uA), (.int uB), (.int uC)]) (rest := [(.int (q452.1))]) (lenOf pd_0__IIII_I rfl) rfl (by show 2 * 0 + _ ≤ _; exact Nat.le_of_eq rfl) (hb hby at_149) (fun _ _ => ⟨rfl, e453, (by decide : 16 + 0 ≤ _), (by decide : 64 + 0 ≤ _)⟩)
        dsimp only [Pt.U, Pt.locs, Pt.cells, Pt.slots] at X454 l454 y454 z454 st454 hQ454
        subst l454 y454 z454
        obtain ⟨rfl, N454, e454⟩ := hQ454
        refine own_by (B := T454.setTop (mkF m 152 #[VI ua, VI ub, VI uc, VI ud, VI 3, VI uA, VI uB, VI uC, VR ba, VR bb, VR bc, VR (A 0), VI (q447.1), VI (own_match (3 : Int32) uA uB uC)] [(.int (own_lref (3 : Int32) uA uB uC)), (.int (q452.1))])) st454 ?_
        have M454 := Fr.app N453 N454
        by_cases hc455 : (q452.1) = (own_lref (3 : Int32) uA uB uC)
        · rw [if_pos hc455] at hF
          refine own_by (B := T454.setTop (mkF m 155 #[VI ua, VI ub, VI uc, VI ud, VI 3, VI uA, VI uB, VI uC, VR ba, VR bb, VR bc, VR (A 0), VI (q447.1), VI (own_match (3 : Int32) uA uB uC)] [])) (fun _ k => XS.icmpNo X454.here hx rfl (hb hby at_152) rfl (XT.ii_ne_f hc455) k) ?_
          refine own_by (B := T454.setTop (mkF m 156 #[VI ua, VI ub, VI uc, VI ud, VI 3, VI uA, VI uB, VI uC, VR ba, VR bb, VR bc, VR (A 0), VI (q447.1), VI (own_match (3 : Int32) uA uB uC)] [(.int 1)])) (fun _ k => XS.iconst X454.here hx rfl (hb hby at_155) k) ?_
          refine own_by (B := T454.setTop (mkF m 160 #[VI ua, VI ub, VI uc, VI ud, VI 3, VI uA, VI uB, VI uC, VR ba, VR bb, VR bc, VR (A 0), VI (q447.1), VI (own_match (3 : Int32) uA uB uC)] [(.int 1)])) (fun _ k => XS.goto X454.here hx rfl (pc0 := 156) (pc' := 160) rfl (hb hby at_156) (by decide) (by decide) k) ?_
          exact own_retZ X454 hx hrt hlk rfl (hb hby at_160) (by decide) (by decide) ⟨rfl, M454⟩
        · rw [if_neg hc455] at hF
          refine own_by (B := T454.setTop (mkF m 159 #[VI ua, VI ub, VI uc, VI ud, VI 3, VI uA, VI uB, VI uC, VR ba, VR bb, VR bc, VR (A 0), VI (q447.1), VI (own_match (3 : Int32) uA uB uC)] [])) (fun _ k => XS.icmpYes X454.here hx rfl (pc0 := 152) (pc' := 159) rfl (hb hby at_152) rfl (XT.ii_ne_t hc455) (by decide) (by decide) k) ?_
          refine own_by (B := T454.setTop (mkF m 160 #[VI ua, VI ub, VI uc, VI ud, VI 3, VI uA, VI uB, VI uC, VR ba, VR bb, VR bc, VR (A 0), VI (q447.1), VI (own_match (3 : Int32) uA uB uC)] [(.int 0)])) (fun _ k => XS.iconst X454.here hx rfl (hb hby at_159) k) ?_
          exact absurd (Option.some.inj hF) (by decide)
    · rw [if_neg hc450] at hF
      refine own_by (B := T449.setTop (mkF m 121 #[VI ua, VI ub, VI uc, VI ud, VI 3, VI uA, VI uB, VI uC, VR ba, VR bb, VR bc, VR (A 0), VI (q447.1), VI (own_match (3 : Int32) uA uB uC)] [])) (fun _ k => XS.icmpNo X449.here hx rfl (hb hby at_118) rfl (XT.ii_eq_f hc450) k) ?_
      refine own_by (B := T449.setTop (mkF m 122 #[VI ua, VI ub, VI uc, VI ud, VI 3, VI uA, VI uB, VI uC, VR ba, VR bb, VR bc, VR (A 0), VI (q447.1), VI (own_match (3 : Int32) uA uB uC)] [(.int 0)])) (fun _ k => XS.iconst X449.here hx rfl (hb hby at_121) k) ?_
      exact absurd (Option.some.inj hF) (by decide)

set_option maxRecDepth 65536 in
set_option maxHeartbeats 40000000 in
theorem comes_1 {Post : Tables → Env → Array Value → State → Outcome → State → Prop} (hpost : ∀ tb e args s v u, (limb_1_1.after args s (.returned v) u = true ∧ limb_1_2.after args s (.returned v) u = true ∧ True) → FrameEnd s (.returned v) u (Jvm.fieldLocs frame_1_writes args s ++ Jvm.arrayLocs frame_1_arrays args s ++ Jvm.staticLocs frame_1_statics s) 40 192 → Post tb e args s (.returned v) u) :
    ArmFor flags0 classFile x code maxLocals ret World_1 tables_1 room_1 Calls_1 rest_1 Pre_1 Post := by
  intro l hfl _ _ p e ha hc hk s m args below hf hA hF happ hP
  obtain ⟨hcalls, hrest, hpre⟩ := hP
  obtain ⟨-, -, -, hnamed, -, -, -, hat⟩ := (Spec.applies_iff hf).mp happ
  obtain ⟨hg, hn⟩ := and_e (Cond.before_iff.mp (show (Jvm.Cond.and given_1 narrow_1).before args s = true from hpre))
  obtain ⟨hg1a, hg1b⟩ := and_e hg
  obtain ⟨hg2a, hg2b⟩ := and_e hg1b
  obtain ⟨hg3a, hg3b⟩ := and_e hg2b
  obtain ⟨hg4a, hg4b⟩ := and_e hg3b
  obtain ⟨w0, w1, w2, w3, rfl⟩ : ∃ w0 w1 w2 w3 : Value, args = #[w0, w1, w2, w3] := by
    have hs : args.size = 4 := by simpa [Cond.value, given_1] using hg1a
    obtain ⟨L⟩ := args
    match L, hs with
    | [w0, w1, w2, w3], _ => exact ⟨w0, w1, w2, w3, rfl⟩
  have hw := fun d (hd : d ∈ tables_1) => atoms_spec (ws := Jvm.Cond.code x code maxLocals ret :: tables_1) hat d (List.mem_cons_of_mem _ hd)
  have hfit : Fit s := fun {y c} hc i hi => by
    obtain ⟨ha, rfl⟩ := Array.getElem?_eq_some_iff.mp hc
    have q := List.all_eq_true.mp ((Array.all_eq_true_iff_forall_mem.mp hF) _ (Array.getElem_mem ha)) i (List.mem_range.mpr hi)
    simpa [Array.getElem?_eq_getElem hi] using q
  obtain ⟨i0, ei0⟩ := is_v hg2a
  obtain rfl : w0 = (.int i0) := Option.some.inj ei0
  obtain ⟨i1, ei1⟩ := is_v hg3a
  obtain rfl : w1 = (.int i1) := Option.some.inj ei1
  obtain ⟨i2, ei2⟩ := is_v hg4a
  obtain rfl : w2 = (.int i2) := Option.some.inj ei2
  obtain ⟨i3, ei3⟩ := is_v hg4b
  obtain rfl : w3 = (.int i3) := Option.some.inj ei3
  obtain ⟨n, o, h1, h2, h3, _, L, rfl, ⟨rfl, N⟩, hq⟩ := rm0 l s _ hw tables_1 i0 i1 i2 i3 s.heap s.heap.size (Nat.le_refl _) (Old.start s) p e ha hc hk s m _ below hf ((Spec.applies_iff_loose hf).mp happ).1 ⟨rfl, State.Warmed39.refl s, rfl⟩ trivial
  refine ⟨n, _, h1, h2, h3, hpost _ _ _ _ _ _ ⟨Cond.after_iff.mpr rfl, Cond.after_iff.mpr (eq_i res_at (Term.int_eval (1)) rfl), trivial⟩ ⟨hq.1, hq.2.1, (hq.2.2.sift fun y hy => Or.inr (N y hy)).mono (by decide) (by decide)⟩⟩
theorem main_1_1 : Claimed_1_1 := comes_1 fun _ _ _ _ _ _ h hF => ⟨h.1, hF⟩
theorem main_1_2 : Claimed_1_2 := comes_1 fun _ _ _ _ _ _ h hF => ⟨h.2.1, hF⟩
end Jvm.Pilot.@@N@@
namespace Jvm.Pilot.@@N@@
open Jvm Jvm.ClassFile Sem Op Lib Jvm.Free Jvm.Stand Jvm.Pilot.@@N@@.Jvm.D
/-! MADE BY PROGRAM (witnessworld.py) out of the Statement's table words and the real class files: 14 classes; the members and pool entries that the words name. The judged class is class 1, her method 6. -/
namespace start1
open Jvm.ClassFile
def u (s : String) : CpInfo := .utf8 (stringToUtf16 s)
/-- a pool by its gaps: so many unusable entries, then the entry; so many at the end -/
def gap : Nat → List CpInfo → List CpInfo
  | 0, r => r
  | n + 1, r => .unusable :: gap n r
def poolList (es : List (Nat × CpInfo)) (last : Nat) : List CpInfo := es.foldr (fun e r => gap e.1 (e.2 :: r)) (gap last [])
def pool (es : List (Nat × CpInfo)) (last : Nat) : Array CpInfo := ⟨poolList es last⟩
def fileOf (pool : Array CpInfo) (this : Nat) (attrs : Array Attribute := #[]) (ms : Array MethodInfo := #[]) (fl : Nat := 33) (sup : Nat := 0) (ifs : Array Nat := #[]) (fds : Array FieldInfo := #[]) : ClassFile where
  minorVersion := 0
  majorVersion := 65
  constantPool := pool
  accessFlags := fl
  thisClass := this
  superClass := sup
  interfaces := ifs
  fields := fds
  methods := ms
  attributes := attrs
def plain (name : String) (sup : Option ClassId) : Class where
  name := name
  kind := .ordinary
  loader := none
  accessFlags := 33
  super := sup
  interfaces := #[]
  cf := none
  fields := #[]
  methods := #[]
  instanceTypes := #[]
  staticTypes := #[]
  resolved := #[]
  callSites := []
  init := .initialized
  statics := none
  mirror := none

def pool0 : Array CpInfo := pool [(5, u "<init>"), (0, u "()V"), (1, .class_ 10), (1, u "java/lang/Object")] 113

def k0c0 : Code := { maxStack := 0, maxLocals := 1, code := object_method_1_code, exceptionTable := #[], attributes := #[] }
def k0m0 : Method := { name := "<init>", desc := "()V", sig := { parameters := [], returnType := none }, accessFlags := 1, code := some k0c0 }
/-- java/lang/Object -/
def k0 : Class := { plain "java/lang/Object" none with
  accessFlags := 33
  interfaces := #[]
  cf := some (fileOf pool0 8 #[] #[{ accessFlags := 1, nameIndex := 5, descriptorIndex := 6, attributes := #[] }] 33 0 #[] #[])
  fields := #[]
  methods := #[k0m0]
  instanceTypes := #[]
  staticTypes := #[]
  resolved := Array.replicate 124 none
  statics := none }

def pool1 : Array CpInfo := pool [(2, .class_ 4), (1, u "java/lang/Object"), (0, u "<init>"), (0, u "()V"), (0, .methodref 8 9), (0, .class_ 10), (0, .nameAndType 11 12), (0, u "com/example/document_pattern_rules/documentpatternrules/pattern/PairingAddPinLaw"), (0, u "pc"), (0, u "(I)I"), (0, .methodref 8 14), (0, .nameAndType 15 16), (0, u "match"), (0, u "(IIII)Z"), (0, .methodref 8 18), (0, .nameAndType 19 20), (0, u "feasible"), (0, u "(IIIII)Z"), (0, .methodref 8 22), (0, .nameAndType 23 24), (0, u "cols"), (0, u "(I)[I"), (0, .class_ 26), (0, u "com/example/document_pattern_rules/documentpatternrules/pattern/Pairing"), (0, .methodref 25 28), (0, .nameAndType 5 29), (0, u "(II)V"), (0, .methodref 25 31), (0, .nameAndType 32 33), (0, u "add"), (0, u "([I)V"), (0, .methodref 25 35), (0, .nameAndType 36 37), (0, u "complete"), (0, u "()Z"), (0, .methodref 25 39), (0, .nameAndType 40 12), (0, u "lowest"), (0, .methodref 8 42), (0, .nameAndType 43 44), (0, u "lowestRef"), (0, u "(IIII)I"), (5, u "law")] 2

def k1m0 : Method := { name := "<init>", desc := "()V", sig := { parameters := [], returnType := none }, accessFlags := 1, code := none }
def k1c1 : Code := { maxStack := 3, maxLocals := 4, code := method_2_code, exceptionTable := #[], attributes := #[] }
def k1m1 : Method := { name := "cols", desc := "(I)[I", sig := { parameters := [.int], returnType := some (.array .int) }, accessFlags := 10, code := some k1c1 }
def k1c2 : Code := { maxStack := 3, maxLocals := 1, code := method_3_code, exceptionTable := #[], attributes := #[] }
def k1m2 : Method := { name := "pc", desc := "(I)I", sig := { parameters := [.int], returnType := some .int }, accessFlags := 10, code := some k1c2 }
def k1c3 : Code := { maxStack := 2, maxLocals := 4, code := method_4_code, exceptionTable := #[], attributes := #[] }
def k1m3 : Method := { name := "match", desc := "(IIII)Z", sig := { parameters := [.int, .int, .int, .int], returnType := some .boolean }, accessFlags := 10, code := some k1c3 }
def k1c4 : Code := { maxStack := 5, maxLocals := 6, code := method_5_code, exceptionTable := #[], attributes := #[] }
def k1m4 : Method := { name := "feasible", desc := "(IIIII)Z", sig := { parameters := [.int, .int, .int, .int, .int], returnType := some .boolean }, accessFlags := 10, code := some k1c4 }
def k1c5 : Code := { maxStack := 5, maxLocals := 4, code := method_6_code, exceptionTable := #[], attributes := #[] }
def k1m5 : Method := { name := "lowestRef", desc := "(IIII)I", sig := { parameters := [.int, .int, .int, .int], returnType := some .int }, accessFlags := 10, code := some k1c5 }
def k1c6 : Code := { maxStack := 5, maxLocals := 14, code := code, exceptionTable := #[], attributes := #[] }
def k1m6 : Method := { name := "law", desc := "(IIII)Z", sig := { parameters := [.int, .int, .int, .int], returnType := some .boolean }, accessFlags := 9, code := some k1c6 }
/-- com/example/document_pattern_rules/documentpatternrules/pattern/PairingAddPinLaw -/
def k1 : Class := { plain "com/example/document_pattern_rules/documentpatternrules/pattern/PairingAddPinLaw" (some 0) with
  accessFlags := 49
  interfaces := #[]
  cf := some (fileOf pool1 8 #[] #[{ accessFlags := 1, nameIndex := 5, descriptorIndex := 6, attributes := #[] }, { accessFlags := 10, nameIndex := 23, descriptorIndex := 24, attributes := #[] }, { accessFlags := 10, nameIndex := 11, descriptorIndex := 12, attributes := #[] }, { accessFlags := 10, nameIndex := 15, descriptorIndex := 16, attributes := #[] }, { accessFlags := 10, nameIndex := 19, descriptorIndex := 20, attributes := #[] }, { accessFlags := 10, nameIndex := 43, descriptorIndex := 44, attributes := #[] }, { accessFlags := 9, nameIndex := 50, descriptorIndex := 16, attributes := #[] }] 49 2 #[] #[])
  fields := #[]
  methods := #[k1m0, k1m1, k1m2, k1m3, k1m4, k1m5, k1m6]
  instanceTypes := #[]
  staticTypes := #[]
  resolved := Array.replicate 53 none
  statics := none }

def pool2 : Array CpInfo := pool [(1, .methodref 2 3), (0, .class_ 4), (0, .nameAndType 5 6), (0, u "java/lang/Object"), (0, u "<init>"), (0, u "()V"), (0, .class_ 8), (0, u "[I"), (0, .fieldref 10 11), (0, .class_ 12), (0, .nameAndType 13 14), (0, u "com/example/document_pattern_rules/documentpatternrules/pattern/Pairing"), (0, u "fits"), (0, u "[[I"), (0, .fieldref 10 16), (0, .nameAndType 17 8), (0, u "kind"), (0, .fieldref 10 19), (0, .nameAndType 20 8), (0, u "partner"), (0, .fieldref 10 22), (0, .nameAndType 23 8), (0, u "holder"), (0, .fieldref 10 25), (0, .nameAndType 26 27), (0, u "fixed"), (0, u "[Z"), (0, .fieldref 10 29), (0, .nameAndType 30 31), (0, u "visited"), (0, u "[J"), (0, .fieldref 10 33), (0, .nameAndType 34 8), (0, u "path"), (0, .fieldref 10 36), (0, .nameAndType 37 8), (0, u "via"), (0, .fieldref 10 39), (0, .nameAndType 40 8), (0, u "ownFrom"), (0, .fieldref 10 42), (0, .nameAndType 43 31), (0, u "scanned"), (0, .fieldref 10 45), (0, .nameAndType 46 8), (0, u "next"), (0, .fieldref 10 48), (0, .nameAndType 49 8), (0, u "fixedFrom"), (0, .methodref 51 52), (0, .class_ 53), (0, .nameAndType 54 55), (0, u "java/util/Arrays"), (0, u "fill"), (0, u "([II)V"), (0, .fieldref 10 57), (0, .nameAndType 58 59), (0, u "rows"), (0, u "I"), (0, .methodref 10 61), (0, .nameAndType 62 63), (0, u "leave"), (0, u "(II)V"), (0, .fieldref 10 65), (0, .nameAndType 66 67), (0, u "searches"), (0, u "J"), (0, .methodref 10 69), (0, .nameAndType 70 71), (0, u "augment"), (0, u "(I)Z"), (0, .methodref 10 73), (0, .nameAndType 74 75), (0, u "take"), (0, u "(II)Z"), (6, .methodref 10 83), (0, .nameAndType 84 63), (0, u "hold"), (0, .methodref 51 86), (0, .nameAndType 87 88), (0, u "binarySearch"), (0, u "([II)I"), (0, .methodref 10 90), (0, .nameAndType 91 92), (0, u "nextColumn"), (0, u "(I)I"), (0, .methodref 51 94), (0, .nameAndType 87 95), (0, u "([IIII)I"), (0, u "NONE"), (4, u "add"), (0, u "([I)V"), (4, u "complete"), (0, u "()Z"), (0, u "lowest")] 3

def k2c0 : Code := { maxStack := 2, maxLocals := 3, code := prog_77_method_1_code, exceptionTable := #[], attributes := #[] }
def k2m0 : Method := { name := "<init>", desc := "(II)V", sig := { parameters := [.int, .int], returnType := none }, accessFlags := 0, code := some k2c0 }
def k2c1 : Code := { maxStack := 3, maxLocals := 2, code := prog_77_method_2_code, exceptionTable := #[], attributes := #[] }
def k2m1 : Method := { name := "add", desc := "([I)V", sig := { parameters := [(.array .int)], returnType := none }, accessFlags := 0, code := some k2c1 }
def k2c2 : Code := { maxStack := 5, maxLocals := 3, code := prog_77_method_5_code, exceptionTable := #[], attributes := #[] }
def k2m2 : Method := { name := "complete", desc := "()Z", sig := { parameters := [], returnType := some .boolean }, accessFlags := 0, code := some k2c2 }
def k2c3 : Code := { maxStack := 4, maxLocals := 7, code := prog_77_method_6_code, exceptionTable := #[], attributes := #[] }
def k2m3 : Method := { name := "lowest", desc := "(I)I", sig := { parameters := [.int], returnType := some .int }, accessFlags := 0, code := some k2c3 }
def k2c4 : Code := { maxStack := 5, maxLocals := 6, code := prog_77_method_8_code, exceptionTable := #[], attributes := #[] }
def k2m4 : Method := { name := "take", desc := "(II)Z", sig := { parameters := [.int, .int], returnType := some .boolean }, accessFlags := 2, code := some k2c4 }
def k2c5 : Code := { maxStack := 4, maxLocals := 10, code := prog_77_method_9_code, exceptionTable := #[], attributes := #[] }
def k2m5 : Method := { name := "augment", desc := "(I)Z", sig := { parameters := [.int], returnType := some .boolean }, accessFlags := 2, code := some k2c5 }
def k2c6 : Code := { maxStack := 4, maxLocals := 4, code := prog_77_method_10_code, exceptionTable := #[], attributes := #[] }
def k2m6 : Method := { name := "nextColumn", desc := "(I)I", sig := { parameters := [.int], returnType := some .int }, accessFlags := 2, code := some k2c6 }
def k2c7 : Code := { maxStack := 3, maxLocals := 3, code := prog_77_method_11_code, exceptionTable := #[], attributes := #[] }
def k2m7 : Method := { name := "hold", desc := "(II)V", sig := { parameters := [.int, .int], returnType := none }, accessFlags := 2, code := some k2c7 }
def k2c8 : Code := { maxStack := 6, maxLocals := 5, code := prog_77_method_12_code, exceptionTable := #[], attributes := #[] }
def k2m8 : Method := { name := "leave", desc := "(II)V", sig := { parameters := [.int, .int], returnType := none }, accessFlags := 2, code := some k2c8 }
/-- com/example/document_pattern_rules/documentpatternrules/pattern/Pairing -/
def k2 : Class := { plain "com/example/document_pattern_rules/documentpatternrules/pattern/Pairing" (some 0) with
  accessFlags := 48
  interfaces := #[]
  cf := some (fileOf pool2 10 #[] #[{ accessFlags := 0, nameIndex := 5, descriptorIndex := 63, attributes := #[] }, { accessFlags := 0, nameIndex := 101, descriptorIndex := 102, attributes := #[] }, { accessFlags := 0, nameIndex := 107, descriptorIndex := 108, attributes := #[] }, { accessFlags := 0, nameIndex := 109, descriptorIndex := 92, attributes := #[] }, { accessFlags := 2, nameIndex := 74, descriptorIndex := 75, attributes := #[] }, { accessFlags := 2, nameIndex := 70, descriptorIndex := 71, attributes := #[] }, { accessFlags := 2, nameIndex := 91, descriptorIndex := 92, attributes := #[] }, { accessFlags := 2, nameIndex := 84, descriptorIndex := 63, attributes := #[] }, { accessFlags := 2, nameIndex := 62, descriptorIndex := 63, attributes := #[] }] 48 2 #[] #[{ accessFlags := 26, nameIndex := 96, descriptorIndex := 59, attributes := #[] }, { accessFlags := 18, nameIndex := 13, descriptorIndex := 14, attributes := #[] }, { accessFlags := 18, nameIndex := 17, descriptorIndex := 8, attributes := #[] }, { accessFlags := 18, nameIndex := 20, descriptorIndex := 8, attributes := #[] }, { accessFlags := 18, nameIndex := 23, descriptorIndex := 8, attributes := #[] }, { accessFlags := 18, nameIndex := 26, descriptorIndex := 27, attributes := #[] }, { accessFlags := 18, nameIndex := 30, descriptorIndex := 31, attributes := #[] }, { accessFlags := 18, nameIndex := 34, descriptorIndex := 8, attributes := #[] }, { accessFlags := 18, nameIndex := 37, descriptorIndex := 8, attributes := #[] }, { accessFlags := 18, nameIndex := 40, descriptorIndex := 8, attributes := #[] }, { accessFlags := 18, nameIndex := 43, descriptorIndex := 31, attributes := #[] }, { accessFlags := 18, nameIndex := 46, descriptorIndex := 8, attributes := #[] }, { accessFlags := 18, nameIndex := 49, descriptorIndex := 8, attributes := #[] }, { accessFlags := 2, nameIndex := 66, descriptorIndex := 67, attributes := #[] }, { accessFlags := 2, nameIndex := 58, descriptorIndex := 59, attributes := #[] }])
  fields := #[{ name := "NONE", type := .int, accessFlags := 26, slot := 0, constantValue := 0 }, { name := "fits", type := (.array (.array .int)), accessFlags := 18, slot := 0, constantValue := 0 }, { name := "kind", type := (.array .int), accessFlags := 18, slot := 1, constantValue := 0 }, { name := "partner", type := (.array .int), accessFlags := 18, slot := 2, constantValue := 0 }, { name := "holder", type := (.array .int), accessFlags := 18, slot := 3, constantValue := 0 }, { name := "fixed", type := (.array .boolean), accessFlags := 18, slot := 4, constantValue := 0 }, { name := "visited", type := (.array .long), accessFlags := 18, slot := 5, constantValue := 0 }, { name := "path", type := (.array .int), accessFlags := 18, slot := 6, constantValue := 0 }, { name := "via", type := (.array .int), accessFlags := 18, slot := 7, constantValue := 0 }, { name := "ownFrom", type := (.array .int), accessFlags := 18, slot := 8, constantValue := 0 }, { name := "scanned", type := (.array .long), accessFlags := 18, slot := 9, constantValue := 0 }, { name := "next", type := (.array .int), accessFlags := 18, slot := 10, constantValue := 0 }, { name := "fixedFrom", type := (.array .int), accessFlags := 18, slot := 11, constantValue := 0 }, { name := "searches", type := .long, accessFlags := 2, slot := 12, constantValue := 0 }, { name := "rows", type := .int, accessFlags := 2, slot := 13, constantValue := 0 }]
  methods := #[k2m0, k2m1, k2m2, k2m3, k2m4, k2m5, k2m6, k2m7, k2m8]
  instanceTypes := #[(.array (.array .int)), (.array .int), (.array .int), (.array .int), (.array .boolean), (.array .long), (.array .int), (.array .int), (.array .int), (.array .long), (.array .int), (.array .int), .long, .int]
  staticTypes := #[.int]
  resolved := Array.replicate 113 none
  statics := none }

def pool3 : Array CpInfo := pool [(2, .class_ 4), (1, u "java/lang/Object"), (0, u "<init>"), (0, u "()V"), (6, .methodref 14 15), (0, .class_ 16), (0, .nameAndType 17 18), (0, u "java/util/Arrays"), (0, u "rangeCheck"), (0, u "(III)V"), (55, .class_ 76), (1, u "java/util/Arrays$NaturalOrder"), (36, .class_ 115), (1, u "java/util/Arrays$LegacyMergeSort"), (1, u "Z"), (89, u "binarySearch0"), (1, .methodref 14 210), (0, .nameAndType 207 211), (0, u "([IIII)I"), (163, .class_ 376), (0, u "java/util/Arrays$ArrayList"), (68, u "$assertionsDisabled"), (269, u "MIN_ARRAY_SORT_GRAN"), (0, u "I"), (2, u "INSERTIONSORT_THRESHOLD"), (74, u "binarySearch"), (4, u "([II)I"), (40, u "fill"), (4, u "([II)V"), (129, .class_ 976), (0, u "java/util/Arrays$ArrayItr")] 52

def k3m0 : Method := { name := "<init>", desc := "()V", sig := { parameters := [], returnType := none }, accessFlags := 2, code := none }
def k3c1 : Code := { maxStack := 4, maxLocals := 3, code := jdk_65_method_30_code, exceptionTable := #[], attributes := #[] }
def k3m1 : Method := { name := "rangeCheck", desc := "(III)V", sig := { parameters := [.int, .int, .int], returnType := none }, accessFlags := 8, code := some k3c1 }
def k3c2 : Code := { maxStack := 4, maxLocals := 2, code := jdk_65_method_57_code, exceptionTable := #[], attributes := #[] }
def k3m2 : Method := { name := "binarySearch", desc := "([II)I", sig := { parameters := [(.array .int), .int], returnType := some .int }, accessFlags := 9, code := some k3c2 }
def k3c3 : Code := { maxStack := 4, maxLocals := 4, code := jdk_65_method_58_code, exceptionTable := #[], attributes := #[] }
def k3m3 : Method := { name := "binarySearch", desc := "([IIII)I", sig := { parameters := [(.array .int), .int, .int, .int], returnType := some .int }, accessFlags := 9, code := some k3c3 }
def k3c4 : Code := { maxStack := 2, maxLocals := 8, code := jdk_65_method_59_code, exceptionTable := #[], attributes := #[] }
def k3m4 : Method := { name := "binarySearch0", desc := "([IIII)I", sig := { parameters := [(.array .int), .int, .int, .int], returnType := some .int }, accessFlags := 10, code := some k3c4 }
def k3c5 : Code := { maxStack := 3, maxLocals := 4, code := jdk_65_method_103_code, exceptionTable := #[], attributes := #[] }
def k3m5 : Method := { name := "fill", desc := "([II)V", sig := { parameters := [(.array .int), .int], returnType := none }, accessFlags := 9, code := some k3c5 }
/-- java/util/Arrays -/
def k3 : Class := { plain "java/util/Arrays" (some 0) with
  accessFlags := 49
  interfaces := #[]
  cf := some (fileOf pool3 14 #[.nestMembers #[975, 375, 113, 74]] #[{ accessFlags := 2, nameIndex := 5, descriptorIndex := 6, attributes := #[] }, { accessFlags := 8, nameIndex := 17, descriptorIndex := 18, attributes := #[] }, { accessFlags := 9, nameIndex := 794, descriptorIndex := 799, attributes := #[] }, { accessFlags := 9, nameIndex := 794, descriptorIndex := 211, attributes := #[] }, { accessFlags := 10, nameIndex := 207, descriptorIndex := 211, attributes := #[] }, { accessFlags := 9, nameIndex := 840, descriptorIndex := 845, attributes := #[] }] 49 2 #[] #[{ accessFlags := 26, nameIndex := 715, descriptorIndex := 716, attributes := #[] }, { accessFlags := 26, nameIndex := 719, descriptorIndex := 716, attributes := #[] }, { accessFlags := 4120, nameIndex := 445, descriptorIndex := 117, attributes := #[] }])
  fields := #[{ name := "MIN_ARRAY_SORT_GRAN", type := .int, accessFlags := 26, slot := 0, constantValue := 0 }, { name := "INSERTIONSORT_THRESHOLD", type := .int, accessFlags := 26, slot := 1, constantValue := 0 }, { name := "$assertionsDisabled", type := .boolean, accessFlags := 4120, slot := 2, constantValue := 0 }]
  methods := #[k3m0, k3m1, k3m2, k3m3, k3m4, k3m5]
  instanceTypes := #[]
  staticTypes := #[.int, .int, .boolean]
  resolved := Array.replicate 1029 none
  statics := none }

def pool4 : Array CpInfo := pool [(1, u "java/lang/Cloneable"), (0, .class_ 1), (0, u "java/lang/Object"), (0, .class_ 3)] 3

/-- java/lang/Cloneable -/
def k4 : Class := { plain "java/lang/Cloneable" (some 0) with
  accessFlags := 1537
  interfaces := #[]
  cf := some (fileOf pool4 2 #[] #[] 1537 4 #[] #[])
  fields := #[]
  methods := #[]
  instanceTypes := #[]
  staticTypes := #[]
  resolved := Array.replicate 8 none
  statics := none }

def pool5 : Array CpInfo := pool [(1, u "java/io/Serializable"), (0, .class_ 1), (0, u "java/lang/Object"), (0, .class_ 3)] 3

/-- java/io/Serializable -/
def k5 : Class := { plain "java/io/Serializable" (some 0) with
  accessFlags := 1537
  interfaces := #[]
  cf := some (fileOf pool5 2 #[] #[] 1537 4 #[] #[])
  fields := #[]
  methods := #[]
  instanceTypes := #[]
  staticTypes := #[]
  resolved := Array.replicate 8 none
  statics := none }

/-- the primitive boolean -/
def k6 : Class := { plain "boolean" none with kind := .primitive 'Z', accessFlags := 0x411 }
/-- [Z -/
def k7 : Class := { plain "[Z" (some 0) with kind := .array 6 .boolean, interfaces := #[4, 5], accessFlags := 1041 }

/-- the primitive byte -/
def k8 : Class := { plain "byte" none with kind := .primitive 'B', accessFlags := 0x411 }
/-- [B -/
def k9 : Class := { plain "[B" (some 0) with kind := .array 8 .byte, interfaces := #[4, 5], accessFlags := 1041 }

/-- the primitive int -/
def k10 : Class := { plain "int" none with kind := .primitive 'I', accessFlags := 0x411 }
/-- [I -/
def k11 : Class := { plain "[I" (some 0) with kind := .array 10 .int, interfaces := #[4, 5], accessFlags := 1041 }

/-- the primitive long -/
def k12 : Class := { plain "long" none with kind := .primitive 'J', accessFlags := 0x411 }
/-- [J -/
def k13 : Class := { plain "[J" (some 0) with kind := .array 12 .long, interfaces := #[4, 5], accessFlags := 1041 }

def heap : Heap := #[]
/-- [[I -/
def k14 : Class := { plain "[[I" (some 0) with kind := .array 11 (.array .int), interfaces := #[4, 5], accessFlags := 1041 }
def classes : Array Class := #[k0, k1, k2, k3, k4, k5, k6, k7, k8, k9, k10, k11, k12, k13, k14]
def interned : List (Array UInt16 × Addr) := []
def slotsUsed : Nat := 0
def theMethod : MethodId := ⟨1, 6⟩
def args0 : Array Value := #[.int 5, .int 7, .int 3, .int 9]
def aboutOver (below : List Frame) : State where
  vm := { classes := classes, interned := interned.toArray }
  heap := heap
  slotsUsed := slotsUsed
  threads := #[{ frames := .invoking theMethod args0 :: below }]
def below0 : List Frame := [.native { method := ⟨0, 0⟩, args := #[] }]
def about1 : State := aboutOver below0
def p0 : Program := .bare "" "" ""
def e0 : Env := launch0.env 0 0 0
theorem w_frames : about1.frames = Frame.invoking theMethod args0 :: below0 := rfl
set_option maxRecDepth 65536 in
theorem w_args : argsFit about1.vm theMethod args0 = true := by decide +kernel
set_option maxRecDepth 65536 in
theorem w_heap : heapFits about1 = true := by decide +kernel
set_option maxRecDepth 65536 in
theorem w_runnable : about1.curStatus? = some .runnable := by decide +kernel
set_option maxRecDepth 65536 in
theorem w_alone : about1.alone = true := by decide +kernel
set_option maxRecDepth 65536 in
theorem w_named : about1.methodNamed? x = some theMethod := by decide +kernel
set_option maxRecDepth 65536 in
theorem w_hears : about1.hears theMethod below0 = true := by decide +kernel
set_option maxRecDepth 65536 in
theorem w_ripe : about1.ripe theMethod args0 below0 = true := by decide +kernel
theorem w_running : about1.status = .running := rfl
set_option maxRecDepth 65536 in
theorem w_room : about1.hasRoom e0.platform room_1 = true :=
  launch0.hasRoom_least _ room_1 (by decide +kernel) (by decide +kernel) (by decide +kernel) (by decide +kernel) (by decide +kernel) (by decide +kernel)
theorem allAtoms_all (ts : List Jvm.Cond) (a : Array Jvm.Value) (st : Jvm.State) : (allAtoms ts).before a st = ts.all (fun c => c.before a st) := by
  induction ts with
  | nil => rfl
  | cons c t ih =>
    show (Jvm.Cond.and c (allAtoms t)).before a st = _
    rw [Jvm.Cond.before_and, ih, List.all_cons]
def words1 : List Jvm.Cond := Jvm.Cond.code x code maxLocals ret :: tables_1
/-- a 'code' word, met by the world's own term for the bytes: nothing is compared byte by byte -/
theorem code_word {y : MethodName} {bytes : ByteArray} {mx : Nat} {rt : Option FieldType} {a : Array Value} {s : State} {m : MethodId} {meth : Method} {c : Code} (h1 : s.methodNamed? y = some m) (h2 : s.vm.method? m = some meth) (h3 : meth.code = some c) (h4 : c.code = bytes)
    (h5 : (c.maxLocals == mx && c.exceptionTable.isEmpty && decide (c.maxStack ≤ mostOperands) && decide (meth.sig.returnType = rt) && !meth.locks && decide (parseMethodDescriptor y.desc = some meth.sig)) = true) : (Jvm.Cond.code y bytes mx rt).before a s = true := by
  simp only [Bool.and_eq_true, beq_iff_eq, Bool.not_eq_true', decide_eq_true_eq] at h5
  obtain ⟨⟨⟨⟨⟨g1, g2⟩, g3⟩, g4⟩, g5⟩, g6⟩ := h5
  simp [Cond.before, Cond.holds, Cond.value, h1, h2, h3, h4, g1, g2, g3, g4, g5, g6]
def isCode : Jvm.Cond → Bool
  | .code _ _ _ _ => true
  | _ => false
theorem all_split {L : List Jvm.Cond} {P : Jvm.Cond → Bool} (h1 : L.all (fun c => isCode c || P c) = true) (h2 : ∀ c ∈ L.filter isCode, P c = true) : L.all P = true := by
  refine List.all_eq_true.mpr fun c hc => ?_
  have h := List.all_eq_true.mp h1 c hc
  rcases Bool.eq_false_or_eq_true (isCode c) with hi | hi
  · exact h2 c (List.mem_filter.mpr ⟨hc, hi⟩)
  · simpa [hi] using h
set_option maxRecDepth 65536 in
theorem w_c0 : (Jvm.Cond.code x code maxLocals ret).before args0 about1 = true := code_word (m := ⟨1, 6⟩) (meth := k1m6) (c := k1c6) (by decide +kernel) rfl rfl rfl (by decide +kernel)
set_option maxRecDepth 65536 in
theorem w_c1 : (Jvm.Cond.code ({ cls := "com/example/document_pattern_rules/documentpatternrules/pattern/PairingAddPinLaw", name := "cols", desc := "(I)[I" } : Jvm.MethodName) method_2_code (4 : Nat) (Option.some (Jvm.ClassFile.FieldType.array Jvm.ClassFile.FieldType.int))).before args0 about1 = true := code_word (m := ⟨1, 1⟩) (meth := k1m1) (c := k1c1) (by decide +kernel) rfl rfl rfl (by decide +kernel)
set_option maxRecDepth 65536 in
theorem w_c2 : (Jvm.Cond.code ({ cls := "com/example/document_pattern_rules/documentpatternrules/pattern/PairingAddPinLaw", name := "pc", desc := "(I)I" } : Jvm.MethodName) method_3_code (1 : Nat) (Option.some Jvm.ClassFile.FieldType.int)).before args0 about1 = true := code_word (m := ⟨1, 2⟩) (meth := k1m2) (c := k1c2) (by decide +kernel) rfl rfl rfl (by decide +kernel)
set_option maxRecDepth 65536 in
theorem w_c3 : (Jvm.Cond.code ({ cls := "com/example/document_pattern_rules/documentpatternrules/pattern/Pairing", name := "<init>", desc := "(II)V" } : Jvm.MethodName) prog_77_method_1_code (3 : Nat) (Option.none : Option Jvm.ClassFile.FieldType)).before args0 about1 = true := code_word (m := ⟨2, 0⟩) (meth := k2m0) (c := k2c0) (by decide +kernel) rfl rfl rfl (by decide +kernel)
set_option maxRecDepth 65536 in
theorem w_c4 : (Jvm.Cond.code ({ cls := "java/lang/Object", name := "<init>", desc := "()V" } : Jvm.MethodName) object_method_1_code (1 : Nat) (Option.none : Option Jvm.ClassFile.FieldType)).before args0 about1 = true := code_word (m := ⟨0, 0⟩) (meth := k0m0) (c := k0c0) (by decide +kernel) rfl rfl rfl (by decide +kernel)
set_option maxRecDepth 65536 in
theorem w_c5 : (Jvm.Cond.code ({ cls := "java/util/Arrays", name := "fill", desc := "([II)V" } : Jvm.MethodName) jdk_65_method_103_code (4 : Nat) (Option.none : Option Jvm.ClassFile.FieldType)).before args0 about1 = true := code_word (m := ⟨3, 5⟩) (meth := k3m5) (c := k3c5) (by decide +kernel) rfl rfl rfl (by decide +kernel)
set_option maxRecDepth 65536 in
theorem w_c6 : (Jvm.Cond.code ({ cls := "com/example/document_pattern_rules/documentpatternrules/pattern/Pairing", name := "add", desc := "([I)V" } : Jvm.MethodName) prog_77_method_2_code (2 : Nat) (Option.none : Option Jvm.ClassFile.FieldType)).before args0 about1 = true := code_word (m := ⟨2, 1⟩) (meth := k2m1) (c := k2c1) (by decide +kernel) rfl rfl rfl (by decide +kernel)
set_option maxRecDepth 65536 in
theorem w_c7 : (Jvm.Cond.code ({ cls := "com/example/document_pattern_rules/documentpatternrules/pattern/Pairing", name := "complete", desc := "()Z" } : Jvm.MethodName) prog_77_method_5_code (3 : Nat) (Option.some Jvm.ClassFile.FieldType.boolean)).before args0 about1 = true := code_word (m := ⟨2, 2⟩) (meth := k2m2) (c := k2c2) (by decide +kernel) rfl rfl rfl (by decide +kernel)
set_option maxRecDepth 65536 in
theorem w_c8 : (Jvm.Cond.code ({ cls := "com/example/document_pattern_rules/documentpatternrules/pattern/Pairing", name := "augment", desc := "(I)Z" } : Jvm.MethodName) prog_77_method_9_code (10 : Nat) (Option.some Jvm.ClassFile.FieldType.boolean)).before args0 about1 = true := code_word (m := ⟨2, 5⟩) (meth := k2m5) (c := k2c5) (by decide +kernel) rfl rfl rfl (by decide +kernel)
set_option maxRecDepth 65536 in
theorem w_c9 : (Jvm.Cond.code ({ cls := "com/example/document_pattern_rules/documentpatternrules/pattern/Pairing", name := "nextColumn", desc := "(I)I" } : Jvm.MethodName) prog_77_method_10_code (4 : Nat) (Option.some Jvm.ClassFile.FieldType.int)).before args0 about1 = true := code_word (m := ⟨2, 6⟩) (meth := k2m6) (c := k2c6) (by decide +kernel) rfl rfl rfl (by decide +kernel)
set_option maxRecDepth 65536 in
theorem w_c10 : (Jvm.Cond.code ({ cls := "com/example/document_pattern_rules/documentpatternrules/pattern/PairingAddPinLaw", name := "match", desc := "(IIII)Z" } : Jvm.MethodName) method_4_code (4 : Nat) (Option.some Jvm.ClassFile.FieldType.boolean)).before args0 about1 = true := code_word (m := ⟨1, 3⟩) (meth := k1m3) (c := k1c3) (by decide +kernel) rfl rfl rfl (by decide +kernel)
set_option maxRecDepth 65536 in
theorem w_c11 : (Jvm.Cond.code ({ cls := "com/example/document_pattern_rules/documentpatternrules/pattern/Pairing", name := "hold", desc := "(II)V" } : Jvm.MethodName) prog_77_method_11_code (3 : Nat) (Option.none : Option Jvm.ClassFile.FieldType)).before args0 about1 = true := code_word (m := ⟨2, 7⟩) (meth := k2m7) (c := k2c7) (by decide +kernel) rfl rfl rfl (by decide +kernel)
set_option maxRecDepth 65536 in
theorem w_c12 : (Jvm.Cond.code ({ cls := "com/example/document_pattern_rules/documentpatternrules/pattern/Pairing", name := "lowest", desc := "(I)I" } : Jvm.MethodName) prog_77_method_6_code (7 : Nat) (Option.some Jvm.ClassFile.FieldType.int)).before args0 about1 = true := code_word (m := ⟨2, 3⟩) (meth := k2m3) (c := k2c3) (by decide +kernel) rfl rfl rfl (by decide +kernel)
set_option maxRecDepth 65536 in
theorem w_c13 : (Jvm.Cond.code ({ cls := "com/example/document_pattern_rules/documentpatternrules/pattern/PairingAddPinLaw", name := "lowestRef", desc := "(IIII)I" } : Jvm.MethodName) method_6_code (4 : Nat) (Option.some Jvm.ClassFile.FieldType.int)).before args0 about1 = true := code_word (m := ⟨1, 5⟩) (meth := k1m5) (c := k1c5) (by decide +kernel) rfl rfl rfl (by decide +kernel)
set_option maxRecDepth 65536 in
theorem w_c14 : (Jvm.Cond.code ({ cls := "com/example/document_pattern_rules/documentpatternrules/pattern/PairingAddPinLaw", name := "feasible", desc := "(IIIII)Z" } : Jvm.MethodName) method_5_code (6 : Nat) (Option.some Jvm.ClassFile.FieldType.boolean)).before args0 about1 = true := code_word (m := ⟨1, 4⟩) (meth := k1m4) (c := k1c4) (by decide +kernel) rfl rfl rfl (by decide +kernel)
set_option maxRecDepth 65536 in
theorem w_c15 : (Jvm.Cond.code ({ cls := "com/example/document_pattern_rules/documentpatternrules/pattern/Pairing", name := "leave", desc := "(II)V" } : Jvm.MethodName) prog_77_method_12_code (5 : Nat) (Option.none : Option Jvm.ClassFile.FieldType)).before args0 about1 = true := code_word (m := ⟨2, 8⟩) (meth := k2m8) (c := k2c8) (by decide +kernel) rfl rfl rfl (by decide +kernel)
set_option maxRecDepth 65536 in
theorem w_c16 : (Jvm.Cond.code ({ cls := "java/util/Arrays", name := "binarySearch", desc := "([IIII)I" } : Jvm.MethodName) jdk_65_method_58_code (4 : Nat) (Option.some Jvm.ClassFile.FieldType.int)).before args0 about1 = true := code_word (m := ⟨3, 3⟩) (meth := k3m3) (c := k3c3) (by decide +kernel) rfl rfl rfl (by decide +kernel)
set_option maxRecDepth 65536 in
theorem w_c17 : (Jvm.Cond.code ({ cls := "java/util/Arrays", name := "rangeCheck", desc := "(III)V" } : Jvm.MethodName) jdk_65_method_30_code (3 : Nat) (Option.none : Option Jvm.ClassFile.FieldType)).before args0 about1 = true := code_word (m := ⟨3, 1⟩) (meth := k3m1) (c := k3c1) (by decide +kernel) rfl rfl rfl (by decide +kernel)
set_option maxRecDepth 65536 in
theorem w_c18 : (Jvm.Cond.code ({ cls := "java/util/Arrays", name := "binarySearch0", desc := "([IIII)I" } : Jvm.MethodName) jdk_65_method_59_code (8 : Nat) (Option.some Jvm.ClassFile.FieldType.int)).before args0 about1 = true := code_word (m := ⟨3, 4⟩) (meth := k3m4) (c := k3c4) (by decide +kernel) rfl rfl rfl (by decide +kernel)
set_option maxRecDepth 65536 in
theorem w_c19 : (Jvm.Cond.code ({ cls := "com/example/document_pattern_rules/documentpatternrules/pattern/Pairing", name := "take", desc := "(II)Z" } : Jvm.MethodName) prog_77_method_8_code (6 : Nat) (Option.some Jvm.ClassFile.FieldType.boolean)).before args0 about1 = true := code_word (m := ⟨2, 4⟩) (meth := k2m4) (c := k2c4) (by decide +kernel) rfl rfl rfl (by decide +kernel)
set_option maxRecDepth 65536 in
theorem w_c20 : (Jvm.Cond.code ({ cls := "java/util/Arrays", name := "binarySearch", desc := "([II)I" } : Jvm.MethodName) jdk_65_method_57_code (2 : Nat) (Option.some Jvm.ClassFile.FieldType.int)).before args0 about1 = true := code_word (m := ⟨3, 2⟩) (meth := k3m2) (c := k3c2) (by decide +kernel) rfl rfl rfl (by decide +kernel)
def codes1 : List Jvm.Cond := [Jvm.Cond.code x code maxLocals ret, Jvm.Cond.code ({ cls := "com/example/document_pattern_rules/documentpatternrules/pattern/PairingAddPinLaw", name := "cols", desc := "(I)[I" } : Jvm.MethodName) method_2_code (4 : Nat) (Option.some (Jvm.ClassFile.FieldType.array Jvm.ClassFile.FieldType.int)), Jvm.Cond.code ({ cls := "com/example/document_pattern_rules/documentpatternrules/pattern/PairingAddPinLaw", name := "pc", desc := "(I)I" } : Jvm.MethodName) method_3_code (1 : Nat) (Option.some Jvm.ClassFile.FieldType.int), Jvm.Cond.code ({ cls := "com/example/document_pattern_rules/documentpatternrules/pattern/Pairing", name := "<init>", desc := "(II)V" } : Jvm.MethodName) prog_77_method_1_code (3 : Nat) (Option.none : Option Jvm.ClassFile.FieldType), Jvm.Cond.code ({ cls := "java/lang/Object", name := "<init>", desc := "()V" } : Jvm.MethodName) object_method_1_code (1 : Nat) (Option.none : Option Jvm.ClassFile.FieldType), Jvm.Cond.code ({ cls := "java/util/Arrays", name := "fill", desc := "([II)V" } : Jvm.MethodName) jdk_65_method_103_code (4 : Nat) (Option.none : Option Jvm.ClassFile.FieldType), Jvm.Cond.code ({ cls := "com/example/document_pattern_rules/documentpatternrules/pattern/Pairing", name := "add", desc := "([I)V" } : Jvm.MethodName) prog_77_method_2_code (2 : Nat) (Option.none : Option Jvm.ClassFile.FieldType), Jvm.Cond.code ({ cls := "com/example/document_pattern_rules/documentpatternrules/pattern/Pairing", name := "complete", desc := "()Z" } : Jvm.MethodName) prog_77_method_5_code (3 : Nat) (Option.some Jvm.ClassFile.FieldType.boolean), Jvm.Cond.code ({ cls := "com/example/document_pattern_rules/documentpatternrules/pattern/Pairing", name := "augment", desc := "(I)Z" } : Jvm.MethodName) prog_77_method_9_code (10 : Nat) (Option.some Jvm.ClassFile.FieldType.boolean), Jvm.Cond.code ({ cls := "com/example/document_pattern_rules/documentpatternrules/pattern/Pairing", name := "nextColumn", desc := "(I)I" } : Jvm.MethodName) prog_77_method_10_code (4 : Nat) (Option.some Jvm.ClassFile.FieldType.int), Jvm.Cond.code ({ cls := "com/example/document_pattern_rules/documentpatternrules/pattern/PairingAddPinLaw", name := "match", desc := "(IIII)Z" } : Jvm.MethodName) method_4_code (4 : Nat) (Option.some Jvm.ClassFile.FieldType.boolean), Jvm.Cond.code ({ cls := "com/example/document_pattern_rules/documentpatternrules/pattern/Pairing", name := "hold", desc := "(II)V" } : Jvm.MethodName) prog_77_method_11_code (3 : Nat) (Option.none : Option Jvm.ClassFile.FieldType), Jvm.Cond.code ({ cls := "com/example/document_pattern_rules/documentpatternrules/pattern/Pairing", name := "lowest", desc := "(I)I" } : Jvm.MethodName) prog_77_method_6_code (7 : Nat) (Option.some Jvm.ClassFile.FieldType.int), Jvm.Cond.code ({ cls := "com/example/document_pattern_rules/documentpatternrules/pattern/PairingAddPinLaw", name := "lowestRef", desc := "(IIII)I" } : Jvm.MethodName) method_6_code (4 : Nat) (Option.some Jvm.ClassFile.FieldType.int), Jvm.Cond.code ({ cls := "com/example/document_pattern_rules/documentpatternrules/pattern/PairingAddPinLaw", name := "feasible", desc := "(IIIII)Z" } : Jvm.MethodName) method_5_code (6 : Nat) (Option.some Jvm.ClassFile.FieldType.boolean), Jvm.Cond.code ({ cls := "com/example/document_pattern_rules/documentpatternrules/pattern/Pairing", name := "leave", desc := "(II)V" } : Jvm.MethodName) prog_77_method_12_code (5 : Nat) (Option.none : Option Jvm.ClassFile.FieldType), Jvm.Cond.code ({ cls := "java/util/Arrays", name := "binarySearch", desc := "([IIII)I" } : Jvm.MethodName) jdk_65_method_58_code (4 : Nat) (Option.some Jvm.ClassFile.FieldType.int), Jvm.Cond.code ({ cls := "java/util/Arrays", name := "rangeCheck", desc := "(III)V" } : Jvm.MethodName) jdk_65_method_30_code (3 : Nat) (Option.none : Option Jvm.ClassFile.FieldType), Jvm.Cond.code ({ cls := "java/util/Arrays", name := "binarySearch0", desc := "([IIII)I" } : Jvm.MethodName) jdk_65_method_59_code (8 : Nat) (Option.some Jvm.ClassFile.FieldType.int), Jvm.Cond.code ({ cls := "com/example/document_pattern_rules/documentpatternrules/pattern/Pairing", name := "take", desc := "(II)Z" } : Jvm.MethodName) prog_77_method_8_code (6 : Nat) (Option.some Jvm.ClassFile.FieldType.boolean), Jvm.Cond.code ({ cls := "java/util/Arrays", name := "binarySearch", desc := "([II)I" } : Jvm.MethodName) jdk_65_method_57_code (2 : Nat) (Option.some Jvm.ClassFile.FieldType.int)]
set_option maxRecDepth 65536 in
theorem codes_eq : words1.filter isCode = codes1 := rfl
theorem w_codes : ∀ c ∈ words1.filter isCode, c.before args0 about1 = true := by
  rw [codes_eq]
  intro c hc
  simp only [codes1, List.mem_cons, List.not_mem_nil, or_false] at hc
  rcases hc with rfl | rfl | rfl | rfl | rfl | rfl | rfl | rfl | rfl | rfl | rfl | rfl | rfl | rfl | rfl | rfl | rfl | rfl | rfl | rfl | rfl
  · exact w_c0
  · exact w_c1
  · exact w_c2
  · exact w_c3
  · exact w_c4
  · exact w_c5
  · exact w_c6
  · exact w_c7
  · exact w_c8
  · exact w_c9
  · exact w_c10
  · exact w_c11
  · exact w_c12
  · exact w_c13
  · exact w_c14
  · exact w_c15
  · exact w_c16
  · exact w_c17
  · exact w_c18
  · exact w_c19
  · exact w_c20
set_option maxRecDepth 65536 in
theorem w_t1 : (words1.take 24).all (fun c => isCode c || c.before args0 about1) = true := by decide +kernel
set_option maxRecDepth 65536 in
theorem w_t2 : ((words1.drop 24).take 24).all (fun c => isCode c || c.before args0 about1) = true := by decide +kernel
set_option maxRecDepth 65536 in
theorem w_t3 : (((words1.drop 24).drop 24).take 24).all (fun c => isCode c || c.before args0 about1) = true := by decide +kernel
set_option maxRecDepth 65536 in
theorem w_t4 : ((((words1.drop 24).drop 24).drop 24).take 24).all (fun c => isCode c || c.before args0 about1) = true := by decide +kernel
set_option maxRecDepth 65536 in
theorem w_t5 : ((((words1.drop 24).drop 24).drop 24).drop 24).all (fun c => isCode c || c.before args0 about1) = true := by decide +kernel
theorem w_tables : (allAtoms (Jvm.Cond.code x code maxLocals ret :: tables_1)).before args0 about1 = true := by
  rw [allAtoms_all]
  show words1.all (fun c => c.before args0 about1) = true
  refine all_split ?_ w_codes
  rw [← List.take_append_drop 24 words1, List.all_append, w_t1, ← List.take_append_drop 24 (words1.drop 24), List.all_append, w_t2, ← List.take_append_drop 24 ((words1.drop 24).drop 24), List.all_append, w_t3, ← List.take_append_drop 24 (((words1.drop 24).drop 24).drop 24), List.all_append, w_t4, w_t5]
  rfl
set_option maxRecDepth 65536 in
theorem w_case : (Jvm.Cond.and given_1 narrow_1).before args0 about1 = true := by decide +kernel
theorem w_applies : (headSpec (Jvm.Cond.code x code maxLocals ret :: tables_1) room_1).applies x e0.platform about1 = true :=
  (Spec.applies_iff w_frames).mpr ⟨w_running, w_runnable, w_alone, w_named, w_hears, w_ripe, w_room, w_tables⟩
theorem atStart : AtStart classFile x code maxLocals ret World_1 tables_1 room_1 Calls_1 rest_1 Pre_1 launch0 p0 e0 about1 theMethod args0 below0 :=
  ⟨lists_1, trivial, launch0.admits_env _ _ _, launch0.least_env, fairChoices_fair.cas, fairChoices_fair.clock, w_frames, w_args, w_heap, w_applies, trivial, trivial, w_case⟩
end start1
theorem witness_1 : WitnessClaimed_1 := ⟨start1.p0, start1.e0, start1.about1, start1.theMethod, start1.args0, start1.below0, start1.atStart⟩
end Jvm.Pilot.@@N@@
