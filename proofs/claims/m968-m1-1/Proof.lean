import JvmDerived
import JvmDerived.Pilot.@@N@@Statement
import JvmDerived.Pilot.@@N@@Code
set_option linter.unusedVariables false
set_option linter.unusedSimpArgs false

namespace Jvm.Pilot.@@N@@
open Jvm Jvm.ClassFile Sem Op Lib Jvm.Free Jvm.Stand Jvm.LawKit Jvm.RoadKit Bundle Jvm.Pilot.@@N@@.Jvm.D
/-! continuation style: from A the run comes to a state of which K holds -/
def own_Go (tb : Tables) (e : Env) (below : List Frame) (K : State → Prop) (A : State) : Prop := ∃ U, Steps tb e below A U ∧ K U
theorem own_by {tb : Tables} {e : Env} {below : List Frame} {K : State → Prop} {A B : State} (h : ∀ t, Steps tb e below B t → Steps tb e below A t) (k : own_Go tb e below K B) : own_Go tb e below K A := by
  obtain ⟨U, s, q⟩ := k; exact ⟨U, h U s, q⟩
def own_K (s : State) (below : List Frame) (Q : Option Value → Heap → List Loc → Prop) (kc ks : Nat) (U : State) : Prop :=
  ∃ v L, U.status = .running ∧ Ended U below (.returned v) ∧ Q v U.heap L ∧ FrameEnd s (.returned v) U L kc ks
theorem own_done {tb : Tables} {e : Env} {below : List Frame} {s A B : State} {Q : Option Value → Heap → List Loc → Prop} {kc ks : Nat} (h : ∀ t, Steps tb e below B t → Steps tb e below A t) (k : own_Go tb e below (own_K s below Q kc ks) B) :
    ∃ s₂ o, Steps tb e below A s₂ ∧ s₂.status = .running ∧ Ended s₂ below o ∧ ∃ v L, o = .returned v ∧ Q v s₂.heap L ∧ FrameEnd s o s₂ L kc ks := by
  obtain ⟨U, st, v, L, h1, h2, h3, h4⟩ := k
  exact ⟨U, _, h U st, h1, h2, v, L, rfl, h3, h4⟩
theorem own_cat1 (x : Int32) : Value.category (.int x) = 1 := rfl
theorem own_cat2 (x : Addr) : Value.category (.ref x) = 1 := rfl
theorem own_cat3 : Value.category .null = 1 := rfl
theorem own_cat4 (x : Int64) : Value.category (.long x) = 2 := rfl
section OwnRet
variable {p : Program} {l : Launch} {e : Env} {R : Room} {s : State} {m : MethodId} {args : Array Value} {below : List Frame} {meth : Method} {c : Code} {T : State} {locs : List Loc} {cells slots : Nat} {Q : Option Value → Heap → List Loc → Prop} {kc ks : Nat}
theorem own_retW (X : Stand p l e R s m args below meth c T locs cells slots) (hx : p.tables.exec = Jvm.exec) {pc : Nat} {Ls : Array Slot} {w : Value} {t : FieldType} {i : Instr} {rest : List Value} (hrt : meth.sig.returnType = some t) (hlk : meth.locks = false) (hn : narrow t w = w)
    (hi : (i = .ireturn ∧ (t = .int ∨ t = .boolean ∨ t = .byte ∨ t = .char ∨ t = .short) ∧ ∃ z, w = .int z) ∨ (i = .lreturn ∧ t = .long ∧ ∃ z, w = .long z) ∨ (i = .dreturn ∧ t = .double ∧ ∃ z, w = .double z) ∨ (i = .freturn ∧ t = .float ∧ ∃ z, w = .float z) ∨ (i = .areturn ∧ t.isReference = true ∧ w.isRef = true))
    (hd : decode c.code pc = .ok (i, 1)) (hc : cells ≤ kc) (hs : slots ≤ ks) (hq : Q (some w) T.heap locs) :
    own_Go p.tables e below (own_K s below Q kc ks) (T.setTop (mkF m pc Ls (w :: rest))) := by
  obtain ⟨fs, hr, hrun, hended, hW, hsame⟩ := X.leave (v := some w) (fun h => by rw [hrt] at h; cases h) hlk
  exact ⟨_, retOut X hx hrt hn hi hd hr, some w, locs, hrun, hended, hq, ⟨_, rfl⟩, hW, hsame.mono hc hs⟩
theorem own_retI (X : Stand p l e R s m args below meth c T locs cells slots) (hx : p.tables.exec = Jvm.exec) {pc : Nat} {Ls : Array Slot} {z : Int32} {rest : List Value} (hrt : meth.sig.returnType = some .int) (hlk : meth.locks = false)
    (hd : decode c.code pc = .ok (.ireturn, 1)) (hc : cells ≤ kc) (hs : slots ≤ ks) (hq : Q (some (.int z)) T.heap locs) :
    own_Go p.tables e below (own_K s below Q kc ks) (T.setTop (mkF m pc Ls (.int z :: rest))) :=
  own_retW X hx hrt hlk rfl (Or.inl ⟨rfl, Or.inl rfl, _, rfl⟩) hd hc hs hq
theorem own_retZ (X : Stand p l e R s m args below meth c T locs cells slots) (hx : p.tables.exec = Jvm.exec) {pc : Nat} {Ls : Array Slot} {z : Int32} {rest : List Value} (hrt : meth.sig.returnType = some .boolean) (hlk : meth.locks = false) (hn : narrow .boolean (.int z) = .int z)
    (hd : decode c.code pc = .ok (.ireturn, 1)) (hc : cells ≤ kc) (hs : slots ≤ ks) (hq : Q (some (.int z)) T.heap locs) :
    own_Go p.tables e below (own_K s below Q kc ks) (T.setTop (mkF m pc Ls (.int z :: rest))) :=
  own_retW X hx hrt hlk hn (Or.inl ⟨rfl, Or.inr (Or.inl rfl), _, rfl⟩) hd hc hs hq
theorem own_retJ (X : Stand p l e R s m args below meth c T locs cells slots) (hx : p.tables.exec = Jvm.exec) {pc : Nat} {Ls : Array Slot} {z : Int64} {rest : List Value} (hrt : meth.sig.returnType = some .long) (hlk : meth.locks = false)
    (hd : decode c.code pc = .ok (.lreturn, 1)) (hc : cells ≤ kc) (hs : slots ≤ ks) (hq : Q (some (.long z)) T.heap locs) :
    own_Go p.tables e below (own_K s below Q kc ks) (T.setTop (mkF m pc Ls (.long z :: rest))) :=
  own_retW X hx hrt hlk rfl (Or.inr (Or.inl ⟨rfl, rfl, _, rfl⟩)) hd hc hs hq
theorem own_retA (X : Stand p l e R s m args below meth c T locs cells slots) (hx : p.tables.exec = Jvm.exec) {pc : Nat} {Ls : Array Slot} {w : Value} {t : FieldType} {rest : List Value} (hrt : meth.sig.returnType = some t) (ht : t.isReference = true) (hw : w.isRef = true) (hlk : meth.locks = false)
    (hd : decode c.code pc = .ok (.areturn, 1)) (hc : cells ≤ kc) (hs : slots ≤ ks) (hq : Q (some w) T.heap locs) :
    own_Go p.tables e below (own_K s below Q kc ks) (T.setTop (mkF m pc Ls (w :: rest))) :=
  own_retW X hx hrt hlk (by rcases ref_cases hw with rfl | ⟨a, rfl⟩ <;> cases t <;> first | rfl | (cases ht)) (Or.inr (Or.inr (Or.inr (Or.inr ⟨rfl, ht, hw⟩)))) hd hc hs hq
theorem own_retV (X : Stand p l e R s m args below meth c T locs cells slots) (hx : p.tables.exec = Jvm.exec) {pc : Nat} {Ls : Array Slot} (hrt : meth.sig.returnType = none) (hlk : meth.locks = false)
    (hd : decode c.code pc = .ok (.return_, 1)) (hc : cells ≤ kc) (hs : slots ≤ ks) (hq : Q none T.heap locs) :
    own_Go p.tables e below (own_K s below Q kc ks) (T.setTop (mkF m pc Ls [])) := by
  obtain ⟨fs, hr, hrun, hended, hW, hsame⟩ := X.leave (v := none) (fun _ => rfl) hlk
  exact ⟨_, X.returnOut hx hrt hd hr, none, locs, hrun, hended, hq, ⟨_, rfl⟩, hW, hsame.mono hc hs⟩
theorem own_retB (X : Stand p l e R s m args below meth c T locs cells slots) (hx : p.tables.exec = Jvm.exec) {pc : Nat} {Ls : Array Slot} {z : Int32} {rest : List Value} (hrt : meth.sig.returnType = some .boolean) (hlk : meth.locks = false)
    (hd : decode c.code pc = .ok (.ireturn, 1)) (hc : cells ≤ kc) (hs : slots ≤ ks) (hq : Q (some (.int (z &&& (1 : Int32)))) T.heap locs) :
    own_Go p.tables e below (own_K s below Q kc ks) (T.setTop (mkF m pc Ls (.int z :: rest))) := by
  obtain ⟨fs, hr, hrun, hended, hW, hsame⟩ := X.leave (v := some (.int (nar .boolean z))) (fun h => by rw [hrt] at h; cases h) hlk
  exact ⟨_, retN X hx (t := .boolean) hrt (Or.inl rfl) hd hr, some (.int (nar .boolean z)), locs, hrun, hended, hq, ⟨_, rfl⟩, hW, hsame.mono hc hs⟩
end OwnRet
def own_P (r : Value) (h0 : Heap) (n0 : Nat) (v : Option Value) (h : Heap) (L : List Loc) : Prop := v = some r ∧ Fr n0 L ∧ h = h0
theorem own_eqvR {Z : State} {args : Array Value} {X F : Term} {idx : List Nat} {a : Addr} (hF : F.eval args Z none idx Z = some (.ref a)) (h : (Cond.eq X F).value args Z none Z idx = some true) : X.eval args Z none idx Z = some (.ref a) := by
  simp only [Cond.value, hF] at h
  cases hX : X.eval args Z none idx Z with
  | none => simp [hX] at h
  | some x => cases x <;> simp [hX] at h ⊢; exact h
theorem own_len {Z : State} {args : Array Value} {t : Term} {a : Addr} {cl : Cell} {ty : FieldType} {z : Int32} (h : (Term.length t).eval args Z none [] Z = some (.int z)) (ht : t.eval args Z none [] Z = some (.ref a)) (A : Arr Z Z.heap a cl ty) : cl.slots.size < 2 ^ 31 ∧ cl.slots.size.toInt32 = z := by
  have e : Z.arrayAt? a = some cl := A.fin (U := Z) (Vm.Alike.refl _)
  simp only [Term.eval, ht, e, Option.bind_eq_bind, Option.bind_some] at h
  split at h
  · rename_i q; exact ⟨q, by simpa using h⟩
  · simp at h

def own_W (Z : State) (h : Heap) (a_PUBLISH a_CONNACK a_SUBACK a_UNSUBACK a_PINGRESP a_DISCONNECT a_AUTH a_UNSUBSCRIBE a_PUBCOMP a_SUBSCRIBE a_CONNECT a_PUBACK a_PINGREQ a_PUBREL a_PUBREC a_BY_CODE : Addr) (k_BY_CODE : ClassId) : Prop := Sta Z h "com/example/mqtt_packet_codec/mqttpacketcodec/PacketType" "PUBLISH" "Lcom/example/mqtt_packet_codec/mqttpacketcodec/PacketType;" (.ref a_PUBLISH) ∧ Exa Z h a_PUBLISH "com/example/mqtt_packet_codec/mqttpacketcodec/PacketType" ∧ Sta Z h "com/example/mqtt_packet_codec/mqttpacketcodec/PacketType" "CONNACK" "Lcom/example/mqtt_packet_codec/mqttpacketcodec/PacketType;" (.ref a_CONNACK) ∧ Exa Z h a_CONNACK "com/example/mqtt_packet_codec/mqttpacketcodec/PacketType" ∧ Sta Z h "com/example/mqtt_packet_codec/mqttpacketcodec/PacketType" "SUBACK" "Lcom/example/mqtt_packet_codec/mqttpacketcodec/PacketType;" (.ref a_SUBACK) ∧ Exa Z h a_SUBACK "com/example/mqtt_packet_codec/mqttpacketcodec/PacketType" ∧ Sta Z h "com/example/mqtt_packet_codec/mqttpacketcodec/PacketType" "UNSUBACK" "Lcom/example/mqtt_packet_codec/mqttpacketcodec/PacketType;" (.ref a_UNSUBACK) ∧ Exa Z h a_UNSUBACK "com/example/mqtt_packet_codec/mqttpacketcodec/PacketType" ∧ Sta Z h "com/example/mqtt_packet_codec/mqttpacketcodec/PacketType" "PINGRESP" "Lcom/example/mqtt_packet_codec/mqttpacketcodec/PacketType;" (.ref a_PINGRESP) ∧ Exa Z h a_PINGRESP "com/example/mqtt_packet_codec/mqttpacketcodec/PacketType" ∧ Sta Z h "com/example/mqtt_packet_codec/mqttpacketcodec/PacketType" "DISCONNECT" "Lcom/example/mqtt_packet_codec/mqttpacketcodec/PacketType;" (.ref a_DISCONNECT) ∧ Exa Z h a_DISCONNECT "com/example/mqtt_packet_codec/mqttpacketcodec/PacketType" ∧ Sta Z h "com/example/mqtt_packet_codec/mqttpacketcodec/PacketType" "AUTH" "Lcom/example/mqtt_packet_codec/mqttpacketcodec/PacketType;" (.ref a_AUTH) ∧ Exa Z h a_AUTH "com/example/mqtt_packet_codec/mqttpacketcodec/PacketType" ∧ Sta Z h "com/example/mqtt_packet_codec/mqttpacketcodec/PacketType" "UNSUBSCRIBE" "Lcom/example/mqtt_packet_codec/mqttpacketcodec/PacketType;" (.ref a_UNSUBSCRIBE) ∧ Exa Z h a_UNSUBSCRIBE "com/example/mqtt_packet_codec/mqttpacketcodec/PacketType" ∧ Sta Z h "com/example/mqtt_packet_codec/mqttpacketcodec/PacketType" "PUBCOMP" "Lcom/example/mqtt_packet_codec/mqttpacketcodec/PacketType;" (.ref a_PUBCOMP) ∧ Exa Z h a_PUBCOMP "com/example/mqtt_packet_codec/mqttpacketcodec/PacketType" ∧ Sta Z h "com/example/mqtt_packet_codec/mqttpacketcodec/PacketType" "SUBSCRIBE" "Lcom/example/mqtt_packet_codec/mqttpacketcodec/PacketType;" (.ref a_SUBSCRIBE) ∧ Exa Z h a_SUBSCRIBE "com/example/mqtt_packet_codec/mqttpacketcodec/PacketType" ∧ Sta Z h "com/example/mqtt_packet_codec/mqttpacketcodec/PacketType" "CONNECT" "Lcom/example/mqtt_packet_codec/mqttpacketcodec/PacketType;" (.ref a_CONNECT) ∧ Exa Z h a_CONNECT "com/example/mqtt_packet_codec/mqttpacketcodec/PacketType" ∧ Sta Z h "com/example/mqtt_packet_codec/mqttpacketcodec/PacketType" "PUBACK" "Lcom/example/mqtt_packet_codec/mqttpacketcodec/PacketType;" (.ref a_PUBACK) ∧ Exa Z h a_PUBACK "com/example/mqtt_packet_codec/mqttpacketcodec/PacketType" ∧ Sta Z h "com/example/mqtt_packet_codec/mqttpacketcodec/PacketType" "PINGREQ" "Lcom/example/mqtt_packet_codec/mqttpacketcodec/PacketType;" (.ref a_PINGREQ) ∧ Exa Z h a_PINGREQ "com/example/mqtt_packet_codec/mqttpacketcodec/PacketType" ∧ Sta Z h "com/example/mqtt_packet_codec/mqttpacketcodec/PacketType" "PUBREL" "Lcom/example/mqtt_packet_codec/mqttpacketcodec/PacketType;" (.ref a_PUBREL) ∧ Exa Z h a_PUBREL "com/example/mqtt_packet_codec/mqttpacketcodec/PacketType" ∧ Sta Z h "com/example/mqtt_packet_codec/mqttpacketcodec/PacketType" "PUBREC" "Lcom/example/mqtt_packet_codec/mqttpacketcodec/PacketType;" (.ref a_PUBREC) ∧ Exa Z h a_PUBREC "com/example/mqtt_packet_codec/mqttpacketcodec/PacketType" ∧ Fld Z h a_PUBLISH "com/example/mqtt_packet_codec/mqttpacketcodec/PacketType" "code" "I" (.int (3 : Int32)) ∧ Fld Z h a_PUBLISH "java/lang/Enum" "ordinal" "I" (.int (2 : Int32)) ∧ Fld Z h a_CONNACK "java/lang/Enum" "ordinal" "I" (.int (1 : Int32)) ∧ Fld Z h a_SUBACK "java/lang/Enum" "ordinal" "I" (.int (8 : Int32)) ∧ Fld Z h a_UNSUBACK "java/lang/Enum" "ordinal" "I" (.int (10 : Int32)) ∧ Fld Z h a_PINGRESP "java/lang/Enum" "ordinal" "I" (.int (12 : Int32)) ∧ Fld Z h a_DISCONNECT "com/example/mqtt_packet_codec/mqttpacketcodec/PacketType" "code" "I" (.int (14 : Int32)) ∧ Fld Z h a_DISCONNECT "java/lang/Enum" "ordinal" "I" (.int (13 : Int32)) ∧ Fld Z h a_AUTH "com/example/mqtt_packet_codec/mqttpacketcodec/PacketType" "code" "I" (.int (15 : Int32)) ∧ Fld Z h a_AUTH "java/lang/Enum" "ordinal" "I" (.int (14 : Int32)) ∧ Fld Z h a_UNSUBSCRIBE "com/example/mqtt_packet_codec/mqttpacketcodec/PacketType" "code" "I" (.int (10 : Int32)) ∧ Fld Z h a_UNSUBSCRIBE "java/lang/Enum" "ordinal" "I" (.int (9 : Int32)) ∧ Fld Z h a_PUBCOMP "com/example/mqtt_packet_codec/mqttpacketcodec/PacketType" "code" "I" (.int (7 : Int32)) ∧ Fld Z h a_PUBCOMP "java/lang/Enum" "ordinal" "I" (.int (6 : Int32)) ∧ Fld Z h a_CONNACK "com/example/mqtt_packet_codec/mqttpacketcodec/PacketType" "code" "I" (.int (2 : Int32)) ∧ Fld Z h a_UNSUBACK "com/example/mqtt_packet_codec/mqttpacketcodec/PacketType" "code" "I" (.int (11 : Int32)) ∧ Fld Z h a_SUBSCRIBE "com/example/mqtt_packet_codec/mqttpacketcodec/PacketType" "code" "I" (.int (8 : Int32)) ∧ Fld Z h a_SUBSCRIBE "java/lang/Enum" "ordinal" "I" (.int (7 : Int32)) ∧ Fld Z h a_CONNECT "com/example/mqtt_packet_codec/mqttpacketcodec/PacketType" "code" "I" (.int (1 : Int32)) ∧ Fld Z h a_CONNECT "java/lang/Enum" "ordinal" "I" (.int (0 : Int32)) ∧ Fld Z h a_PUBACK "com/example/mqtt_packet_codec/mqttpacketcodec/PacketType" "code" "I" (.int (4 : Int32)) ∧ Fld Z h a_PUBACK "java/lang/Enum" "ordinal" "I" (.int (3 : Int32)) ∧ Fld Z h a_PINGREQ "com/example/mqtt_packet_codec/mqttpacketcodec/PacketType" "code" "I" (.int (12 : Int32)) ∧ Fld Z h a_PINGREQ "java/lang/Enum" "ordinal" "I" (.int (11 : Int32)) ∧ Fld Z h a_PINGRESP "com/example/mqtt_packet_codec/mqttpacketcodec/PacketType" "code" "I" (.int (13 : Int32)) ∧ Fld Z h a_PUBREL "com/example/mqtt_packet_codec/mqttpacketcodec/PacketType" "code" "I" (.int (6 : Int32)) ∧ Fld Z h a_PUBREL "java/lang/Enum" "ordinal" "I" (.int (5 : Int32)) ∧ Fld Z h a_SUBACK "com/example/mqtt_packet_codec/mqttpacketcodec/PacketType" "code" "I" (.int (9 : Int32)) ∧ Fld Z h a_PUBREC "com/example/mqtt_packet_codec/mqttpacketcodec/PacketType" "code" "I" (.int (5 : Int32)) ∧ Fld Z h a_PUBREC "java/lang/Enum" "ordinal" "I" (.int (4 : Int32)) ∧ Sta Z h "com/example/mqtt_packet_codec/mqttpacketcodec/PacketType" "BY_CODE" "[Lcom/example/mqtt_packet_codec/mqttpacketcodec/PacketType;" (.ref a_BY_CODE) ∧ Arv Z h a_BY_CODE k_BY_CODE (Jvm.ClassFile.FieldType.object "com/example/mqtt_packet_codec/mqttpacketcodec/PacketType") (16 : Int32) [.null, (.ref a_CONNECT), (.ref a_CONNACK), (.ref a_PUBLISH), (.ref a_PUBACK), (.ref a_PUBREC), (.ref a_PUBREL), (.ref a_PUBCOMP), (.ref a_SUBSCRIBE), (.ref a_SUBACK), (.ref a_UNSUBSCRIBE), (.ref a_UNSUBACK), (.ref a_PINGREQ), (.ref a_PINGRESP), (.ref a_DISCONNECT), (.ref a_AUTH)] .null

theorem own_enum16 {z : Int32} (h0 : 0 ≤ z.toInt) (h1 : z.toInt < 16) : z = (0 : Int32) ∨ z = (1 : Int32) ∨ z = (2 : Int32) ∨ z = (3 : Int32) ∨ z = (4 : Int32) ∨ z = (5 : Int32) ∨ z = (6 : Int32) ∨ z = (7 : Int32) ∨ z = (8 : Int32) ∨ z = (9 : Int32) ∨ z = (10 : Int32) ∨ z = (11 : Int32) ∨ z = (12 : Int32) ∨ z = (13 : Int32) ∨ z = (14 : Int32) ∨ z = (15 : Int32) := by
  have h : z.toInt = 0 ∨ z.toInt = 1 ∨ z.toInt = 2 ∨ z.toInt = 3 ∨ z.toInt = 4 ∨ z.toInt = 5 ∨ z.toInt = 6 ∨ z.toInt = 7 ∨ z.toInt = 8 ∨ z.toInt = 9 ∨ z.toInt = 10 ∨ z.toInt = 11 ∨ z.toInt = 12 ∨ z.toInt = 13 ∨ z.toInt = 14 ∨ z.toInt = 15 := by omega
  rcases h with h | h | h | h | h | h | h | h | h | h | h | h | h | h | h | h
  · exact Or.inl (Int32.toInt_inj.mp (h.trans (by decide)))
  · exact Or.inr (Or.inl (Int32.toInt_inj.mp (h.trans (by decide))))
  · exact Or.inr (Or.inr (Or.inl (Int32.toInt_inj.mp (h.trans (by decide)))))
  · exact Or.inr (Or.inr (Or.inr (Or.inl (Int32.toInt_inj.mp (h.trans (by decide))))))
  · exact Or.inr (Or.inr (Or.inr (Or.inr (Or.inl (Int32.toInt_inj.mp (h.trans (by decide)))))))
  · exact Or.inr (Or.inr (Or.inr (Or.inr (Or.inr (Or.inl (Int32.toInt_inj.mp (h.trans (by decide))))))))
  · exact Or.inr (Or.inr (Or.inr (Or.inr (Or.inr (Or.inr (Or.inl (Int32.toInt_inj.mp (h.trans (by decide)))))))))
  · exact Or.inr (Or.inr (Or.inr (Or.inr (Or.inr (Or.inr (Or.inr (Or.inl (Int32.toInt_inj.mp (h.trans (by decide))))))))))
  · exact Or.inr (Or.inr (Or.inr (Or.inr (Or.inr (Or.inr (Or.inr (Or.inr (Or.inl (Int32.toInt_inj.mp (h.trans (by decide)))))))))))
  · exact Or.inr (Or.inr (Or.inr (Or.inr (Or.inr (Or.inr (Or.inr (Or.inr (Or.inr (Or.inl (Int32.toInt_inj.mp (h.trans (by decide))))))))))))
  · exact Or.inr (Or.inr (Or.inr (Or.inr (Or.inr (Or.inr (Or.inr (Or.inr (Or.inr (Or.inr (Or.inl (Int32.toInt_inj.mp (h.trans (by decide)))))))))))))
  · exact Or.inr (Or.inr (Or.inr (Or.inr (Or.inr (Or.inr (Or.inr (Or.inr (Or.inr (Or.inr (Or.inr (Or.inl (Int32.toInt_inj.mp (h.trans (by decide))))))))))))))
  · exact Or.inr (Or.inr (Or.inr (Or.inr (Or.inr (Or.inr (Or.inr (Or.inr (Or.inr (Or.inr (Or.inr (Or.inr (Or.inl (Int32.toInt_inj.mp (h.trans (by decide)))))))))))))))
  · exact Or.inr (Or.inr (Or.inr (Or.inr (Or.inr (Or.inr (Or.inr (Or.inr (Or.inr (Or.inr (Or.inr (Or.inr (Or.inr (Or.inl (Int32.toInt_inj.mp (h.trans (by decide))))))))))))))))
  · exact Or.inr (Or.inr (Or.inr (Or.inr (Or.inr (Or.inr (Or.inr (Or.inr (Or.inr (Or.inr (Or.inr (Or.inr (Or.inr (Or.inr (Or.inl (Int32.toInt_inj.mp (h.trans (by decide)))))))))))))))))
  · exact Or.inr (Or.inr (Or.inr (Or.inr (Or.inr (Or.inr (Or.inr (Or.inr (Or.inr (Or.inr (Or.inr (Or.inr (Or.inr (Or.inr (Or.inr ((Int32.toInt_inj.mp (h.trans (by decide))))))))))))))))))

def own_at (i : Nat) (a_CONNECT a_CONNACK a_PUBLISH a_PUBACK a_PUBREC a_PUBREL a_PUBCOMP a_SUBSCRIBE a_SUBACK a_UNSUBSCRIBE a_UNSUBACK a_PINGREQ a_PINGRESP a_DISCONNECT a_AUTH : Addr) : Value := List.getD [.null, (.ref a_CONNECT), (.ref a_CONNACK), (.ref a_PUBLISH), (.ref a_PUBACK), (.ref a_PUBREC), (.ref a_PUBREL), (.ref a_PUBCOMP), (.ref a_SUBSCRIBE), (.ref a_SUBACK), (.ref a_UNSUBSCRIBE), (.ref a_UNSUBACK), (.ref a_PINGREQ), (.ref a_PINGRESP), (.ref a_DISCONNECT), (.ref a_AUTH)] i .null

theorem own_at_ref (i : Nat) (a_CONNECT a_CONNACK a_PUBLISH a_PUBACK a_PUBREC a_PUBREL a_PUBCOMP a_SUBSCRIBE a_SUBACK a_UNSUBSCRIBE a_UNSUBACK a_PINGREQ a_PINGRESP a_DISCONNECT a_AUTH : Addr) : (own_at i a_CONNECT a_CONNACK a_PUBLISH a_PUBACK a_PUBREC a_PUBREL a_PUBCOMP a_SUBSCRIBE a_SUBACK a_UNSUBSCRIBE a_UNSUBACK a_PINGREQ a_PINGRESP a_DISCONNECT a_AUTH).isRef = true := by
  unfold own_at
  match i with
  | 0 => rfl
  | 1 => rfl
  | 2 => rfl
  | 3 => rfl
  | 4 => rfl
  | 5 => rfl
  | 6 => rfl
  | 7 => rfl
  | 8 => rfl
  | 9 => rfl
  | 10 => rfl
  | 11 => rfl
  | 12 => rfl
  | 13 => rfl
  | 14 => rfl
  | 15 => rfl
  | _ + 16 => rfl

def own_f1 (ua : Int32) (a_CONNECT : Addr) (a_CONNACK : Addr) (a_PUBLISH : Addr) (a_PUBACK : Addr) (a_PUBREC : Addr) (a_PUBREL : Addr) (a_PUBCOMP : Addr) (a_SUBSCRIBE : Addr) (a_SUBACK : Addr) (a_UNSUBSCRIBE : Addr) (a_UNSUBACK : Addr) (a_PINGREQ : Addr) (a_PINGRESP : Addr) (a_DISCONNECT : Addr) (a_AUTH : Addr) : Value := if ua < (0 : Int32) then .null else if ua < (16 : Int32) then (own_at (ua).toNatClampNeg a_CONNECT a_CONNACK a_PUBLISH a_PUBACK a_PUBREC a_PUBREL a_PUBCOMP a_SUBSCRIBE a_SUBACK a_UNSUBSCRIBE a_UNSUBACK a_PINGREQ a_PINGRESP a_DISCONNECT a_AUTH) else .null

theorem d1_0 : decode prog_30_method_4_code 0 = .ok (.aconst_null, 1) := by decide +kernel
theorem d1_1 : decode prog_30_method_4_code 1 = .ok (.astore_n 1, 1) := by decide +kernel
theorem d1_2 : decode prog_30_method_4_code 2 = .ok (.iload_n 0, 1) := by decide +kernel
theorem d1_3 : decode prog_30_method_4_code 3 = .ok (.ifCond .lt 17, 3) := by decide +kernel
theorem d1_6 : decode prog_30_method_4_code 6 = .ok (.iload_n 0, 1) := by decide +kernel
theorem d1_7 : decode prog_30_method_4_code 7 = .ok (.getstatic 79, 3) := by decide +kernel
theorem d1_10 : decode prog_30_method_4_code 10 = .ok (.arraylength, 1) := by decide +kernel
theorem d1_11 : decode prog_30_method_4_code 11 = .ok (.if_icmp .ge 9, 3) := by decide +kernel
theorem d1_14 : decode prog_30_method_4_code 14 = .ok (.getstatic 79, 3) := by decide +kernel
theorem d1_17 : decode prog_30_method_4_code 17 = .ok (.iload_n 0, 1) := by decide +kernel
theorem d1_18 : decode prog_30_method_4_code 18 = .ok (.aaload, 1) := by decide +kernel
theorem d1_19 : decode prog_30_method_4_code 19 = .ok (.astore_n 1, 1) := by decide +kernel
theorem d1_20 : decode prog_30_method_4_code 20 = .ok (.aload_n 1, 1) := by decide +kernel
theorem d1_21 : decode prog_30_method_4_code 21 = .ok (.areturn, 1) := by decide +kernel
theorem pn_rm1 : plainFor (⟨"com/example/mqtt_packet_codec/mqttpacketcodec/PacketType", "fromCode", "(I)Lcom/example/mqtt_packet_codec/mqttpacketcodec/PacketType;"⟩ : MethodName) = true := by first | exact plainFor_of_name (by first | (simp [plainName, overriddenIn]; done) | decide +kernel) | exact Jvm.Free.JP.mathPlain rfl (by decide +kernel) | decide +kernel
theorem ef_rm1 (m : MethodId) (x0 : Int32) : entryFrame m #[(.int x0)] 2 = mkF m 0 #[.val (.int x0), .unset] [] := by first | (simp [entryFrame, mkF, argsToLocals, Value.category]; done) | rfl
set_option maxRecDepth 65536 in
set_option maxHeartbeats 40000000 in
theorem rm1 (l : Launch) (Z : State) (a0 : Array Value) (hw : ∀ d ∈ tables_1, d.before a0 Z = true) (ws : List Jvm.Cond) (a_PUBLISH a_CONNACK a_SUBACK a_UNSUBACK a_PINGRESP a_DISCONNECT a_AUTH a_UNSUBSCRIBE a_PUBCOMP a_SUBSCRIBE a_CONNECT a_PUBACK a_PINGREQ a_PUBREL a_PUBREC a_BY_CODE : Addr) (k_BY_CODE : ClassId) (ua : Int32) (h0 : Heap) (n0 : Nat) (Z0 : n0 ≤ h0.size) (HW : own_W Z h0 a_PUBLISH a_CONNACK a_SUBACK a_UNSUBACK a_PINGRESP a_DISCONNECT a_AUTH a_UNSUBSCRIBE a_PUBCOMP a_SUBSCRIBE a_CONNECT a_PUBACK a_PINGREQ a_PUBREL a_PUBREC a_BY_CODE k_BY_CODE) :
    MetFree l (⟨"com/example/mqtt_packet_codec/mqttpacketcodec/PacketType", "fromCode", "(I)Lcom/example/mqtt_packet_codec/mqttpacketcodec/PacketType;"⟩ : MethodName) (head1 (Jvm.Cond.code (⟨"com/example/mqtt_packet_codec/mqttpacketcodec/PacketType", "fromCode", "(I)Lcom/example/mqtt_packet_codec/mqttpacketcodec/PacketType;"⟩ : MethodName) prog_30_method_4_code 2 (some (.object "com/example/mqtt_packet_codec/mqttpacketcodec/PacketType")) :: ws) ({ frames := 0, cells := 0, slots := 0, locals := 0 } : Room)) (fun a U => a = #[(.int ua)] ∧ Z.Warmed39 U.vm ∧ U.heap = h0) (fun _ _ _ _ _ => True) (fun _ U o U' => ∃ v L, o = .returned v ∧ (own_P (own_f1 ua a_CONNECT a_CONNACK a_PUBLISH a_PUBACK a_PUBREC a_PUBREL a_PUBCOMP a_SUBSCRIBE a_SUBACK a_UNSUBSCRIBE a_UNSUBACK a_PINGREQ a_PINGRESP a_DISCONNECT a_AUTH) h0 n0) v U'.heap L ∧ FrameEnd U o U' L 0 0) := by
  refine MetFree.of_bodySF pn_rm1 hisR ?_
  intro p e s m args below meth c s₁ Bd hml0 hP hK
  obtain ⟨rfl, hZ, hh⟩ := hP
  have hx := Bd.exec
  have hby := Bd.bytes
  have hml : c.maxLocals = 2 := hml0
  have hown : s.vm.findClass "com/example/mqtt_packet_codec/mqttpacketcodec/PacketType" = some m.cls := findClass_of_methodNamed Bd.named
  have hnm := (name_of_methodNamed Bd.named Bd.method).1
  have hrt := Bd.returns
  have hlk := Bd.notSynchronized
  have X0 : Stand p l e ({ frames := 0, cells := 0, slots := 0, locals := 0 } : Room) s m #[(.int ua)] below meth c s₁ [] 0 0 := Stand.of_body Bd
  have e0 : s₁.heap = h0 := by rw [← hh, Bd.state]; rfl
  have N0 := Fr.nil n0
  obtain ⟨S_PUBLISH, E_PUBLISH, S_CONNACK, E_CONNACK, S_SUBACK, E_SUBACK, S_UNSUBACK, E_UNSUBACK, S_PINGRESP, E_PINGRESP, S_DISCONNECT, E_DISCONNECT, S_AUTH, E_AUTH, S_UNSUBSCRIBE, E_UNSUBSCRIBE, S_PUBCOMP, E_PUBCOMP, S_SUBSCRIBE, E_SUBSCRIBE, S_CONNECT, E_CONNECT, S_PUBACK, E_PUBACK, S_PINGREQ, E_PINGREQ, S_PUBREL, E_PUBREL, S_PUBREC, E_PUBREC, F_PUBLISH_code, F_PUBLISH_ordinal, F_CONNACK_ordinal, F_SUBACK_ordinal, F_UNSUBACK_ordinal, F_PINGRESP_ordinal, F_DISCONNECT_code, F_DISCONNECT_ordinal, F_AUTH_code, F_AUTH_ordinal, F_UNSUBSCRIBE_code, F_UNSUBSCRIBE_ordinal, F_PUBCOMP_code, F_PUBCOMP_ordinal, F_CONNACK_code, F_UNSUBACK_code, F_SUBSCRIBE_code, F_SUBSCRIBE_ordinal, F_CONNECT_code, F_CONNECT_ordinal, F_PUBACK_code, F_PUBACK_ordinal, F_PINGREQ_code, F_PINGREQ_ordinal, F_PINGRESP_code, F_PUBREL_code, F_PUBREL_ordinal, F_SUBACK_code, F_PUBREC_code, F_PUBREC_ordinal, S_BY_CODE, V_BY_CODE⟩ := HW
  refine own_done (B := s₁.setTop (mkF m 0 #[.val (.int ua), .unset] [])) (fun t k => castTop (ef_rm1 m ua) k) ?_
  refine own_by (B := s₁.setTop (mkF m 1 #[.val (.int ua), .unset] [.null])) (fun _ k => XS.aconstNull X0.here hx rfl (hb hby d1_0) k) ?_
  refine own_by (B := s₁.setTop (mkF m 2 #[.val (.int ua), .val .null] [])) (fun _ k => XS.astoreN X0.here hx rfl (hb hby d1_1) rfl rfl (l' := #[.val (.int ua), .val .null]) rfl k) ?_
  refine own_by (B := s₁.setTop (mkF m 3 #[.val (.int ua), .val .null] [(.int ua)])) (fun _ k => XS.iloadN X0.here hx rfl (hb hby d1_2) rfl  k) ?_
  by_cases hc1 : ua < (0 : Int32)
  · refine own_by (B := s₁.setTop (mkF m 20 #[.val (.int ua), .val .null] [])) (fun _ k => XS.ifYes X0.here hx rfl (pc0 := 3) (pc' := 20) rfl (hb hby d1_3) rfl (XT.i0_lt_t hc1) (by decide) (by decide) k) ?_
    refine own_by (B := s₁.setTop (mkF m 21 #[.val (.int ua), .val .null] [.null])) (fun _ k => XS.aloadN X0.here hx rfl (hb hby d1_20) rfl rfl  k) ?_
    exact own_retA X0 hx hrt rfl rfl hlk (hb hby d1_21) (by decide) (by decide) ⟨(by unfold own_f1; rw [if_pos hc1]), N0, e0⟩
  · refine own_by (B := s₁.setTop (mkF m 6 #[.val (.int ua), .val .null] [])) (fun _ k => XS.ifNo X0.here hx rfl (hb hby d1_3) rfl (XT.i0_lt_f hc1) k) ?_
    refine own_by (B := s₁.setTop (mkF m 7 #[.val (.int ua), .val .null] [(.int ua)])) (fun _ k => XS.iloadN X0.here hx rfl (hb hby d1_6) rfl  k) ?_
    obtain ⟨T2, X2, e2, st2⟩ := getS2 X0 hx hZ hown (host := "") (Or.inl (hw _ (List.mem_of_getElem? (i := 4) rfl))) Via.refl e0 S_BY_CODE (g := (mkF m 7 #[.val (.int ua), .val .null] [(.int ua)])) rfl (hb hby d1_7)
    refine own_by (B := T2.setTop (mkF m 10 #[.val (.int ua), .val .null] [(.ref a_BY_CODE), (.int ua)])) st2 ?_
    obtain ⟨cl3, Ar3, qq3, Sz3, Nn3, Hh3, Gg3⟩ := id (V_BY_CODE)
    refine own_by (B := T2.setTop (mkF m 11 #[.val (.int ua), .val .null] [(.int (16 : Int32)), (.int ua)])) (fun t k => X2.arraylength hx (by rw [e2]; exact Ar3.1) (State.isArrayOf_alike hZ.alike Ar3.2.1) (g := (mkF m 10 #[.val (.int ua), .val .null] [(.ref a_BY_CODE), (.int ua)])) rfl rfl (hb hby d1_10) t (by rw [len_of Sz3 Nn3]; exact k)) ?_
    by_cases hc4 : ua < (16 : Int32)
    · refine own_by (B := T2.setTop (mkF m 14 #[.val (.int ua), .val .null] [])) (fun _ k => XS.icmpNo X2.here hx rfl (hb hby d1_11) rfl (XT.ii_ge_f hc4) k) ?_
      obtain ⟨T5, X5, e5, st5⟩ := getS2 X2 hx hZ hown (host := "") (Or.inl (hw _ (List.mem_of_getElem? (i := 4) rfl))) Via.refl e2 S_BY_CODE (g := (mkF m 14 #[.val (.int ua), .val .null] [])) rfl (hb hby d1_14)
      refine own_by (B := T5.setTop (mkF m 17 #[.val (.int ua), .val .null] [(.ref a_BY_CODE)])) st5 ?_
      refine own_by (B := T5.setTop (mkF m 18 #[.val (.int ua), .val .null] [(.int ua), (.ref a_BY_CODE)])) (fun _ k => XS.iloadN X5.here hx rfl (hb hby d1_17) rfl  k) ?_
      obtain ⟨cl6, Ar6, qq6, Sz6, Nn6, Hh6, Gg6⟩ := id (V_BY_CODE)
      have hin6 : ¬ (ua < 0 ∨ cl6.slots.size ≤ (ua).toNatClampNeg) := inb_of Sz6 ⟨hc1, hc4⟩
      refine own_by (B := T5.setTop (mkF m 19 #[.val (.int ua), .val .null] [(own_at (ua).toNatClampNeg a_CONNECT a_CONNACK a_PUBLISH a_PUBACK a_PUBREC a_PUBREL a_PUBCOMP a_SUBSCRIBE a_SUBACK a_UNSUBSCRIBE a_UNSUBACK a_PINGREQ a_PINGRESP a_DISCONNECT a_AUTH)])) (fun t k => X5.aaload hx (j := ua) (v := (own_at (ua).toNatClampNeg a_CONNECT a_CONNACK a_PUBLISH a_PUBACK a_PUBREC a_PUBREL a_PUBCOMP a_SUBSCRIBE a_SUBACK a_UNSUBSCRIBE a_UNSUBACK a_PINGREQ a_PINGRESP a_DISCONNECT a_AUTH)) (by rw [e5]; exact Ar6.1) (State.isArrayOf_alike hZ.alike Ar6.2.1) rfl Ar6.2.2 hin6 (Hh6.at hin6 rfl) (g := (mkF m 18 #[.val (.int ua), .val .null] [(.int ua), (.ref a_BY_CODE)])) rfl rfl (hb hby d1_18) t k) ?_
      refine own_by (B := T5.setTop (mkF m 20 #[.val (.int ua), .val (own_at (ua).toNatClampNeg a_CONNECT a_CONNACK a_PUBLISH a_PUBACK a_PUBREC a_PUBREL a_PUBCOMP a_SUBSCRIBE a_SUBACK a_UNSUBSCRIBE a_UNSUBACK a_PINGREQ a_PINGRESP a_DISCONNECT a_AUTH)] [])) (fun _ k => XS.astoreN X5.here hx rfl (hb hby d1_19) rfl (own_at_ref _ a_CONNECT a_CONNACK a_PUBLISH a_PUBACK a_PUBREC a_PUBREL a_PUBCOMP a_SUBSCRIBE a_SUBACK a_UNSUBSCRIBE a_UNSUBACK a_PINGREQ a_PINGRESP a_DISCONNECT a_AUTH) (l' := #[.val (.int ua), .val (own_at (ua).toNatClampNeg a_CONNECT a_CONNACK a_PUBLISH a_PUBACK a_PUBREC a_PUBREL a_PUBCOMP a_SUBSCRIBE a_SUBACK a_UNSUBSCRIBE a_UNSUBACK a_PINGREQ a_PINGRESP a_DISCONNECT a_AUTH)]) ((by have q : ∀ own_v : Value, own_v.isRef = true → storeLocals #[.val (.int ua), .val .null] 1 own_v = some #[.val (.int ua), .val own_v] := (fun own_v hv => by rcases XT.refc hv with rfl | ⟨r, rfl⟩ <;> rfl); exact q _ (own_at_ref _ a_CONNECT a_CONNACK a_PUBLISH a_PUBACK a_PUBREC a_PUBREL a_PUBCOMP a_SUBSCRIBE a_SUBACK a_UNSUBSCRIBE a_UNSUBACK a_PINGREQ a_PINGRESP a_DISCONNECT a_AUTH))) k) ?_
      refine own_by (B := T5.setTop (mkF m 21 #[.val (.int ua), .val (own_at (ua).toNatClampNeg a_CONNECT a_CONNACK a_PUBLISH a_PUBACK a_PUBREC a_PUBREL a_PUBCOMP a_SUBSCRIBE a_SUBACK a_UNSUBSCRIBE a_UNSUBACK a_PINGREQ a_PINGRESP a_DISCONNECT a_AUTH)] [(own_at (ua).toNatClampNeg a_CONNECT a_CONNACK a_PUBLISH a_PUBACK a_PUBREC a_PUBREL a_PUBCOMP a_SUBSCRIBE a_SUBACK a_UNSUBSCRIBE a_UNSUBACK a_PINGREQ a_PINGRESP a_DISCONNECT a_AUTH)])) (fun _ k => XS.aloadN X5.here hx rfl (hb hby d1_20) rfl (own_at_ref _ a_CONNECT a_CONNACK a_PUBLISH a_PUBACK a_PUBREC a_PUBREL a_PUBCOMP a_SUBSCRIBE a_SUBACK a_UNSUBSCRIBE a_UNSUBACK a_PINGREQ a_PINGRESP a_DISCONNECT a_AUTH)  k) ?_
      exact own_retA X5 hx hrt rfl (own_at_ref _ a_CONNECT a_CONNACK a_PUBLISH a_PUBACK a_PUBREC a_PUBREL a_PUBCOMP a_SUBSCRIBE a_SUBACK a_UNSUBSCRIBE a_UNSUBACK a_PINGREQ a_PINGRESP a_DISCONNECT a_AUTH) hlk (hb hby d1_21) (by decide) (by decide) ⟨(by unfold own_f1; rw [if_neg hc1, if_pos hc4]), N0, e5⟩
    · refine own_by (B := T2.setTop (mkF m 20 #[.val (.int ua), .val .null] [])) (fun _ k => XS.icmpYes X2.here hx rfl (pc0 := 11) (pc' := 20) rfl (hb hby d1_11) rfl (XT.ii_ge_t hc4) (by decide) (by decide) k) ?_
      refine own_by (B := T2.setTop (mkF m 21 #[.val (.int ua), .val .null] [.null])) (fun _ k => XS.aloadN X2.here hx rfl (hb hby d1_20) rfl rfl  k) ?_
      exact own_retA X2 hx hrt rfl rfl hlk (hb hby d1_21) (by decide) (by decide) ⟨(by unfold own_f1; rw [if_neg hc1, if_neg hc4]), N0, e2⟩

def own_code (cd : Int32) : Int32 := cd

theorem d2_0 : decode prog_30_method_6_code 0 = .ok (.aload_n 0, 1) := by decide +kernel
theorem d2_1 : decode prog_30_method_6_code 1 = .ok (.getfield 68, 3) := by decide +kernel
theorem d2_4 : decode prog_30_method_6_code 4 = .ok (.ireturn, 1) := by decide +kernel
theorem pn_rm2 : plainFor (⟨"com/example/mqtt_packet_codec/mqttpacketcodec/PacketType", "code", "()I"⟩ : MethodName) = true := by first | exact plainFor_of_name (by first | (simp [plainName, overriddenIn]; done) | decide +kernel) | exact Jvm.Free.JP.mathPlain rfl (by decide +kernel) | decide +kernel
theorem ef_rm2 (m : MethodId) (x0 : Addr) : entryFrame m #[(.ref x0)] 1 = mkF m 0 #[.val (.ref x0)] [] := by first | (simp [entryFrame, mkF, argsToLocals, Value.category]; done) | rfl
set_option maxRecDepth 65536 in
set_option maxHeartbeats 40000000 in
theorem rm2 (l : Launch) (Z : State) (a0 : Array Value) (hw : ∀ d ∈ tables_1, d.before a0 Z = true) (ws : List Jvm.Cond) (ua : Addr) (cd : Int32) (h0 : Heap) (n0 : Nat) (Z0 : n0 ≤ h0.size) (F_code : Fld Z h0 ua "com/example/mqtt_packet_codec/mqttpacketcodec/PacketType" "code" "I" (.int cd)) :
    MetFree l (⟨"com/example/mqtt_packet_codec/mqttpacketcodec/PacketType", "code", "()I"⟩ : MethodName) (head1 (Jvm.Cond.code (⟨"com/example/mqtt_packet_codec/mqttpacketcodec/PacketType", "code", "()I"⟩ : MethodName) prog_30_method_6_code 1 (some .int) :: ws) ({ frames := 0, cells := 0, slots := 0, locals := 0 } : Room)) (fun a U => a = #[(.ref ua)] ∧ Z.Warmed39 U.vm ∧ U.heap = h0) (fun _ _ _ _ _ => True) (fun _ U o U' => ∃ v L, o = .returned v ∧ (own_P (.int (own_code cd)) h0 n0) v U'.heap L ∧ FrameEnd U o U' L 0 0) := by
  refine MetFree.of_bodySF pn_rm2 hisR ?_
  intro p e s m args below meth c s₁ Bd hml0 hP hK
  obtain ⟨rfl, hZ, hh⟩ := hP
  have hx := Bd.exec
  have hby := Bd.bytes
  have hml : c.maxLocals = 1 := hml0
  have hown : s.vm.findClass "com/example/mqtt_packet_codec/mqttpacketcodec/PacketType" = some m.cls := findClass_of_methodNamed Bd.named
  have hnm := (name_of_methodNamed Bd.named Bd.method).1
  have hrt := Bd.returns
  have hlk := Bd.notSynchronized
  have X0 : Stand p l e ({ frames := 0, cells := 0, slots := 0, locals := 0 } : Room) s m #[(.ref ua)] below meth c s₁ [] 0 0 := Stand.of_body Bd
  have e0 : s₁.heap = h0 := by rw [← hh, Bd.state]; rfl
  have N0 := Fr.nil n0
  refine own_done (B := s₁.setTop (mkF m 0 #[.val (.ref ua)] [])) (fun t k => castTop (ef_rm2 m ua) k) ?_
  refine own_by (B := s₁.setTop (mkF m 1 #[.val (.ref ua)] [(.ref ua)])) (fun _ k => XS.aloadN X0.here hx rfl (hb hby d2_0) rfl rfl  k) ?_
  obtain ⟨T1, X1, e1, st1⟩ := getF X0 hx hZ hown (host := "") (Or.inl (hw _ (List.mem_of_getElem? (i := 12) rfl))) Via.refl e0 F_code (g := (mkF m 1 #[.val (.ref ua)] [(.ref ua)])) rfl rfl (hb hby d2_1)
  refine own_by (B := T1.setTop (mkF m 4 #[.val (.ref ua)] [(.int cd)])) st1 ?_
  exact own_retI X1 hx hrt hlk (hb hby d2_4) (by decide) (by decide) ⟨rfl, N0, e1⟩

def own_sent (ua : Addr) (a_CONNACK : Addr) (a_SUBACK : Addr) (a_UNSUBACK : Addr) (a_PINGRESP : Addr) : Int32 := if ua = a_CONNACK then (1 : Int32) else if ua = a_SUBACK then (1 : Int32) else if ua = a_UNSUBACK then (1 : Int32) else if ua = a_PINGRESP then (1 : Int32) else (0 : Int32)

theorem d3_0 : decode prog_30_method_9_code 0 = .ok (.aload_n 0, 1) := by decide +kernel
theorem d3_1 : decode prog_30_method_9_code 1 = .ok (.getstatic 7, 3) := by decide +kernel
theorem d3_4 : decode prog_30_method_9_code 4 = .ok (.if_acmp .eq 24, 3) := by decide +kernel
theorem d3_7 : decode prog_30_method_9_code 7 = .ok (.aload_n 0, 1) := by decide +kernel
theorem d3_8 : decode prog_30_method_9_code 8 = .ok (.getstatic 28, 3) := by decide +kernel
theorem d3_11 : decode prog_30_method_9_code 11 = .ok (.if_acmp .eq 17, 3) := by decide +kernel
theorem d3_14 : decode prog_30_method_9_code 14 = .ok (.aload_n 0, 1) := by decide +kernel
theorem d3_15 : decode prog_30_method_9_code 15 = .ok (.getstatic 34, 3) := by decide +kernel
theorem d3_18 : decode prog_30_method_9_code 18 = .ok (.if_acmp .eq 10, 3) := by decide +kernel
theorem d3_21 : decode prog_30_method_9_code 21 = .ok (.aload_n 0, 1) := by decide +kernel
theorem d3_22 : decode prog_30_method_9_code 22 = .ok (.getstatic 40, 3) := by decide +kernel
theorem d3_25 : decode prog_30_method_9_code 25 = .ok (.if_acmp .ne 7, 3) := by decide +kernel
theorem d3_28 : decode prog_30_method_9_code 28 = .ok (.iconst 1, 1) := by decide +kernel
theorem d3_29 : decode prog_30_method_9_code 29 = .ok (.goto 4, 3) := by decide +kernel
theorem d3_32 : decode prog_30_method_9_code 32 = .ok (.iconst 0, 1) := by decide +kernel
theorem d3_33 : decode prog_30_method_9_code 33 = .ok (.ireturn, 1) := by decide +kernel
theorem pn_rm3 : plainFor (⟨"com/example/mqtt_packet_codec/mqttpacketcodec/PacketType", "sentByServerOnly", "()Z"⟩ : MethodName) = true := by first | exact plainFor_of_name (by first | (simp [plainName, overriddenIn]; done) | decide +kernel) | exact Jvm.Free.JP.mathPlain rfl (by decide +kernel) | decide +kernel
theorem ef_rm3 (m : MethodId) (x0 : Addr) : entryFrame m #[(.ref x0)] 1 = mkF m 0 #[.val (.ref x0)] [] := by first | (simp [entryFrame, mkF, argsToLocals, Value.category]; done) | rfl
set_option maxRecDepth 65536 in
set_option maxHeartbeats 40000000 in
theorem rm3 (l : Launch) (Z : State) (a0 : Array Value) (hw : ∀ d ∈ tables_1, d.before a0 Z = true) (ws : List Jvm.Cond) (a_PUBLISH a_CONNACK a_SUBACK a_UNSUBACK a_PINGRESP a_DISCONNECT a_AUTH a_UNSUBSCRIBE a_PUBCOMP a_SUBSCRIBE a_CONNECT a_PUBACK a_PINGREQ a_PUBREL a_PUBREC a_BY_CODE : Addr) (k_BY_CODE : ClassId) (ua : Addr) (h0 : Heap) (n0 : Nat) (Z0 : n0 ≤ h0.size) (HW : own_W Z h0 a_PUBLISH a_CONNACK a_SUBACK a_UNSUBACK a_PINGRESP a_DISCONNECT a_AUTH a_UNSUBSCRIBE a_PUBCOMP a_SUBSCRIBE a_CONNECT a_PUBACK a_PINGREQ a_PUBREL a_PUBREC a_BY_CODE k_BY_CODE) :
    MetFree l (⟨"com/example/mqtt_packet_codec/mqttpacketcodec/PacketType", "sentByServerOnly", "()Z"⟩ : MethodName) (head1 (Jvm.Cond.code (⟨"com/example/mqtt_packet_codec/mqttpacketcodec/PacketType", "sentByServerOnly", "()Z"⟩ : MethodName) prog_30_method_9_code 1 (some .boolean) :: ws) ({ frames := 0, cells := 0, slots := 0, locals := 0 } : Room)) (fun a U => a = #[(.ref ua)] ∧ Z.Warmed39 U.vm ∧ U.heap = h0) (fun _ _ _ _ _ => True) (fun _ U o U' => ∃ v L, o = .returned v ∧ (own_P (.int (own_sent ua a_CONNACK a_SUBACK a_UNSUBACK a_PINGRESP)) h0 n0) v U'.heap L ∧ FrameEnd U o U' L 0 0) := by
  refine MetFree.of_bodySF pn_rm3 hisR ?_
  intro p e s m args below meth c s₁ Bd hml0 hP hK
  obtain ⟨rfl, hZ, hh⟩ := hP
  have hx := Bd.exec
  have hby := Bd.bytes
  have hml : c.maxLocals = 1 := hml0
  have hown : s.vm.findClass "com/example/mqtt_packet_codec/mqttpacketcodec/PacketType" = some m.cls := findClass_of_methodNamed Bd.named
  have hnm := (name_of_methodNamed Bd.named Bd.method).1
  have hrt := Bd.returns
  have hlk := Bd.notSynchronized
  have X0 : Stand p l e ({ frames := 0, cells := 0, slots := 0, locals := 0 } : Room) s m #[(.ref ua)] below meth c s₁ [] 0 0 := Stand.of_body Bd
  have e0 : s₁.heap = h0 := by rw [← hh, Bd.state]; rfl
  have N0 := Fr.nil n0
  obtain ⟨S_PUBLISH, E_PUBLISH, S_CONNACK, E_CONNACK, S_SUBACK, E_SUBACK, S_UNSUBACK, E_UNSUBACK, S_PINGRESP, E_PINGRESP, S_DISCONNECT, E_DISCONNECT, S_AUTH, E_AUTH, S_UNSUBSCRIBE, E_UNSUBSCRIBE, S_PUBCOMP, E_PUBCOMP, S_SUBSCRIBE, E_SUBSCRIBE, S_CONNECT, E_CONNECT, S_PUBACK, E_PUBACK, S_PINGREQ, E_PINGREQ, S_PUBREL, E_PUBREL, S_PUBREC, E_PUBREC, F_PUBLISH_code, F_PUBLISH_ordinal, F_CONNACK_ordinal, F_SUBACK_ordinal, F_UNSUBACK_ordinal, F_PINGRESP_ordinal, F_DISCONNECT_code, F_DISCONNECT_ordinal, F_AUTH_code, F_AUTH_ordinal, F_UNSUBSCRIBE_code, F_UNSUBSCRIBE_ordinal, F_PUBCOMP_code, F_PUBCOMP_ordinal, F_CONNACK_code, F_UNSUBACK_code, F_SUBSCRIBE_code, F_SUBSCRIBE_ordinal, F_CONNECT_code, F_CONNECT_ordinal, F_PUBACK_code, F_PUBACK_ordinal, F_PINGREQ_code, F_PINGREQ_ordinal, F_PINGRESP_code, F_PUBREL_code, F_PUBREL_ordinal, F_SUBACK_code, F_PUBREC_code, F_PUBREC_ordinal, S_BY_CODE, V_BY_CODE⟩ := HW
  refine own_done (B := s₁.setTop (mkF m 0 #[.val (.ref ua)] [])) (fun t k => castTop (ef_rm3 m ua) k) ?_
  refine own_by (B := s₁.setTop (mkF m 1 #[.val (.ref ua)] [(.ref ua)])) (fun _ k => XS.aloadN X0.here hx rfl (hb hby d3_0) rfl rfl  k) ?_
  obtain ⟨T1, X1, e1, st1⟩ := getS2 X0 hx hZ hown (host := "") (Or.inl (hw _ (List.mem_of_getElem? (i := 19) rfl))) Via.refl e0 S_CONNACK (g := (mkF m 1 #[.val (.ref ua)] [(.ref ua)])) rfl (hb hby d3_1)
  refine own_by (B := T1.setTop (mkF m 4 #[.val (.ref ua)] [(.ref a_CONNACK), (.ref ua)])) st1 ?_
  by_cases hc2 : ua = a_CONNACK
  · refine own_by (B := T1.setTop (mkF m 28 #[.val (.ref ua)] [])) (fun _ k => XT.acmpYes X1.here hx rfl (pc0 := 4) (pc' := 28) rfl (hb hby d3_4) rfl rfl rfl (XT.aa_eq_t (congrArg Value.ref hc2)) (by decide) (by decide) k) ?_
    refine own_by (B := T1.setTop (mkF m 29 #[.val (.ref ua)] [(.int (1 : Int32))])) (fun _ k => XS.iconst X1.here hx rfl (hb hby d3_28) k) ?_
    refine own_by (B := T1.setTop (mkF m 33 #[.val (.ref ua)] [(.int (1 : Int32))])) (fun _ k => XS.goto X1.here hx rfl (pc0 := 29) (pc' := 33) rfl (hb hby d3_29) (by decide) (by decide) k) ?_
    exact own_retZ X1 hx hrt hlk rfl (hb hby d3_33) (by decide) (by decide) ⟨(by unfold own_sent; rw [if_pos hc2]), N0, e1⟩
  · refine own_by (B := T1.setTop (mkF m 7 #[.val (.ref ua)] [])) (fun _ k => XT.acmpNo X1.here hx rfl (hb hby d3_4) rfl rfl rfl (XT.aa_eq_f (fun q => hc2 (Value.ref.inj q))) k) ?_
    refine own_by (B := T1.setTop (mkF m 8 #[.val (.ref ua)] [(.ref ua)])) (fun _ k => XS.aloadN X1.here hx rfl (hb hby d3_7) rfl rfl  k) ?_
    obtain ⟨T3, X3, e3, st3⟩ := getS2 X1 hx hZ hown (host := "") (Or.inl (hw _ (List.mem_of_getElem? (i := 21) rfl))) Via.refl e1 S_SUBACK (g := (mkF m 8 #[.val (.ref ua)] [(.ref ua)])) rfl (hb hby d3_8)
    refine own_by (B := T3.setTop (mkF m 11 #[.val (.ref ua)] [(.ref a_SUBACK), (.ref ua)])) st3 ?_
    by_cases hc4 : ua = a_SUBACK
    · refine own_by (B := T3.setTop (mkF m 28 #[.val (.ref ua)] [])) (fun _ k => XT.acmpYes X3.here hx rfl (pc0 := 11) (pc' := 28) rfl (hb hby d3_11) rfl rfl rfl (XT.aa_eq_t (congrArg Value.ref hc4)) (by decide) (by decide) k) ?_
      refine own_by (B := T3.setTop (mkF m 29 #[.val (.ref ua)] [(.int (1 : Int32))])) (fun _ k => XS.iconst X3.here hx rfl (hb hby d3_28) k) ?_
      refine own_by (B := T3.setTop (mkF m 33 #[.val (.ref ua)] [(.int (1 : Int32))])) (fun _ k => XS.goto X3.here hx rfl (pc0 := 29) (pc' := 33) rfl (hb hby d3_29) (by decide) (by decide) k) ?_
      exact own_retZ X3 hx hrt hlk rfl (hb hby d3_33) (by decide) (by decide) ⟨(by unfold own_sent; rw [if_neg hc2, if_pos hc4]), N0, e3⟩
    · refine own_by (B := T3.setTop (mkF m 14 #[.val (.ref ua)] [])) (fun _ k => XT.acmpNo X3.here hx rfl (hb hby d3_11) rfl rfl rfl (XT.aa_eq_f (fun q => hc4 (Value.ref.inj q))) k) ?_
      refine own_by (B := T3.setTop (mkF m 15 #[.val (.ref ua)] [(.ref ua)])) (fun _ k => XS.aloadN X3.here hx rfl (hb hby d3_14) rfl rfl  k) ?_
      obtain ⟨T5, X5, e5, st5⟩ := getS2 X3 hx hZ hown (host := "") (Or.inl (hw _ (List.mem_of_getElem? (i := 23) rfl))) Via.refl e3 S_UNSUBACK (g := (mkF m 15 #[.val (.ref ua)] [(.ref ua)])) rfl (hb hby d3_15)
      refine own_by (B := T5.setTop (mkF m 18 #[.val (.ref ua)] [(.ref a_UNSUBACK), (.ref ua)])) st5 ?_
      by_cases hc6 : ua = a_UNSUBACK
      · refine own_by (B := T5.setTop (mkF m 28 #[.val (.ref ua)] [])) (fun _ k => XT.acmpYes X5.here hx rfl (pc0 := 18) (pc' := 28) rfl (hb hby d3_18) rfl rfl rfl (XT.aa_eq_t (congrArg Value.ref hc6)) (by decide) (by decide) k) ?_
        refine own_by (B := T5.setTop (mkF m 29 #[.val (.ref ua)] [(.int (1 : Int32))])) (fun _ k => XS.iconst X5.here hx rfl (hb hby d3_28) k) ?_
        refine own_by (B := T5.setTop (mkF m 33 #[.val (.ref ua)] [(.int (1 : Int32))])) (fun _ k => XS.goto X5.here hx rfl (pc0 := 29) (pc' := 33) rfl (hb hby d3_29) (by decide) (by decide) k) ?_
        exact own_retZ X5 hx hrt hlk rfl (hb hby d3_33) (by decide) (by decide) ⟨(by unfold own_sent; rw [if_neg hc2, if_neg hc4, if_pos hc6]), N0, e5⟩
      · refine own_by (B := T5.setTop (mkF m 21 #[.val (.ref ua)] [])) (fun _ k => XT.acmpNo X5.here hx rfl (hb hby d3_18) rfl rfl rfl (XT.aa_eq_f (fun q => hc6 (Value.ref.inj q))) k) ?_
        refine own_by (B := T5.setTop (mkF m 22 #[.val (.ref ua)] [(.ref ua)])) (fun _ k => XS.aloadN X5.here hx rfl (hb hby d3_21) rfl rfl  k) ?_
        obtain ⟨T7, X7, e7, st7⟩ := getS2 X5 hx hZ hown (host := "") (Or.inl (hw _ (List.mem_of_getElem? (i := 25) rfl))) Via.refl e5 S_PINGRESP (g := (mkF m 22 #[.val (.ref ua)] [(.ref ua)])) rfl (hb hby d3_22)
        refine own_by (B := T7.setTop (mkF m 25 #[.val (.ref ua)] [(.ref a_PINGRESP), (.ref ua)])) st7 ?_
        by_cases hc8 : ua = a_PINGRESP
        · refine own_by (B := T7.setTop (mkF m 28 #[.val (.ref ua)] [])) (fun _ k => XT.acmpNo X7.here hx rfl (hb hby d3_25) rfl rfl rfl (XT.aa_ne_f (congrArg Value.ref hc8)) k) ?_
          refine own_by (B := T7.setTop (mkF m 29 #[.val (.ref ua)] [(.int (1 : Int32))])) (fun _ k => XS.iconst X7.here hx rfl (hb hby d3_28) k) ?_
          refine own_by (B := T7.setTop (mkF m 33 #[.val (.ref ua)] [(.int (1 : Int32))])) (fun _ k => XS.goto X7.here hx rfl (pc0 := 29) (pc' := 33) rfl (hb hby d3_29) (by decide) (by decide) k) ?_
          exact own_retZ X7 hx hrt hlk rfl (hb hby d3_33) (by decide) (by decide) ⟨(by unfold own_sent; rw [if_neg hc2, if_neg hc4, if_neg hc6, if_pos hc8]), N0, e7⟩
        · refine own_by (B := T7.setTop (mkF m 32 #[.val (.ref ua)] [])) (fun _ k => XT.acmpYes X7.here hx rfl (pc0 := 25) (pc' := 32) rfl (hb hby d3_25) rfl rfl rfl (XT.aa_ne_t (fun q => hc8 (Value.ref.inj q))) (by decide) (by decide) k) ?_
          refine own_by (B := T7.setTop (mkF m 33 #[.val (.ref ua)] [(.int (0 : Int32))])) (fun _ k => XS.iconst X7.here hx rfl (hb hby d3_32) k) ?_
          exact own_retZ X7 hx hrt hlk rfl (hb hby d3_33) (by decide) (by decide) ⟨(by unfold own_sent; rw [if_neg hc2, if_neg hc4, if_neg hc6, if_neg hc8]), N0, e7⟩

def own_Q0 (n0 : Nat) (v : Option Value) (h : Heap) (L : List Loc) : Prop := v = some (.int 1) ∧ Fr n0 L

theorem pd_0__I_Lcom_example_mqtt_packet_codec_mqttpacketcodec_PacketType_ : parseMethodDescriptor "(I)Lcom/example/mqtt_packet_codec/mqttpacketcodec/PacketType;" = some ⟨[.int], some (.object "com/example/mqtt_packet_codec/mqttpacketcodec/PacketType")⟩ := by decide +kernel
theorem pd_0___I : parseMethodDescriptor "()I" = some ⟨[], some .int⟩ := by decide +kernel
theorem pd_0___Z : parseMethodDescriptor "()Z" = some ⟨[], some .boolean⟩ := by decide +kernel
theorem pn_rm0 : plainFor (⟨"com/example/mqtt_packet_codec/mqttpacketcodec/PacketTypeSentByServerOnlyPinLaw", "law", "(I)Z"⟩ : MethodName) = true := by first | exact plainFor_of_name (by first | (simp [plainName, overriddenIn]; done) | decide +kernel) | exact Jvm.Free.JP.mathPlain rfl (by decide +kernel) | decide +kernel
theorem ef_rm0 (m : MethodId) (x0 : Int32) : entryFrame m #[(.int x0)] maxLocals = mkF m 0 #[.val (.int x0), .unset, .unset, .unset] [] := by first | (simp [entryFrame, mkF, argsToLocals, Value.category, maxLocals]; done) | rfl
set_option maxRecDepth 65536 in
set_option maxHeartbeats 40000000 in
theorem rm0 (l : Launch) (Z : State) (a0 : Array Value) (hw : ∀ d ∈ tables_1, d.before a0 Z = true) (ws : List Jvm.Cond) (a_PUBLISH a_CONNACK a_SUBACK a_UNSUBACK a_PINGRESP a_DISCONNECT a_AUTH a_UNSUBSCRIBE a_PUBCOMP a_SUBSCRIBE a_CONNECT a_PUBACK a_PINGREQ a_PUBREL a_PUBREC a_BY_CODE : Addr) (k_BY_CODE : ClassId) (ua : Int32) (h0 : Heap) (n0 : Nat) (Z0 : n0 ≤ h0.size) (HW : own_W Z h0 a_PUBLISH a_CONNACK a_SUBACK a_UNSUBACK a_PINGRESP a_DISCONNECT a_AUTH a_UNSUBSCRIBE a_PUBCOMP a_SUBSCRIBE a_CONNECT a_PUBACK a_PINGREQ a_PUBREL a_PUBREC a_BY_CODE k_BY_CODE) :
    MetFree l x (head1 (Jvm.Cond.code x code maxLocals ret :: ws) room_1) (fun a U => a = #[(.int ua)] ∧ Z.Warmed39 U.vm ∧ U.heap = h0) (fun _ _ _ _ _ => True) (fun _ U o U' => ∃ v L, o = .returned v ∧ (own_Q0 n0) v U'.heap L ∧ FrameEnd U o U' L 0 0) := by
  refine MetFree.of_bodySF pn_rm0 hisR ?_
  intro p e s m args below meth c s₁ Bd hml0 hP hK
  obtain ⟨rfl, hZ, hh⟩ := hP
  have hx := Bd.exec
  have hby := Bd.bytes
  have hml : c.maxLocals = 4 := hml0
  have hown : s.vm.findClass "com/example/mqtt_packet_codec/mqttpacketcodec/PacketTypeSentByServerOnlyPinLaw" = some m.cls := findClass_of_methodNamed Bd.named
  have hnm := (name_of_methodNamed Bd.named Bd.method).1
  have hrt := Bd.returns
  have hlk := Bd.notSynchronized
  have X0 : Stand p l e room_1 s m #[(.int ua)] below meth c s₁ [] 0 0 := Stand.of_body Bd
  have e0 : s₁.heap = h0 := by rw [← hh, Bd.state]; rfl
  have N0 := Fr.nil n0
  have HW' := HW
  obtain ⟨S_PUBLISH, E_PUBLISH, S_CONNACK, E_CONNACK, S_SUBACK, E_SUBACK, S_UNSUBACK, E_UNSUBACK, S_PINGRESP, E_PINGRESP, S_DISCONNECT, E_DISCONNECT, S_AUTH, E_AUTH, S_UNSUBSCRIBE, E_UNSUBSCRIBE, S_PUBCOMP, E_PUBCOMP, S_SUBSCRIBE, E_SUBSCRIBE, S_CONNECT, E_CONNECT, S_PUBACK, E_PUBACK, S_PINGREQ, E_PINGREQ, S_PUBREL, E_PUBREL, S_PUBREC, E_PUBREC, F_PUBLISH_code, F_PUBLISH_ordinal, F_CONNACK_ordinal, F_SUBACK_ordinal, F_UNSUBACK_ordinal, F_PINGRESP_ordinal, F_DISCONNECT_code, F_DISCONNECT_ordinal, F_AUTH_code, F_AUTH_ordinal, F_UNSUBSCRIBE_code, F_UNSUBSCRIBE_ordinal, F_PUBCOMP_code, F_PUBCOMP_ordinal, F_CONNACK_code, F_UNSUBACK_code, F_SUBSCRIBE_code, F_SUBSCRIBE_ordinal, F_CONNECT_code, F_CONNECT_ordinal, F_PUBACK_code, F_PUBACK_ordinal, F_PINGREQ_code, F_PINGREQ_ordinal, F_PINGRESP_code, F_PUBREL_code, F_PUBREL_ordinal, F_SUBACK_code, F_PUBREC_code, F_PUBREC_ordinal, S_BY_CODE, V_BY_CODE⟩ := HW'
  refine own_done (B := s₁.setTop (mkF m 0 #[.val (.int ua), .unset, .unset, .unset] [])) (fun t k => castTop (ef_rm0 m ua) k) ?_
  refine own_by (B := s₁.setTop (mkF m 1 #[.val (.int ua), .unset, .unset, .unset] [(.int ua)])) (fun _ k => XS.iloadN X0.here hx rfl (hb hby at_0) rfl  k) ?_
  refine own_by (B := s₁.setTop (mkF m 3 #[.val (.int ua), .unset, .unset, .unset] [(.int (15 : Int32)), (.int ua)])) (fun _ k => XS.bipush X0.here hx rfl (hb hby at_1) k) ?_
  refine own_by (B := s₁.setTop (mkF m 4 #[.val (.int ua), .unset, .unset, .unset] [(.int (ua &&& (15 : Int32)))])) (fun _ k => XS.iand X0.here hx rfl (hb hby at_3) rfl k) ?_
  have hk0 := (c_mask ua (15 : Int32) 4 (by decide) (by decide))
  have hks := own_enum16 (z := (ua &&& (15 : Int32))) (by rw [hk0]; omega) (by rw [hk0]; omega)
  generalize (ua &&& (15 : Int32)) = uk at hks ⊢
  rcases hks with rfl | rfl | rfl | rfl | rfl | rfl | rfl | rfl | rfl | rfl | rfl | rfl | rfl | rfl | rfl | rfl
  · refine own_by (B := s₁.setTop (mkF m 5 #[.val (.int ua), .val (.int (0 : Int32)), .unset, .unset] [])) (fun _ k => XS.istoreN X0.here hx rfl (hb hby at_4) rfl (l' := #[.val (.int ua), .val (.int (0 : Int32)), .unset, .unset]) rfl k) ?_
    refine own_by (B := s₁.setTop (mkF m 6 #[.val (.int ua), .val (.int (0 : Int32)), .unset, .unset] [(.int (0 : Int32))])) (fun _ k => XS.iloadN X0.here hx rfl (hb hby at_5) rfl  k) ?_
    obtain ⟨_, _, ⟨T1, L1, k1, n1⟩, -, X1, ⟨Lc1, hQ1, l1, y1, z1⟩, st1⟩ := Jvm.LawKit.callS X0 hx (y := (⟨"com/example/mqtt_packet_codec/mqttpacketcodec/PacketType", "fromCode", "(I)Lcom/example/mqtt_packet_codec/mqttpacketcodec/PacketType;"⟩ : MethodName)) hown (mvT hZ (hw _ (List.mem_of_getElem? (i := 0) rfl))) (mvT hZ (hw _ (List.mem_of_getElem? (i := 1) rfl))) (mvT hZ (hw _ (List.mem_of_getElem? (i := 2) rfl))) (mvT hZ (hw _ (List.mem_of_getElem? (i := 3) rfl))) (by decide) (backOf (W := 0) (rm1 l Z a0 hw [] a_PUBLISH a_CONNACK a_SUBACK a_UNSUBACK a_PINGRESP a_DISCONNECT a_AUTH a_UNSUBSCRIBE a_PUBCOMP a_SUBSCRIBE a_CONNECT a_PUBACK a_PINGREQ a_PUBREL a_PUBREC a_BY_CODE k_BY_CODE (0 : Int32) h0 n0 Z0 HW) hZ (hw _ (List.mem_of_getElem? (i := 3) rfl)) (hw _ (List.mem_of_getElem? (i := 2) rfl)) (by decide) (by decide)) (g := (mkF m 6 #[.val (.int ua), .val (.int (0 : Int32)), .unset, .unset] [(.int (0 : Int32))])) rfl (by rw [hml]; rfl) (argsL := [(.int (0 : Int32))]) (rest := []) (lenOf pd_0__I_Lcom_example_mqtt_packet_codec_mqttpacketcodec_PacketType_ rfl) rfl (by show 2 * 0 + _ ≤ _; exact Nat.le_of_eq rfl) (hb hby at_6) (fun _ _ => ⟨rfl, e0, (by decide : 0 + 0 ≤ _), (by decide : 0 + 0 ≤ _)⟩)
    dsimp only [Pt.U, Pt.locs, Pt.cells, Pt.slots] at X1 l1 y1 z1 st1 hQ1
    subst l1 y1 z1
    obtain ⟨rfl, N1, e1⟩ := hQ1
    refine own_by (B := T1.setTop (mkF m 9 #[.val (.int ua), .val (.int (0 : Int32)), .unset, .unset] [(own_f1 (0 : Int32) a_CONNECT a_CONNACK a_PUBLISH a_PUBACK a_PUBREC a_PUBREL a_PUBCOMP a_SUBSCRIBE a_SUBACK a_UNSUBSCRIBE a_UNSUBACK a_PINGREQ a_PINGRESP a_DISCONNECT a_AUTH)])) st1 ?_
    have M1 := Fr.app N0 N1
    rw [show (own_f1 (0 : Int32) a_CONNECT a_CONNACK a_PUBLISH a_PUBACK a_PUBREC a_PUBREL a_PUBCOMP a_SUBSCRIBE a_SUBACK a_UNSUBSCRIBE a_UNSUBACK a_PINGREQ a_PINGRESP a_DISCONNECT a_AUTH) = .null from by unfold own_f1; rw [if_neg (by decide), if_pos (by decide)]; rfl]
    refine own_by (B := T1.setTop (mkF m 10 #[.val (.int ua), .val (.int (0 : Int32)), .val .null, .unset] [])) (fun _ k => XS.astoreN X1.here hx rfl (hb hby at_9) rfl rfl (l' := #[.val (.int ua), .val (.int (0 : Int32)), .val .null, .unset]) rfl k) ?_
    refine own_by (B := T1.setTop (mkF m 11 #[.val (.int ua), .val (.int (0 : Int32)), .val .null, .unset] [.null])) (fun _ k => XS.aloadN X1.here hx rfl (hb hby at_10) rfl rfl  k) ?_
    refine own_by (B := T1.setTop (mkF m 14 #[.val (.int ua), .val (.int (0 : Int32)), .val .null, .unset] [])) (fun _ k => XT.ifnonnullNo X1.here hx rfl (hb hby at_11) rfl k) ?_
    refine own_by (B := T1.setTop (mkF m 15 #[.val (.int ua), .val (.int (0 : Int32)), .val .null, .unset] [(.int (1 : Int32))])) (fun _ k => XS.iconst X1.here hx rfl (hb hby at_14) k) ?_
    exact own_retZ X1 hx hrt hlk rfl (hb hby at_15) (by decide) (by decide) ⟨rfl, M1⟩
  · refine own_by (B := s₁.setTop (mkF m 5 #[.val (.int ua), .val (.int (1 : Int32)), .unset, .unset] [])) (fun _ k => XS.istoreN X0.here hx rfl (hb hby at_4) rfl (l' := #[.val (.int ua), .val (.int (1 : Int32)), .unset, .unset]) rfl k) ?_
    refine own_by (B := s₁.setTop (mkF m 6 #[.val (.int ua), .val (.int (1 : Int32)), .unset, .unset] [(.int (1 : Int32))])) (fun _ k => XS.iloadN X0.here hx rfl (hb hby at_5) rfl  k) ?_
    obtain ⟨_, _, ⟨T2, L2, k2, n2⟩, -, X2, ⟨Lc2, hQ2, l2, y2, z2⟩, st2⟩ := Jvm.LawKit.callS X0 hx (y := (⟨"com/example/mqtt_packet_codec/mqttpacketcodec/PacketType", "fromCode", "(I)Lcom/example/mqtt_packet_codec/mqttpacketcodec/PacketType;"⟩ : MethodName)) hown (mvT hZ (hw _ (List.mem_of_getElem? (i := 0) rfl))) (mvT hZ (hw _ (List.mem_of_getElem? (i := 1) rfl))) (mvT hZ (hw _ (List.mem_of_getElem? (i := 2) rfl))) (mvT hZ (hw _ (List.mem_of_getElem? (i := 3) rfl))) (by decide) (backOf (W := 0) (rm1 l Z a0 hw [] a_PUBLISH a_CONNACK a_SUBACK a_UNSUBACK a_PINGRESP a_DISCONNECT a_AUTH a_UNSUBSCRIBE a_PUBCOMP a_SUBSCRIBE a_CONNECT a_PUBACK a_PINGREQ a_PUBREL a_PUBREC a_BY_CODE k_BY_CODE (1 : Int32) h0 n0 Z0 HW) hZ (hw _ (List.mem_of_getElem? (i := 3) rfl)) (hw _ (List.mem_of_getElem? (i := 2) rfl)) (by decide) (by decide)) (g := (mkF m 6 #[.val (.int ua), .val (.int (1 : Int32)), .unset, .unset] [(.int (1 : Int32))])) rfl (by rw [hml]; rfl) (argsL := [(.int (1 : Int32))]) (rest := []) (lenOf pd_0__I_Lcom_example_mqtt_packet_codec_mqttpacketcodec_PacketType_ rfl) rfl (by show 2 * 0 + _ ≤ _; exact Nat.le_of_eq rfl) (hb hby at_6) (fun _ _ => ⟨rfl, e0, (by decide : 0 + 0 ≤ _), (by decide : 0 + 0 ≤ _)⟩)
    dsimp only [Pt.U, Pt.locs, Pt.cells, Pt.slots] at X2 l2 y2 z2 st2 hQ2
    subst l2 y2 z2
    obtain ⟨rfl, N2, e2⟩ := hQ2
    refine own_by (B := T2.setTop (mkF m 9 #[.val (.int ua), .val (.int (1 : Int32)), .unset, .unset] [(own_f1 (1 : Int32) a_CONNECT a_CONNACK a_PUBLISH a_PUBACK a_PUBREC a_PUBREL a_PUBCOMP a_SUBSCRIBE a_SUBACK a_UNSUBSCRIBE a_UNSUBACK a_PINGREQ a_PINGRESP a_DISCONNECT a_AUTH)])) st2 ?_
    have M2 := Fr.app N0 N2
    rw [show (own_f1 (1 : Int32) a_CONNECT a_CONNACK a_PUBLISH a_PUBACK a_PUBREC a_PUBREL a_PUBCOMP a_SUBSCRIBE a_SUBACK a_UNSUBSCRIBE a_UNSUBACK a_PINGREQ a_PINGRESP a_DISCONNECT a_AUTH) = (.ref a_CONNECT) from by unfold own_f1; rw [if_neg (by decide), if_pos (by decide)]; rfl]
    refine own_by (B := T2.setTop (mkF m 10 #[.val (.int ua), .val (.int (1 : Int32)), .val (.ref a_CONNECT), .unset] [])) (fun _ k => XS.astoreN X2.here hx rfl (hb hby at_9) rfl rfl (l' := #[.val (.int ua), .val (.int (1 : Int32)), .val (.ref a_CONNECT), .unset]) rfl k) ?_
    refine own_by (B := T2.setTop (mkF m 11 #[.val (.int ua), .val (.int (1 : Int32)), .val (.ref a_CONNECT), .unset] [(.ref a_CONNECT)])) (fun _ k => XS.aloadN X2.here hx rfl (hb hby at_10) rfl rfl  k) ?_
    refine own_by (B := T2.setTop (mkF m 16 #[.val (.int ua), .val (.int (1 : Int32)), .val (.ref a_CONNECT), .unset] [])) (fun _ k => XT.ifnonnullYes X2.here hx rfl (pc0 := 11) (pc' := 16) rfl (hb hby at_11) rfl (by decide) (by decide) k) ?_
    refine own_by (B := T2.setTop (mkF m 17 #[.val (.int ua), .val (.int (1 : Int32)), .val (.ref a_CONNECT), .unset] [(.int (1 : Int32))])) (fun _ k => XS.iloadN X2.here hx rfl (hb hby at_16) rfl  k) ?_
    refine own_by (B := T2.setTop (mkF m 18 #[.val (.int ua), .val (.int (1 : Int32)), .val (.ref a_CONNECT), .unset] [(.int (2 : Int32)), (.int (1 : Int32))])) (fun _ k => XS.iconst X2.here hx rfl (hb hby at_17) k) ?_
    refine own_by (B := T2.setTop (mkF m 21 #[.val (.int ua), .val (.int (1 : Int32)), .val (.ref a_CONNECT), .unset] [])) (fun _ k => XS.icmpNo X2.here hx rfl (hb hby at_18) rfl (XT.ii_eq_f (by decide)) k) ?_
    refine own_by (B := T2.setTop (mkF m 22 #[.val (.int ua), .val (.int (1 : Int32)), .val (.ref a_CONNECT), .unset] [(.int (1 : Int32))])) (fun _ k => XS.iloadN X2.here hx rfl (hb hby at_21) rfl  k) ?_
    refine own_by (B := T2.setTop (mkF m 24 #[.val (.int ua), .val (.int (1 : Int32)), .val (.ref a_CONNECT), .unset] [(.int (9 : Int32)), (.int (1 : Int32))])) (fun _ k => XS.bipush X2.here hx rfl (hb hby at_22) k) ?_
    refine own_by (B := T2.setTop (mkF m 27 #[.val (.int ua), .val (.int (1 : Int32)), .val (.ref a_CONNECT), .unset] [])) (fun _ k => XS.icmpNo X2.here hx rfl (hb hby at_24) rfl (XT.ii_eq_f (by decide)) k) ?_
    refine own_by (B := T2.setTop (mkF m 28 #[.val (.int ua), .val (.int (1 : Int32)), .val (.ref a_CONNECT), .unset] [(.int (1 : Int32))])) (fun _ k => XS.iloadN X2.here hx rfl (hb hby at_27) rfl  k) ?_
    refine own_by (B := T2.setTop (mkF m 30 #[.val (.int ua), .val (.int (1 : Int32)), .val (.ref a_CONNECT), .unset] [(.int (11 : Int32)), (.int (1 : Int32))])) (fun _ k => XS.bipush X2.here hx rfl (hb hby at_28) k) ?_
    refine own_by (B := T2.setTop (mkF m 33 #[.val (.int ua), .val (.int (1 : Int32)), .val (.ref a_CONNECT), .unset] [])) (fun _ k => XS.icmpNo X2.here hx rfl (hb hby at_30) rfl (XT.ii_eq_f (by decide)) k) ?_
    refine own_by (B := T2.setTop (mkF m 34 #[.val (.int ua), .val (.int (1 : Int32)), .val (.ref a_CONNECT), .unset] [(.int (1 : Int32))])) (fun _ k => XS.iloadN X2.here hx rfl (hb hby at_33) rfl  k) ?_
    refine own_by (B := T2.setTop (mkF m 36 #[.val (.int ua), .val (.int (1 : Int32)), .val (.ref a_CONNECT), .unset] [(.int (13 : Int32)), (.int (1 : Int32))])) (fun _ k => XS.bipush X2.here hx rfl (hb hby at_34) k) ?_
    refine own_by (B := T2.setTop (mkF m 43 #[.val (.int ua), .val (.int (1 : Int32)), .val (.ref a_CONNECT), .unset] [])) (fun _ k => XS.icmpYes X2.here hx rfl (pc0 := 36) (pc' := 43) rfl (hb hby at_36) rfl (XT.ii_ne_t (by decide)) (by decide) (by decide) k) ?_
    refine own_by (B := T2.setTop (mkF m 44 #[.val (.int ua), .val (.int (1 : Int32)), .val (.ref a_CONNECT), .unset] [(.int (0 : Int32))])) (fun _ k => XS.iconst X2.here hx rfl (hb hby at_43) k) ?_
    refine own_by (B := T2.setTop (mkF m 45 #[.val (.int ua), .val (.int (1 : Int32)), .val (.ref a_CONNECT), .val (.int (0 : Int32))] [])) (fun _ k => XS.istoreN X2.here hx rfl (hb hby at_44) rfl (l' := #[.val (.int ua), .val (.int (1 : Int32)), .val (.ref a_CONNECT), .val (.int (0 : Int32))]) rfl k) ?_
    refine own_by (B := T2.setTop (mkF m 46 #[.val (.int ua), .val (.int (1 : Int32)), .val (.ref a_CONNECT), .val (.int (0 : Int32))] [(.ref a_CONNECT)])) (fun _ k => XS.aloadN X2.here hx rfl (hb hby at_45) rfl rfl  k) ?_
    obtain ⟨cq3, kq3, qa3, qb3, qc3⟩ := isOf hZ e2 E_CONNECT
    obtain ⟨_, _, ⟨T3, L3, k3, n3⟩, -, X3, ⟨Lc3, hQ3, l3, y3, z3⟩, st3⟩ := X2.virtualBack hx (y := (⟨"com/example/mqtt_packet_codec/mqttpacketcodec/PacketType", "code", "()I"⟩ : MethodName)) (z := (⟨"com/example/mqtt_packet_codec/mqttpacketcodec/PacketType", "code", "()I"⟩ : MethodName)) hown (mvT hZ (hw _ (List.mem_of_getElem? (i := 7) rfl))) (mvT hZ (hw _ (List.mem_of_getElem? (i := 8) rfl))) (notFace_of_selects (args := #[]) (mvT hZ (hw _ (List.mem_of_getElem? (i := 10) rfl)))) (mvT hZ (hw _ (List.mem_of_getElem? (i := 10) rfl))) (mvT hZ (hw _ (List.mem_of_getElem? (i := 9) rfl))) (by decide) (backOf (W := 0) (rm2 l Z a0 hw [] a_CONNECT (1 : Int32) h0 n0 Z0 F_CONNECT_code) hZ (hw _ (List.mem_of_getElem? (i := 11) rfl)) (hw _ (List.mem_of_getElem? (i := 2) rfl)) (by decide) (by decide)) qa3 qc3 (g := (mkF m 46 #[.val (.int ua), .val (.int (1 : Int32)), .val (.ref a_CONNECT), .val (.int (0 : Int32))] [(.ref a_CONNECT)])) rfl (by rw [hml]; rfl) (Steps.refl _) (argsL := []) (rest := []) (lenOf pd_0___I rfl) rfl (by show 2 * 0 + _ ≤ _; exact Nat.le_of_eq rfl) (hb hby at_46) (fun _ _ => ⟨rfl, e2, (by decide : 0 + 0 ≤ _), (by decide : 0 + 0 ≤ _)⟩)
    dsimp only [Pt.U, Pt.locs, Pt.cells, Pt.slots] at X3 l3 y3 z3 st3 hQ3
    subst l3 y3 z3
    obtain ⟨rfl, N3, e3⟩ := hQ3
    refine own_by (B := T3.setTop (mkF m 49 #[.val (.int ua), .val (.int (1 : Int32)), .val (.ref a_CONNECT), .val (.int (0 : Int32))] [(.int (own_code (1 : Int32)))])) (fun _ k => st3.trans k) ?_
    have M3 := Fr.app M2 N3
    rw [show (own_code (1 : Int32)) = (1 : Int32) from rfl]
    refine own_by (B := T3.setTop (mkF m 50 #[.val (.int ua), .val (.int (1 : Int32)), .val (.ref a_CONNECT), .val (.int (0 : Int32))] [(.int (1 : Int32)), (.int (1 : Int32))])) (fun _ k => XS.iloadN X3.here hx rfl (hb hby at_49) rfl  k) ?_
    refine own_by (B := T3.setTop (mkF m 53 #[.val (.int ua), .val (.int (1 : Int32)), .val (.ref a_CONNECT), .val (.int (0 : Int32))] [])) (fun _ k => XS.icmpNo X3.here hx rfl (hb hby at_50) rfl (XT.ii_ne_f (by decide)) k) ?_
    refine own_by (B := T3.setTop (mkF m 54 #[.val (.int ua), .val (.int (1 : Int32)), .val (.ref a_CONNECT), .val (.int (0 : Int32))] [(.ref a_CONNECT)])) (fun _ k => XS.aloadN X3.here hx rfl (hb hby at_53) rfl rfl  k) ?_
    obtain ⟨cq4, kq4, qa4, qb4, qc4⟩ := isOf hZ e3 E_CONNECT
    obtain ⟨_, _, ⟨T4, L4, k4, n4⟩, -, X4, ⟨Lc4, hQ4, l4, y4, z4⟩, st4⟩ := X3.virtualBack hx (y := (⟨"com/example/mqtt_packet_codec/mqttpacketcodec/PacketType", "sentByServerOnly", "()Z"⟩ : MethodName)) (z := (⟨"com/example/mqtt_packet_codec/mqttpacketcodec/PacketType", "sentByServerOnly", "()Z"⟩ : MethodName)) hown (mvT hZ (hw _ (List.mem_of_getElem? (i := 14) rfl))) (mvT hZ (hw _ (List.mem_of_getElem? (i := 15) rfl))) (notFace_of_selects (args := #[]) (mvT hZ (hw _ (List.mem_of_getElem? (i := 17) rfl)))) (mvT hZ (hw _ (List.mem_of_getElem? (i := 17) rfl))) (mvT hZ (hw _ (List.mem_of_getElem? (i := 16) rfl))) (by decide) (backOf (W := 0) (rm3 l Z a0 hw [] a_PUBLISH a_CONNACK a_SUBACK a_UNSUBACK a_PINGRESP a_DISCONNECT a_AUTH a_UNSUBSCRIBE a_PUBCOMP a_SUBSCRIBE a_CONNECT a_PUBACK a_PINGREQ a_PUBREL a_PUBREC a_BY_CODE k_BY_CODE a_CONNECT h0 n0 Z0 HW) hZ (hw _ (List.mem_of_getElem? (i := 18) rfl)) (hw _ (List.mem_of_getElem? (i := 2) rfl)) (by decide) (by decide)) qa4 qc4 (g := (mkF m 54 #[.val (.int ua), .val (.int (1 : Int32)), .val (.ref a_CONNECT), .val (.int (0 : Int32))] [(.ref a_CONNECT)])) rfl (by rw [hml]; rfl) (Steps.refl _) (argsL := []) (rest := []) (lenOf pd_0___Z rfl) rfl (by show 2 * 0 + _ ≤ _; exact Nat.le_of_eq rfl) (hb hby at_54) (fun _ _ => ⟨rfl, e3, (by decide : 0 + 0 ≤ _), (by decide : 0 + 0 ≤ _)⟩)
    dsimp only [Pt.U, Pt.locs, Pt.cells, Pt.slots] at X4 l4 y4 z4 st4 hQ4
    subst l4 y4 z4
    obtain ⟨rfl, N4, e4⟩ := hQ4
    refine own_by (B := T4.setTop (mkF m 57 #[.val (.int ua), .val (.int (1 : Int32)), .val (.ref a_CONNECT), .val (.int (0 : Int32))] [(.int (own_sent a_CONNECT a_CONNACK a_SUBACK a_UNSUBACK a_PINGRESP))])) (fun _ k => st4.trans k) ?_
    have M4 := Fr.app M3 N4
    rw [show (own_sent a_CONNECT a_CONNACK a_SUBACK a_UNSUBACK a_PINGRESP) = (0 : Int32) from by unfold own_sent; rw [if_neg (Fld.ne F_CONNECT_ordinal F_CONNACK_ordinal (by decide)), if_neg (Fld.ne F_CONNECT_ordinal F_SUBACK_ordinal (by decide)), if_neg (Fld.ne F_CONNECT_ordinal F_UNSUBACK_ordinal (by decide)), if_neg (Fld.ne F_CONNECT_ordinal F_PINGRESP_ordinal (by decide))]]
    refine own_by (B := T4.setTop (mkF m 58 #[.val (.int ua), .val (.int (1 : Int32)), .val (.ref a_CONNECT), .val (.int (0 : Int32))] [(.int (0 : Int32)), (.int (0 : Int32))])) (fun _ k => XS.iloadN X4.here hx rfl (hb hby at_57) rfl  k) ?_
    refine own_by (B := T4.setTop (mkF m 61 #[.val (.int ua), .val (.int (1 : Int32)), .val (.ref a_CONNECT), .val (.int (0 : Int32))] [])) (fun _ k => XS.icmpNo X4.here hx rfl (hb hby at_58) rfl (XT.ii_ne_f (by decide)) k) ?_
    refine own_by (B := T4.setTop (mkF m 62 #[.val (.int ua), .val (.int (1 : Int32)), .val (.ref a_CONNECT), .val (.int (0 : Int32))] [(.int (1 : Int32))])) (fun _ k => XS.iconst X4.here hx rfl (hb hby at_61) k) ?_
    refine own_by (B := T4.setTop (mkF m 66 #[.val (.int ua), .val (.int (1 : Int32)), .val (.ref a_CONNECT), .val (.int (0 : Int32))] [(.int (1 : Int32))])) (fun _ k => XS.goto X4.here hx rfl (pc0 := 62) (pc' := 66) rfl (hb hby at_62) (by decide) (by decide) k) ?_
    exact own_retZ X4 hx hrt hlk rfl (hb hby at_66) (by decide) (by decide) ⟨rfl, M4⟩
  · refine own_by (B := s₁.setTop (mkF m 5 #[.val (.int ua), .val (.int (2 : Int32)), .unset, .unset] [])) (fun _ k => XS.istoreN X0.here hx rfl (hb hby at_4) rfl (l' := #[.val (.int ua), .val (.int (2 : Int32)), .unset, .unset]) rfl k) ?_
    refine own_by (B := s₁.setTop (mkF m 6 #[.val (.int ua), .val (.int (2 : Int32)), .unset, .unset] [(.int (2 : Int32))])) (fun _ k => XS.iloadN X0.here hx rfl (hb hby at_5) rfl  k) ?_
    obtain ⟨_, _, ⟨T5, L5, k5, n5⟩, -, X5, ⟨Lc5, hQ5, l5, y5, z5⟩, st5⟩ := Jvm.LawKit.callS X0 hx (y := (⟨"com/example/mqtt_packet_codec/mqttpacketcodec/PacketType", "fromCode", "(I)Lcom/example/mqtt_packet_codec/mqttpacketcodec/PacketType;"⟩ : MethodName)) hown (mvT hZ (hw _ (List.mem_of_getElem? (i := 0) rfl))) (mvT hZ (hw _ (List.mem_of_getElem? (i := 1) rfl))) (mvT hZ (hw _ (List.mem_of_getElem? (i := 2) rfl))) (mvT hZ (hw _ (List.mem_of_getElem? (i := 3) rfl))) (by decide) (backOf (W := 0) (rm1 l Z a0 hw [] a_PUBLISH a_CONNACK a_SUBACK a_UNSUBACK a_PINGRESP a_DISCONNECT a_AUTH a_UNSUBSCRIBE a_PUBCOMP a_SUBSCRIBE a_CONNECT a_PUBACK a_PINGREQ a_PUBREL a_PUBREC a_BY_CODE k_BY_CODE (2 : Int32) h0 n0 Z0 HW) hZ (hw _ (List.mem_of_getElem? (i := 3) rfl)) (hw _ (List.mem_of_getElem? (i := 2) rfl)) (by decide) (by decide)) (g := (mkF m 6 #[.val (.int ua), .val (.int (2 : Int32)), .unset, .unset] [(.int (2 : Int32))])) rfl (by rw [hml]; rfl) (argsL := [(.int (2 : Int32))]) (rest := []) (lenOf pd_0__I_Lcom_example_mqtt_packet_codec_mqttpacketcodec_PacketType_ rfl) rfl (by show 2 * 0 + _ ≤ _; exact Nat.le_of_eq rfl) (hb hby at_6) (fun _ _ => ⟨rfl, e0, (by decide : 0 + 0 ≤ _), (by decide : 0 + 0 ≤ _)⟩)
    dsimp only [Pt.U, Pt.locs, Pt.cells, Pt.slots] at X5 l5 y5 z5 st5 hQ5
    subst l5 y5 z5
    obtain ⟨rfl, N5, e5⟩ := hQ5
    refine own_by (B := T5.setTop (mkF m 9 #[.val (.int ua), .val (.int (2 : Int32)), .unset, .unset] [(own_f1 (2 : Int32) a_CONNECT a_CONNACK a_PUBLISH a_PUBACK a_PUBREC a_PUBREL a_PUBCOMP a_SUBSCRIBE a_SUBACK a_UNSUBSCRIBE a_UNSUBACK a_PINGREQ a_PINGRESP a_DISCONNECT a_AUTH)])) st5 ?_
    have M5 := Fr.app N0 N5
    rw [show (own_f1 (2 : Int32) a_CONNECT a_CONNACK a_PUBLISH a_PUBACK a_PUBREC a_PUBREL a_PUBCOMP a_SUBSCRIBE a_SUBACK a_UNSUBSCRIBE a_UNSUBACK a_PINGREQ a_PINGRESP a_DISCONNECT a_AUTH) = (.ref a_CONNACK) from by unfold own_f1; rw [if_neg (by decide), if_pos (by decide)]; rfl]
    refine own_by (B := T5.setTop (mkF m 10 #[.val (.int ua), .val (.int (2 : Int32)), .val (.ref a_CONNACK), .unset] [])) (fun _ k => XS.astoreN X5.here hx rfl (hb hby at_9) rfl rfl (l' := #[.val (.int ua), .val (.int (2 : Int32)), .val (.ref a_CONNACK), .unset]) rfl k) ?_
    refine own_by (B := T5.setTop (mkF m 11 #[.val (.int ua), .val (.int (2 : Int32)), .val (.ref a_CONNACK), .unset] [(.ref a_CONNACK)])) (fun _ k => XS.aloadN X5.here hx rfl (hb hby at_10) rfl rfl  k) ?_
    refine own_by (B := T5.setTop (mkF m 16 #[.val (.int ua), .val (.int (2 : Int32)), .val (.ref a_CONNACK), .unset] [])) (fun _ k => XT.ifnonnullYes X5.here hx rfl (pc0 := 11) (pc' := 16) rfl (hb hby at_11) rfl (by decide) (by decide) k) ?_
    refine own_by (B := T5.setTop (mkF m 17 #[.val (.int ua), .val (.int (2 : Int32)), .val (.ref a_CONNACK), .unset] [(.int (2 : Int32))])) (fun _ k => XS.iloadN X5.here hx rfl (hb hby at_16) rfl  k) ?_
    refine own_by (B := T5.setTop (mkF m 18 #[.val (.int ua), .val (.int (2 : Int32)), .val (.ref a_CONNACK), .unset] [(.int (2 : Int32)), (.int (2 : Int32))])) (fun _ k => XS.iconst X5.here hx rfl (hb hby at_17) k) ?_
    refine own_by (B := T5.setTop (mkF m 39 #[.val (.int ua), .val (.int (2 : Int32)), .val (.ref a_CONNACK), .unset] [])) (fun _ k => XS.icmpYes X5.here hx rfl (pc0 := 18) (pc' := 39) rfl (hb hby at_18) rfl (XT.ii_eq_t (by decide)) (by decide) (by decide) k) ?_
    refine own_by (B := T5.setTop (mkF m 40 #[.val (.int ua), .val (.int (2 : Int32)), .val (.ref a_CONNACK), .unset] [(.int (1 : Int32))])) (fun _ k => XS.iconst X5.here hx rfl (hb hby at_39) k) ?_
    refine own_by (B := T5.setTop (mkF m 44 #[.val (.int ua), .val (.int (2 : Int32)), .val (.ref a_CONNACK), .unset] [(.int (1 : Int32))])) (fun _ k => XS.goto X5.here hx rfl (pc0 := 40) (pc' := 44) rfl (hb hby at_40) (by decide) (by decide) k) ?_
    refine own_by (B := T5.setTop (mkF m 45 #[.val (.int ua), .val (.int (2 : Int32)), .val (.ref a_CONNACK), .val (.int (1 : Int32))] [])) (fun _ k => XS.istoreN X5.here hx rfl (hb hby at_44) rfl (l' := #[.val (.int ua), .val (.int (2 : Int32)), .val (.ref a_CONNACK), .val (.int (1 : Int32))]) rfl k) ?_
    refine own_by (B := T5.setTop (mkF m 46 #[.val (.int ua), .val (.int (2 : Int32)), .val (.ref a_CONNACK), .val (.int (1 : Int32))] [(.ref a_CONNACK)])) (fun _ k => XS.aloadN X5.here hx rfl (hb hby at_45) rfl rfl  k) ?_
    obtain ⟨cq6, kq6, qa6, qb6, qc6⟩ := isOf hZ e5 E_CONNACK
    obtain ⟨_, _, ⟨T6, L6, k6, n6⟩, -, X6, ⟨Lc6, hQ6, l6, y6, z6⟩, st6⟩ := X5.virtualBack hx (y := (⟨"com/example/mqtt_packet_codec/mqttpacketcodec/PacketType", "code", "()I"⟩ : MethodName)) (z := (⟨"com/example/mqtt_packet_codec/mqttpacketcodec/PacketType", "code", "()I"⟩ : MethodName)) hown (mvT hZ (hw _ (List.mem_of_getElem? (i := 7) rfl))) (mvT hZ (hw _ (List.mem_of_getElem? (i := 8) rfl))) (notFace_of_selects (args := #[]) (mvT hZ (hw _ (List.mem_of_getElem? (i := 10) rfl)))) (mvT hZ (hw _ (List.mem_of_getElem? (i := 10) rfl))) (mvT hZ (hw _ (List.mem_of_getElem? (i := 9) rfl))) (by decide) (backOf (W := 0) (rm2 l Z a0 hw [] a_CONNACK (2 : Int32) h0 n0 Z0 F_CONNACK_code) hZ (hw _ (List.mem_of_getElem? (i := 11) rfl)) (hw _ (List.mem_of_getElem? (i := 2) rfl)) (by decide) (by decide)) qa6 qc6 (g := (mkF m 46 #[.val (.int ua), .val (.int (2 : Int32)), .val (.ref a_CONNACK), .val (.int (1 : Int32))] [(.ref a_CONNACK)])) rfl (by rw [hml]; rfl) (Steps.refl _) (argsL := []) (rest := []) (lenOf pd_0___I rfl) rfl (by show 2 * 0 + _ ≤ _; exact Nat.le_of_eq rfl) (hb hby at_46) (fun _ _ => ⟨rfl, e5, (by decide : 0 + 0 ≤ _), (by decide : 0 + 0 ≤ _)⟩)
    dsimp only [Pt.U, Pt.locs, Pt.cells, Pt.slots] at X6 l6 y6 z6 st6 hQ6
    subst l6 y6 z6
    obtain ⟨rfl, N6, e6⟩ := hQ6
    refine own_by (B := T6.setTop (mkF m 49 #[.val (.int ua), .val (.int (2 : Int32)), .val (.ref a_CONNACK), .val (.int (1 : Int32))] [(.int (own_code (2 : Int32)))])) (fun _ k => st6.trans k) ?_
    have M6 := Fr.app M5 N6
    rw [show (own_code (2 : Int32)) = (2 : Int32) from rfl]
    refine own_by (B := T6.setTop (mkF m 50 #[.val (.int ua), .val (.int (2 : Int32)), .val (.ref a_CONNACK), .val (.int (1 : Int32))] [(.int (2 : Int32)), (.int (2 : Int32))])) (fun _ k => XS.iloadN X6.here hx rfl (hb hby at_49) rfl  k) ?_
    refine own_by (B := T6.setTop (mkF m 53 #[.val (.int ua), .val (.int (2 : Int32)), .val (.ref a_CONNACK), .val (.int (1 : Int32))] [])) (fun _ k => XS.icmpNo X6.here hx rfl (hb hby at_50) rfl (XT.ii_ne_f (by decide)) k) ?_
    refine own_by (B := T6.setTop (mkF m 54 #[.val (.int ua), .val (.int (2 : Int32)), .val (.ref a_CONNACK), .val (.int (1 : Int32))] [(.ref a_CONNACK)])) (fun _ k => XS.aloadN X6.here hx rfl (hb hby at_53) rfl rfl  k) ?_
    obtain ⟨cq7, kq7, qa7, qb7, qc7⟩ := isOf hZ e6 E_CONNACK
    obtain ⟨_, _, ⟨T7, L7, k7, n7⟩, -, X7, ⟨Lc7, hQ7, l7, y7, z7⟩, st7⟩ := X6.virtualBack hx (y := (⟨"com/example/mqtt_packet_codec/mqttpacketcodec/PacketType", "sentByServerOnly", "()Z"⟩ : MethodName)) (z := (⟨"com/example/mqtt_packet_codec/mqttpacketcodec/PacketType", "sentByServerOnly", "()Z"⟩ : MethodName)) hown (mvT hZ (hw _ (List.mem_of_getElem? (i := 14) rfl))) (mvT hZ (hw _ (List.mem_of_getElem? (i := 15) rfl))) (notFace_of_selects (args := #[]) (mvT hZ (hw _ (List.mem_of_getElem? (i := 17) rfl)))) (mvT hZ (hw _ (List.mem_of_getElem? (i := 17) rfl))) (mvT hZ (hw _ (List.mem_of_getElem? (i := 16) rfl))) (by decide) (backOf (W := 0) (rm3 l Z a0 hw [] a_PUBLISH a_CONNACK a_SUBACK a_UNSUBACK a_PINGRESP a_DISCONNECT a_AUTH a_UNSUBSCRIBE a_PUBCOMP a_SUBSCRIBE a_CONNECT a_PUBACK a_PINGREQ a_PUBREL a_PUBREC a_BY_CODE k_BY_CODE a_CONNACK h0 n0 Z0 HW) hZ (hw _ (List.mem_of_getElem? (i := 18) rfl)) (hw _ (List.mem_of_getElem? (i := 2) rfl)) (by decide) (by decide)) qa7 qc7 (g := (mkF m 54 #[.val (.int ua), .val (.int (2 : Int32)), .val (.ref a_CONNACK), .val (.int (1 : Int32))] [(.ref a_CONNACK)])) rfl (by rw [hml]; rfl) (Steps.refl _) (argsL := []) (rest := []) (lenOf pd_0___Z rfl) rfl (by show 2 * 0 + _ ≤ _; exact Nat.le_of_eq rfl) (hb hby at_54) (fun _ _ => ⟨rfl, e6, (by decide : 0 + 0 ≤ _), (by decide : 0 + 0 ≤ _)⟩)
    dsimp only [Pt.U, Pt.locs, Pt.cells, Pt.slots] at X7 l7 y7 z7 st7 hQ7
    subst l7 y7 z7
    obtain ⟨rfl, N7, e7⟩ := hQ7
    refine own_by (B := T7.setTop (mkF m 57 #[.val (.int ua), .val (.int (2 : Int32)), .val (.ref a_CONNACK), .val (.int (1 : Int32))] [(.int (own_sent a_CONNACK a_CONNACK a_SUBACK a_UNSUBACK a_PINGRESP))])) (fun _ k => st7.trans k) ?_
    have M7 := Fr.app M6 N7
    rw [show (own_sent a_CONNACK a_CONNACK a_SUBACK a_UNSUBACK a_PINGRESP) = (1 : Int32) from by unfold own_sent; rw [if_pos rfl]]
    refine own_by (B := T7.setTop (mkF m 58 #[.val (.int ua), .val (.int (2 : Int32)), .val (.ref a_CONNACK), .val (.int (1 : Int32))] [(.int (1 : Int32)), (.int (1 : Int32))])) (fun _ k => XS.iloadN X7.here hx rfl (hb hby at_57) rfl  k) ?_
    refine own_by (B := T7.setTop (mkF m 61 #[.val (.int ua), .val (.int (2 : Int32)), .val (.ref a_CONNACK), .val (.int (1 : Int32))] [])) (fun _ k => XS.icmpNo X7.here hx rfl (hb hby at_58) rfl (XT.ii_ne_f (by decide)) k) ?_
    refine own_by (B := T7.setTop (mkF m 62 #[.val (.int ua), .val (.int (2 : Int32)), .val (.ref a_CONNACK), .val (.int (1 : Int32))] [(.int (1 : Int32))])) (fun _ k => XS.iconst X7.here hx rfl (hb hby at_61) k) ?_
    refine own_by (B := T7.setTop (mkF m 66 #[.val (.int ua), .val (.int (2 : Int32)), .val (.ref a_CONNACK), .val (.int (1 : Int32))] [(.int (1 : Int32))])) (fun _ k => XS.goto X7.here hx rfl (pc0 := 62) (pc' := 66) rfl (hb hby at_62) (by decide) (by decide) k) ?_
    exact own_retZ X7 hx hrt hlk rfl (hb hby at_66) (by decide) (by decide) ⟨rfl, M7⟩
  · refine own_by (B := s₁.setTop (mkF m 5 #[.val (.int ua), .val (.int (3 : Int32)), .unset, .unset] [])) (fun _ k => XS.istoreN X0.here hx rfl (hb hby at_4) rfl (l' := #[.val (.int ua), .val (.int (3 : Int32)), .unset, .unset]) rfl k) ?_
    refine own_by (B := s₁.setTop (mkF m 6 #[.val (.int ua), .val (.int (3 : Int32)), .unset, .unset] [(.int (3 : Int32))])) (fun _ k => XS.iloadN X0.here hx rfl (hb hby at_5) rfl  k) ?_
    obtain ⟨_, _, ⟨T8, L8, k8, n8⟩, -, X8, ⟨Lc8, hQ8, l8, y8, z8⟩, st8⟩ := Jvm.LawKit.callS X0 hx (y := (⟨"com/example/mqtt_packet_codec/mqttpacketcodec/PacketType", "fromCode", "(I)Lcom/example/mqtt_packet_codec/mqttpacketcodec/PacketType;"⟩ : MethodName)) hown (mvT hZ (hw _ (List.mem_of_getElem? (i := 0) rfl))) (mvT hZ (hw _ (List.mem_of_getElem? (i := 1) rfl))) (mvT hZ (hw _ (List.mem_of_getElem? (i := 2) rfl))) (mvT hZ (hw _ (List.mem_of_getElem? (i := 3) rfl))) (by decide) (backOf (W := 0) (rm1 l Z a0 hw [] a_PUBLISH a_CONNACK a_SUBACK a_UNSUBACK a_PINGRESP a_DISCONNECT a_AUTH a_UNSUBSCRIBE a_PUBCOMP a_SUBSCRIBE a_CONNECT a_PUBACK a_PINGREQ a_PUBREL a_PUBREC a_BY_CODE k_BY_CODE (3 : Int32) h0 n0 Z0 HW) hZ (hw _ (List.mem_of_getElem? (i := 3) rfl)) (hw _ (List.mem_of_getElem? (i := 2) rfl)) (by decide) (by decide)) (g := (mkF m 6 #[.val (.int ua), .val (.int (3 : Int32)), .unset, .unset] [(.int (3 : Int32))])) rfl (by rw [hml]; rfl) (argsL := [(.int (3 : Int32))]) (rest := []) (lenOf pd_0__I_Lcom_example_mqtt_packet_codec_mqttpacketcodec_PacketType_ rfl) rfl (by show 2 * 0 + _ ≤ _; exact Nat.le_of_eq rfl) (hb hby at_6) (fun _ _ => ⟨rfl, e0, (by decide : 0 + 0 ≤ _), (by decide : 0 + 0 ≤ _)⟩)
    dsimp only [Pt.U, Pt.locs, Pt.cells, Pt.slots] at X8 l8 y8 z8 st8 hQ8
    subst l8 y8 z8
    obtain ⟨rfl, N8, e8⟩ := hQ8
    refine own_by (B := T8.setTop (mkF m 9 #[.val (.int ua), .val (.int (3 : Int32)), .unset, .unset] [(own_f1 (3 : Int32) a_CONNECT a_CONNACK a_PUBLISH a_PUBACK a_PUBREC a_PUBREL a_PUBCOMP a_SUBSCRIBE a_SUBACK a_UNSUBSCRIBE a_UNSUBACK a_PINGREQ a_PINGRESP a_DISCONNECT a_AUTH)])) st8 ?_
    have M8 := Fr.app N0 N8
    rw [show (own_f1 (3 : Int32) a_CONNECT a_CONNACK a_PUBLISH a_PUBACK a_PUBREC a_PUBREL a_PUBCOMP a_SUBSCRIBE a_SUBACK a_UNSUBSCRIBE a_UNSUBACK a_PINGREQ a_PINGRESP a_DISCONNECT a_AUTH) = (.ref a_PUBLISH) from by unfold own_f1; rw [if_neg (by decide), if_pos (by decide)]; rfl]
    refine own_by (B := T8.setTop (mkF m 10 #[.val (.int ua), .val (.int (3 : Int32)), .val (.ref a_PUBLISH), .unset] [])) (fun _ k => XS.astoreN X8.here hx rfl (hb hby at_9) rfl rfl (l' := #[.val (.int ua), .val (.int (3 : Int32)), .val (.ref a_PUBLISH), .unset]) rfl k) ?_
    refine own_by (B := T8.setTop (mkF m 11 #[.val (.int ua), .val (.int (3 : Int32)), .val (.ref a_PUBLISH), .unset] [(.ref a_PUBLISH)])) (fun _ k => XS.aloadN X8.here hx rfl (hb hby at_10) rfl rfl  k) ?_
    refine own_by (B := T8.setTop (mkF m 16 #[.val (.int ua), .val (.int (3 : Int32)), .val (.ref a_PUBLISH), .unset] [])) (fun _ k => XT.ifnonnullYes X8.here hx rfl (pc0 := 11) (pc' := 16) rfl (hb hby at_11) rfl (by decide) (by decide) k) ?_
    refine own_by (B := T8.setTop (mkF m 17 #[.val (.int ua), .val (.int (3 : Int32)), .val (.ref a_PUBLISH), .unset] [(.int (3 : Int32))])) (fun _ k => XS.iloadN X8.here hx rfl (hb hby at_16) rfl  k) ?_
    refine own_by (B := T8.setTop (mkF m 18 #[.val (.int ua), .val (.int (3 : Int32)), .val (.ref a_PUBLISH), .unset] [(.int (2 : Int32)), (.int (3 : Int32))])) (fun _ k => XS.iconst X8.here hx rfl (hb hby at_17) k) ?_
    refine own_by (B := T8.setTop (mkF m 21 #[.val (.int ua), .val (.int (3 : Int32)), .val (.ref a_PUBLISH), .unset] [])) (fun _ k => XS.icmpNo X8.here hx rfl (hb hby at_18) rfl (XT.ii_eq_f (by decide)) k) ?_
    refine own_by (B := T8.setTop (mkF m 22 #[.val (.int ua), .val (.int (3 : Int32)), .val (.ref a_PUBLISH), .unset] [(.int (3 : Int32))])) (fun _ k => XS.iloadN X8.here hx rfl (hb hby at_21) rfl  k) ?_
    refine own_by (B := T8.setTop (mkF m 24 #[.val (.int ua), .val (.int (3 : Int32)), .val (.ref a_PUBLISH), .unset] [(.int (9 : Int32)), (.int (3 : Int32))])) (fun _ k => XS.bipush X8.here hx rfl (hb hby at_22) k) ?_
    refine own_by (B := T8.setTop (mkF m 27 #[.val (.int ua), .val (.int (3 : Int32)), .val (.ref a_PUBLISH), .unset] [])) (fun _ k => XS.icmpNo X8.here hx rfl (hb hby at_24) rfl (XT.ii_eq_f (by decide)) k) ?_
    refine own_by (B := T8.setTop (mkF m 28 #[.val (.int ua), .val (.int (3 : Int32)), .val (.ref a_PUBLISH), .unset] [(.int (3 : Int32))])) (fun _ k => XS.iloadN X8.here hx rfl (hb hby at_27) rfl  k) ?_
    refine own_by (B := T8.setTop (mkF m 30 #[.val (.int ua), .val (.int (3 : Int32)), .val (.ref a_PUBLISH), .unset] [(.int (11 : Int32)), (.int (3 : Int32))])) (fun _ k => XS.bipush X8.here hx rfl (hb hby at_28) k) ?_
    refine own_by (B := T8.setTop (mkF m 33 #[.val (.int ua), .val (.int (3 : Int32)), .val (.ref a_PUBLISH), .unset] [])) (fun _ k => XS.icmpNo X8.here hx rfl (hb hby at_30) rfl (XT.ii_eq_f (by decide)) k) ?_
    refine own_by (B := T8.setTop (mkF m 34 #[.val (.int ua), .val (.int (3 : Int32)), .val (.ref a_PUBLISH), .unset] [(.int (3 : Int32))])) (fun _ k => XS.iloadN X8.here hx rfl (hb hby at_33) rfl  k) ?_
    refine own_by (B := T8.setTop (mkF m 36 #[.val (.int ua), .val (.int (3 : Int32)), .val (.ref a_PUBLISH), .unset] [(.int (13 : Int32)), (.int (3 : Int32))])) (fun _ k => XS.bipush X8.here hx rfl (hb hby at_34) k) ?_
    refine own_by (B := T8.setTop (mkF m 43 #[.val (.int ua), .val (.int (3 : Int32)), .val (.ref a_PUBLISH), .unset] [])) (fun _ k => XS.icmpYes X8.here hx rfl (pc0 := 36) (pc' := 43) rfl (hb hby at_36) rfl (XT.ii_ne_t (by decide)) (by decide) (by decide) k) ?_
    refine own_by (B := T8.setTop (mkF m 44 #[.val (.int ua), .val (.int (3 : Int32)), .val (.ref a_PUBLISH), .unset] [(.int (0 : Int32))])) (fun _ k => XS.iconst X8.here hx rfl (hb hby at_43) k) ?_
    refine own_by (B := T8.setTop (mkF m 45 #[.val (.int ua), .val (.int (3 : Int32)), .val (.ref a_PUBLISH), .val (.int (0 : Int32))] [])) (fun _ k => XS.istoreN X8.here hx rfl (hb hby at_44) rfl (l' := #[.val (.int ua), .val (.int (3 : Int32)), .val (.ref a_PUBLISH), .val (.int (0 : Int32))]) rfl k) ?_
    refine own_by (B := T8.setTop (mkF m 46 #[.val (.int ua), .val (.int (3 : Int32)), .val (.ref a_PUBLISH), .val (.int (0 : Int32))] [(.ref a_PUBLISH)])) (fun _ k => XS.aloadN X8.here hx rfl (hb hby at_45) rfl rfl  k) ?_
    obtain ⟨cq9, kq9, qa9, qb9, qc9⟩ := isOf hZ e8 E_PUBLISH
    obtain ⟨_, _, ⟨T9, L9, k9, n9⟩, -, X9, ⟨Lc9, hQ9, l9, y9, z9⟩, st9⟩ := X8.virtualBack hx (y := (⟨"com/example/mqtt_packet_codec/mqttpacketcodec/PacketType", "code", "()I"⟩ : MethodName)) (z := (⟨"com/example/mqtt_packet_codec/mqttpacketcodec/PacketType", "code", "()I"⟩ : MethodName)) hown (mvT hZ (hw _ (List.mem_of_getElem? (i := 7) rfl))) (mvT hZ (hw _ (List.mem_of_getElem? (i := 8) rfl))) (notFace_of_selects (args := #[]) (mvT hZ (hw _ (List.mem_of_getElem? (i := 10) rfl)))) (mvT hZ (hw _ (List.mem_of_getElem? (i := 10) rfl))) (mvT hZ (hw _ (List.mem_of_getElem? (i := 9) rfl))) (by decide) (backOf (W := 0) (rm2 l Z a0 hw [] a_PUBLISH (3 : Int32) h0 n0 Z0 F_PUBLISH_code) hZ (hw _ (List.mem_of_getElem? (i := 11) rfl)) (hw _ (List.mem_of_getElem? (i := 2) rfl)) (by decide) (by decide)) qa9 qc9 (g := (mkF m 46 #[.val (.int ua), .val (.int (3 : Int32)), .val (.ref a_PUBLISH), .val (.int (0 : Int32))] [(.ref a_PUBLISH)])) rfl (by rw [hml]; rfl) (Steps.refl _) (argsL := []) (rest := []) (lenOf pd_0___I rfl) rfl (by show 2 * 0 + _ ≤ _; exact Nat.le_of_eq rfl) (hb hby at_46) (fun _ _ => ⟨rfl, e8, (by decide : 0 + 0 ≤ _), (by decide : 0 + 0 ≤ _)⟩)
    dsimp only [Pt.U, Pt.locs, Pt.cells, Pt.slots] at X9 l9 y9 z9 st9 hQ9
    subst l9 y9 z9
    obtain ⟨rfl, N9, e9⟩ := hQ9
    refine own_by (B := T9.setTop (mkF m 49 #[.val (.int ua), .val (.int (3 : Int32)), .val (.ref a_PUBLISH), .val (.int (0 : Int32))] [(.int (own_code (3 : Int32)))])) (fun _ k => st9.trans k) ?_
    have M9 := Fr.app M8 N9
    rw [show (own_code (3 : Int32)) = (3 : Int32) from rfl]
    refine own_by (B := T9.setTop (mkF m 50 #[.val (.int ua), .val (.int (3 : Int32)), .val (.ref a_PUBLISH), .val (.int (0 : Int32))] [(.int (3 : Int32)), (.int (3 : Int32))])) (fun _ k => XS.iloadN X9.here hx rfl (hb hby at_49) rfl  k) ?_
    refine own_by (B := T9.setTop (mkF m 53 #[.val (.int ua), .val (.int (3 : Int32)), .val (.ref a_PUBLISH), .val (.int (0 : Int32))] [])) (fun _ k => XS.icmpNo X9.here hx rfl (hb hby at_50) rfl (XT.ii_ne_f (by decide)) k) ?_
    refine own_by (B := T9.setTop (mkF m 54 #[.val (.int ua), .val (.int (3 : Int32)), .val (.ref a_PUBLISH), .val (.int (0 : Int32))] [(.ref a_PUBLISH)])) (fun _ k => XS.aloadN X9.here hx rfl (hb hby at_53) rfl rfl  k) ?_
    obtain ⟨cq10, kq10, qa10, qb10, qc10⟩ := isOf hZ e9 E_PUBLISH
    obtain ⟨_, _, ⟨T10, L10, k10, n10⟩, -, X10, ⟨Lc10, hQ10, l10, y10, z10⟩, st10⟩ := X9.virtualBack hx (y := (⟨"com/example/mqtt_packet_codec/mqttpacketcodec/PacketType", "sentByServerOnly", "()Z"⟩ : MethodName)) (z := (⟨"com/example/mqtt_packet_codec/mqttpacketcodec/PacketType", "sentByServerOnly", "()Z"⟩ : MethodName)) hown (mvT hZ (hw _ (List.mem_of_getElem? (i := 14) rfl))) (mvT hZ (hw _ (List.mem_of_getElem? (i := 15) rfl))) (notFace_of_selects (args := #[]) (mvT hZ (hw _ (List.mem_of_getElem? (i := 17) rfl)))) (mvT hZ (hw _ (List.mem_of_getElem? (i := 17) rfl))) (mvT hZ (hw _ (List.mem_of_getElem? (i := 16) rfl))) (by decide) (backOf (W := 0) (rm3 l Z a0 hw [] a_PUBLISH a_CONNACK a_SUBACK a_UNSUBACK a_PINGRESP a_DISCONNECT a_AUTH a_UNSUBSCRIBE a_PUBCOMP a_SUBSCRIBE a_CONNECT a_PUBACK a_PINGREQ a_PUBREL a_PUBREC a_BY_CODE k_BY_CODE a_PUBLISH h0 n0 Z0 HW) hZ (hw _ (List.mem_of_getElem? (i := 18) rfl)) (hw _ (List.mem_of_getElem? (i := 2) rfl)) (by decide) (by decide)) qa10 qc10 (g := (mkF m 54 #[.val (.int ua), .val (.int (3 : Int32)), .val (.ref a_PUBLISH), .val (.int (0 : Int32))] [(.ref a_PUBLISH)])) rfl (by rw [hml]; rfl) (Steps.refl _) (argsL := []) (rest := []) (lenOf pd_0___Z rfl) rfl (by show 2 * 0 + _ ≤ _; exact Nat.le_of_eq rfl) (hb hby at_54) (fun _ _ => ⟨rfl, e9, (by decide : 0 + 0 ≤ _), (by decide : 0 + 0 ≤ _)⟩)
    dsimp only [Pt.U, Pt.locs, Pt.cells, Pt.slots] at X10 l10 y10 z10 st10 hQ10
    subst l10 y10 z10
    obtain ⟨rfl, N10, e10⟩ := hQ10
    refine own_by (B := T10.setTop (mkF m 57 #[.val (.int ua), .val (.int (3 : Int32)), .val (.ref a_PUBLISH), .val (.int (0 : Int32))] [(.int (own_sent a_PUBLISH a_CONNACK a_SUBACK a_UNSUBACK a_PINGRESP))])) (fun _ k => st10.trans k) ?_
    have M10 := Fr.app M9 N10
    rw [show (own_sent a_PUBLISH a_CONNACK a_SUBACK a_UNSUBACK a_PINGRESP) = (0 : Int32) from by unfold own_sent; rw [if_neg (Fld.ne F_PUBLISH_ordinal F_CONNACK_ordinal (by decide)), if_neg (Fld.ne F_PUBLISH_ordinal F_SUBACK_ordinal (by decide)), if_neg (Fld.ne F_PUBLISH_ordinal F_UNSUBACK_ordinal (by decide)), if_neg (Fld.ne F_PUBLISH_ordinal F_PINGRESP_ordinal (by decide))]]
    refine own_by (B := T10.setTop (mkF m 58 #[.val (.int ua), .val (.int (3 : Int32)), .val (.ref a_PUBLISH), .val (.int (0 : Int32))] [(.int (0 : Int32)), (.int (0 : Int32))])) (fun _ k => XS.iloadN X10.here hx rfl (hb hby at_57) rfl  k) ?_
    refine own_by (B := T10.setTop (mkF m 61 #[.val (.int ua), .val (.int (3 : Int32)), .val (.ref a_PUBLISH), .val (.int (0 : Int32))] [])) (fun _ k => XS.icmpNo X10.here hx rfl (hb hby at_58) rfl (XT.ii_ne_f (by decide)) k) ?_
    refine own_by (B := T10.setTop (mkF m 62 #[.val (.int ua), .val (.int (3 : Int32)), .val (.ref a_PUBLISH), .val (.int (0 : Int32))] [(.int (1 : Int32))])) (fun _ k => XS.iconst X10.here hx rfl (hb hby at_61) k) ?_
    refine own_by (B := T10.setTop (mkF m 66 #[.val (.int ua), .val (.int (3 : Int32)), .val (.ref a_PUBLISH), .val (.int (0 : Int32))] [(.int (1 : Int32))])) (fun _ k => XS.goto X10.here hx rfl (pc0 := 62) (pc' := 66) rfl (hb hby at_62) (by decide) (by decide) k) ?_
    exact own_retZ X10 hx hrt hlk rfl (hb hby at_66) (by decide) (by decide) ⟨rfl, M10⟩
  · refine own_by (B := s₁.setTop (mkF m 5 #[.val (.int ua), .val (.int (4 : Int32)), .unset, .unset] [])) (fun _ k => XS.istoreN X0.here hx rfl (hb hby at_4) rfl (l' := #[.val (.int ua), .val (.int (4 : Int32)), .unset, .unset]) rfl k) ?_
    refine own_by (B := s₁.setTop (mkF m 6 #[.val (.int ua), .val (.int (4 : Int32)), .unset, .unset] [(.int (4 : Int32))])) (fun _ k => XS.iloadN X0.here hx rfl (hb hby at_5) rfl  k) ?_
    obtain ⟨_, _, ⟨T11, L11, k11, n11⟩, -, X11, ⟨Lc11, hQ11, l11, y11, z11⟩, st11⟩ := Jvm.LawKit.callS X0 hx (y := (⟨"com/example/mqtt_packet_codec/mqttpacketcodec/PacketType", "fromCode", "(I)Lcom/example/mqtt_packet_codec/mqttpacketcodec/PacketType;"⟩ : MethodName)) hown (mvT hZ (hw _ (List.mem_of_getElem? (i := 0) rfl))) (mvT hZ (hw _ (List.mem_of_getElem? (i := 1) rfl))) (mvT hZ (hw _ (List.mem_of_getElem? (i := 2) rfl))) (mvT hZ (hw _ (List.mem_of_getElem? (i := 3) rfl))) (by decide) (backOf (W := 0) (rm1 l Z a0 hw [] a_PUBLISH a_CONNACK a_SUBACK a_UNSUBACK a_PINGRESP a_DISCONNECT a_AUTH a_UNSUBSCRIBE a_PUBCOMP a_SUBSCRIBE a_CONNECT a_PUBACK a_PINGREQ a_PUBREL a_PUBREC a_BY_CODE k_BY_CODE (4 : Int32) h0 n0 Z0 HW) hZ (hw _ (List.mem_of_getElem? (i := 3) rfl)) (hw _ (List.mem_of_getElem? (i := 2) rfl)) (by decide) (by decide)) (g := (mkF m 6 #[.val (.int ua), .val (.int (4 : Int32)), .unset, .unset] [(.int (4 : Int32))])) rfl (by rw [hml]; rfl) (argsL := [(.int (4 : Int32))]) (rest := []) (lenOf pd_0__I_Lcom_example_mqtt_packet_codec_mqttpacketcodec_PacketType_ rfl) rfl (by show 2 * 0 + _ ≤ _; exact Nat.le_of_eq rfl) (hb hby at_6) (fun _ _ => ⟨rfl, e0, (by decide : 0 + 0 ≤ _), (by decide : 0 + 0 ≤ _)⟩)
    dsimp only [Pt.U, Pt.locs, Pt.cells, Pt.slots] at X11 l11 y11 z11 st11 hQ11
    subst l11 y11 z11
    obtain ⟨rfl, N11, e11⟩ := hQ11
    refine own_by (B := T11.setTop (mkF m 9 #[.val (.int ua), .val (.int (4 : Int32)), .unset, .unset] [(own_f1 (4 : Int32) a_CONNECT a_CONNACK a_PUBLISH a_PUBACK a_PUBREC a_PUBREL a_PUBCOMP a_SUBSCRIBE a_SUBACK a_UNSUBSCRIBE a_UNSUBACK a_PINGREQ a_PINGRESP a_DISCONNECT a_AUTH)])) st11 ?_
    have M11 := Fr.app N0 N11
    rw [show (own_f1 (4 : Int32) a_CONNECT a_CONNACK a_PUBLISH a_PUBACK a_PUBREC a_PUBREL a_PUBCOMP a_SUBSCRIBE a_SUBACK a_UNSUBSCRIBE a_UNSUBACK a_PINGREQ a_PINGRESP a_DISCONNECT a_AUTH) = (.ref a_PUBACK) from by unfold own_f1; rw [if_neg (by decide), if_pos (by decide)]; rfl]
    refine own_by (B := T11.setTop (mkF m 10 #[.val (.int ua), .val (.int (4 : Int32)), .val (.ref a_PUBACK), .unset] [])) (fun _ k => XS.astoreN X11.here hx rfl (hb hby at_9) rfl rfl (l' := #[.val (.int ua), .val (.int (4 : Int32)), .val (.ref a_PUBACK), .unset]) rfl k) ?_
    refine own_by (B := T11.setTop (mkF m 11 #[.val (.int ua), .val (.int (4 : Int32)), .val (.ref a_PUBACK), .unset] [(.ref a_PUBACK)])) (fun _ k => XS.aloadN X11.here hx rfl (hb hby at_10) rfl rfl  k) ?_
    refine own_by (B := T11.setTop (mkF m 16 #[.val (.int ua), .val (.int (4 : Int32)), .val (.ref a_PUBACK), .unset] [])) (fun _ k => XT.ifnonnullYes X11.here hx rfl (pc0 := 11) (pc' := 16) rfl (hb hby at_11) rfl (by decide) (by decide) k) ?_
    refine own_by (B := T11.setTop (mkF m 17 #[.val (.int ua), .val (.int (4 : Int32)), .val (.ref a_PUBACK), .unset] [(.int (4 : Int32))])) (fun _ k => XS.iloadN X11.here hx rfl (hb hby at_16) rfl  k) ?_
    refine own_by (B := T11.setTop (mkF m 18 #[.val (.int ua), .val (.int (4 : Int32)), .val (.ref a_PUBACK), .unset] [(.int (2 : Int32)), (.int (4 : Int32))])) (fun _ k => XS.iconst X11.here hx rfl (hb hby at_17) k) ?_
    refine own_by (B := T11.setTop (mkF m 21 #[.val (.int ua), .val (.int (4 : Int32)), .val (.ref a_PUBACK), .unset] [])) (fun _ k => XS.icmpNo X11.here hx rfl (hb hby at_18) rfl (XT.ii_eq_f (by decide)) k) ?_
    refine own_by (B := T11.setTop (mkF m 22 #[.val (.int ua), .val (.int (4 : Int32)), .val (.ref a_PUBACK), .unset] [(.int (4 : Int32))])) (fun _ k => XS.iloadN X11.here hx rfl (hb hby at_21) rfl  k) ?_
    refine own_by (B := T11.setTop (mkF m 24 #[.val (.int ua), .val (.int (4 : Int32)), .val (.ref a_PUBACK), .unset] [(.int (9 : Int32)), (.int (4 : Int32))])) (fun _ k => XS.bipush X11.here hx rfl (hb hby at_22) k) ?_
    refine own_by (B := T11.setTop (mkF m 27 #[.val (.int ua), .val (.int (4 : Int32)), .val (.ref a_PUBACK), .unset] [])) (fun _ k => XS.icmpNo X11.here hx rfl (hb hby at_24) rfl (XT.ii_eq_f (by decide)) k) ?_
    refine own_by (B := T11.setTop (mkF m 28 #[.val (.int ua), .val (.int (4 : Int32)), .val (.ref a_PUBACK), .unset] [(.int (4 : Int32))])) (fun _ k => XS.iloadN X11.here hx rfl (hb hby at_27) rfl  k) ?_
    refine own_by (B := T11.setTop (mkF m 30 #[.val (.int ua), .val (.int (4 : Int32)), .val (.ref a_PUBACK), .unset] [(.int (11 : Int32)), (.int (4 : Int32))])) (fun _ k => XS.bipush X11.here hx rfl (hb hby at_28) k) ?_
    refine own_by (B := T11.setTop (mkF m 33 #[.val (.int ua), .val (.int (4 : Int32)), .val (.ref a_PUBACK), .unset] [])) (fun _ k => XS.icmpNo X11.here hx rfl (hb hby at_30) rfl (XT.ii_eq_f (by decide)) k) ?_
    refine own_by (B := T11.setTop (mkF m 34 #[.val (.int ua), .val (.int (4 : Int32)), .val (.ref a_PUBACK), .unset] [(.int (4 : Int32))])) (fun _ k => XS.iloadN X11.here hx rfl (hb hby at_33) rfl  k) ?_
    refine own_by (B := T11.setTop (mkF m 36 #[.val (.int ua), .val (.int (4 : Int32)), .val (.ref a_PUBACK), .unset] [(.int (13 : Int32)), (.int (4 : Int32))])) (fun _ k => XS.bipush X11.here hx rfl (hb hby at_34) k) ?_
    refine own_by (B := T11.setTop (mkF m 43 #[.val (.int ua), .val (.int (4 : Int32)), .val (.ref a_PUBACK), .unset] [])) (fun _ k => XS.icmpYes X11.here hx rfl (pc0 := 36) (pc' := 43) rfl (hb hby at_36) rfl (XT.ii_ne_t (by decide)) (by decide) (by decide) k) ?_
    refine own_by (B := T11.setTop (mkF m 44 #[.val (.int ua), .val (.int (4 : Int32)), .val (.ref a_PUBACK), .unset] [(.int (0 : Int32))])) (fun _ k => XS.iconst X11.here hx rfl (hb hby at_43) k) ?_
    refine own_by (B := T11.setTop (mkF m 45 #[.val (.int ua), .val (.int (4 : Int32)), .val (.ref a_PUBACK), .val (.int (0 : Int32))] [])) (fun _ k => XS.istoreN X11.here hx rfl (hb hby at_44) rfl (l' := #[.val (.int ua), .val (.int (4 : Int32)), .val (.ref a_PUBACK), .val (.int (0 : Int32))]) rfl k) ?_
    refine own_by (B := T11.setTop (mkF m 46 #[.val (.int ua), .val (.int (4 : Int32)), .val (.ref a_PUBACK), .val (.int (0 : Int32))] [(.ref a_PUBACK)])) (fun _ k => XS.aloadN X11.here hx rfl (hb hby at_45) rfl rfl  k) ?_
    obtain ⟨cq12, kq12, qa12, qb12, qc12⟩ := isOf hZ e11 E_PUBACK
    obtain ⟨_, _, ⟨T12, L12, k12, n12⟩, -, X12, ⟨Lc12, hQ12, l12, y12, z12⟩, st12⟩ := X11.virtualBack hx (y := (⟨"com/example/mqtt_packet_codec/mqttpacketcodec/PacketType", "code", "()I"⟩ : MethodName)) (z := (⟨"com/example/mqtt_packet_codec/mqttpacketcodec/PacketType", "code", "()I"⟩ : MethodName)) hown (mvT hZ (hw _ (List.mem_of_getElem? (i := 7) rfl))) (mvT hZ (hw _ (List.mem_of_getElem? (i := 8) rfl))) (notFace_of_selects (args := #[]) (mvT hZ (hw _ (List.mem_of_getElem? (i := 10) rfl)))) (mvT hZ (hw _ (List.mem_of_getElem? (i := 10) rfl))) (mvT hZ (hw _ (List.mem_of_getElem? (i := 9) rfl))) (by decide) (backOf (W := 0) (rm2 l Z a0 hw [] a_PUBACK (4 : Int32) h0 n0 Z0 F_PUBACK_code) hZ (hw _ (List.mem_of_getElem? (i := 11) rfl)) (hw _ (List.mem_of_getElem? (i := 2) rfl)) (by decide) (by decide)) qa12 qc12 (g := (mkF m 46 #[.val (.int ua), .val (.int (4 : Int32)), .val (.ref a_PUBACK), .val (.int (0 : Int32))] [(.ref a_PUBACK)])) rfl (by rw [hml]; rfl) (Steps.refl _) (argsL := []) (rest := []) (lenOf pd_0___I rfl) rfl (by show 2 * 0 + _ ≤ _; exact Nat.le_of_eq rfl) (hb hby at_46) (fun _ _ => ⟨rfl, e11, (by decide : 0 + 0 ≤ _), (by decide : 0 + 0 ≤ _)⟩)
    dsimp only [Pt.U, Pt.locs, Pt.cells, Pt.slots] at X12 l12 y12 z12 st12 hQ12
    subst l12 y12 z12
    obtain ⟨rfl, N12, e12⟩ := hQ12
    refine own_by (B := T12.setTop (mkF m 49 #[.val (.int ua), .val (.int (4 : Int32)), .val (.ref a_PUBACK), .val (.int (0 : Int32))] [(.int (own_code (4 : Int32)))])) (fun _ k => st12.trans k) ?_
    have M12 := Fr.app M11 N12
    rw [show (own_code (4 : Int32)) = (4 : Int32) from rfl]
    refine own_by (B := T12.setTop (mkF m 50 #[.val (.int ua), .val (.int (4 : Int32)), .val (.ref a_PUBACK), .val (.int (0 : Int32))] [(.int (4 : Int32)), (.int (4 : Int32))])) (fun _ k => XS.iloadN X12.here hx rfl (hb hby at_49) rfl  k) ?_
    refine own_by (B := T12.setTop (mkF m 53 #[.val (.int ua), .val (.int (4 : Int32)), .val (.ref a_PUBACK), .val (.int (0 : Int32))] [])) (fun _ k => XS.icmpNo X12.here hx rfl (hb hby at_50) rfl (XT.ii_ne_f (by decide)) k) ?_
    refine own_by (B := T12.setTop (mkF m 54 #[.val (.int ua), .val (.int (4 : Int32)), .val (.ref a_PUBACK), .val (.int (0 : Int32))] [(.ref a_PUBACK)])) (fun _ k => XS.aloadN X12.here hx rfl (hb hby at_53) rfl rfl  k) ?_
    obtain ⟨cq13, kq13, qa13, qb13, qc13⟩ := isOf hZ e12 E_PUBACK
    obtain ⟨_, _, ⟨T13, L13, k13, n13⟩, -, X13, ⟨Lc13, hQ13, l13, y13, z13⟩, st13⟩ := X12.virtualBack hx (y := (⟨"com/example/mqtt_packet_codec/mqttpacketcodec/PacketType", "sentByServerOnly", "()Z"⟩ : MethodName)) (z := (⟨"com/example/mqtt_packet_codec/mqttpacketcodec/PacketType", "sentByServerOnly", "()Z"⟩ : MethodName)) hown (mvT hZ (hw _ (List.mem_of_getElem? (i := 14) rfl))) (mvT hZ (hw _ (List.mem_of_getElem? (i := 15) rfl))) (notFace_of_selects (args := #[]) (mvT hZ (hw _ (List.mem_of_getElem? (i := 17) rfl)))) (mvT hZ (hw _ (List.mem_of_getElem? (i := 17) rfl))) (mvT hZ (hw _ (List.mem_of_getElem? (i := 16) rfl))) (by decide) (backOf (W := 0) (rm3 l Z a0 hw [] a_PUBLISH a_CONNACK a_SUBACK a_UNSUBACK a_PINGRESP a_DISCONNECT a_AUTH a_UNSUBSCRIBE a_PUBCOMP a_SUBSCRIBE a_CONNECT a_PUBACK a_PINGREQ a_PUBREL a_PUBREC a_BY_CODE k_BY_CODE a_PUBACK h0 n0 Z0 HW) hZ (hw _ (List.mem_of_getElem? (i := 18) rfl)) (hw _ (List.mem_of_getElem? (i := 2) rfl)) (by decide) (by decide)) qa13 qc13 (g := (mkF m 54 #[.val (.int ua), .val (.int (4 : Int32)), .val (.ref a_PUBACK), .val (.int (0 : Int32))] [(.ref a_PUBACK)])) rfl (by rw [hml]; rfl) (Steps.refl _) (argsL := []) (rest := []) (lenOf pd_0___Z rfl) rfl (by show 2 * 0 + _ ≤ _; exact Nat.le_of_eq rfl) (hb hby at_54) (fun _ _ => ⟨rfl, e12, (by decide : 0 + 0 ≤ _), (by decide : 0 + 0 ≤ _)⟩)
    dsimp only [Pt.U, Pt.locs, Pt.cells, Pt.slots] at X13 l13 y13 z13 st13 hQ13
    subst l13 y13 z13
    obtain ⟨rfl, N13, e13⟩ := hQ13
    refine own_by (B := T13.setTop (mkF m 57 #[.val (.int ua), .val (.int (4 : Int32)), .val (.ref a_PUBACK), .val (.int (0 : Int32))] [(.int (own_sent a_PUBACK a_CONNACK a_SUBACK a_UNSUBACK a_PINGRESP))])) (fun _ k => st13.trans k) ?_
    have M13 := Fr.app M12 N13
    rw [show (own_sent a_PUBACK a_CONNACK a_SUBACK a_UNSUBACK a_PINGRESP) = (0 : Int32) from by unfold own_sent; rw [if_neg (Fld.ne F_PUBACK_ordinal F_CONNACK_ordinal (by decide)), if_neg (Fld.ne F_PUBACK_ordinal F_SUBACK_ordinal (by decide)), if_neg (Fld.ne F_PUBACK_ordinal F_UNSUBACK_ordinal (by decide)), if_neg (Fld.ne F_PUBACK_ordinal F_PINGRESP_ordinal (by decide))]]
    refine own_by (B := T13.setTop (mkF m 58 #[.val (.int ua), .val (.int (4 : Int32)), .val (.ref a_PUBACK), .val (.int (0 : Int32))] [(.int (0 : Int32)), (.int (0 : Int32))])) (fun _ k => XS.iloadN X13.here hx rfl (hb hby at_57) rfl  k) ?_
    refine own_by (B := T13.setTop (mkF m 61 #[.val (.int ua), .val (.int (4 : Int32)), .val (.ref a_PUBACK), .val (.int (0 : Int32))] [])) (fun _ k => XS.icmpNo X13.here hx rfl (hb hby at_58) rfl (XT.ii_ne_f (by decide)) k) ?_
    refine own_by (B := T13.setTop (mkF m 62 #[.val (.int ua), .val (.int (4 : Int32)), .val (.ref a_PUBACK), .val (.int (0 : Int32))] [(.int (1 : Int32))])) (fun _ k => XS.iconst X13.here hx rfl (hb hby at_61) k) ?_
    refine own_by (B := T13.setTop (mkF m 66 #[.val (.int ua), .val (.int (4 : Int32)), .val (.ref a_PUBACK), .val (.int (0 : Int32))] [(.int (1 : Int32))])) (fun _ k => XS.goto X13.here hx rfl (pc0 := 62) (pc' := 66) rfl (hb hby at_62) (by decide) (by decide) k) ?_
    exact own_retZ X13 hx hrt hlk rfl (hb hby at_66) (by decide) (by decide) ⟨rfl, M13⟩
  · refine own_by (B := s₁.setTop (mkF m 5 #[.val (.int ua), .val (.int (5 : Int32)), .unset, .unset] [])) (fun _ k => XS.istoreN X0.here hx rfl (hb hby at_4) rfl (l' := #[.val (.int ua), .val (.int (5 : Int32)), .unset, .unset]) rfl k) ?_
    refine own_by (B := s₁.setTop (mkF m 6 #[.val (.int ua), .val (.int (5 : Int32)), .unset, .unset] [(.int (5 : Int32))])) (fun _ k => XS.iloadN X0.here hx rfl (hb hby at_5) rfl  k) ?_
    obtain ⟨_, _, ⟨T14, L14, k14, n14⟩, -, X14, ⟨Lc14, hQ14, l14, y14, z14⟩, st14⟩ := Jvm.LawKit.callS X0 hx (y := (⟨"com/example/mqtt_packet_codec/mqttpacketcodec/PacketType", "fromCode", "(I)Lcom/example/mqtt_packet_codec/mqttpacketcodec/PacketType;"⟩ : MethodName)) hown (mvT hZ (hw _ (List.mem_of_getElem? (i := 0) rfl))) (mvT hZ (hw _ (List.mem_of_getElem? (i := 1) rfl))) (mvT hZ (hw _ (List.mem_of_getElem? (i := 2) rfl))) (mvT hZ (hw _ (List.mem_of_getElem? (i := 3) rfl))) (by decide) (backOf (W := 0) (rm1 l Z a0 hw [] a_PUBLISH a_CONNACK a_SUBACK a_UNSUBACK a_PINGRESP a_DISCONNECT a_AUTH a_UNSUBSCRIBE a_PUBCOMP a_SUBSCRIBE a_CONNECT a_PUBACK a_PINGREQ a_PUBREL a_PUBREC a_BY_CODE k_BY_CODE (5 : Int32) h0 n0 Z0 HW) hZ (hw _ (List.mem_of_getElem? (i := 3) rfl)) (hw _ (List.mem_of_getElem? (i := 2) rfl)) (by decide) (by decide)) (g := (mkF m 6 #[.val (.int ua), .val (.int (5 : Int32)), .unset, .unset] [(.int (5 : Int32))])) rfl (by rw [hml]; rfl) (argsL := [(.int (5 : Int32))]) (rest := []) (lenOf pd_0__I_Lcom_example_mqtt_packet_codec_mqttpacketcodec_PacketType_ rfl) rfl (by show 2 * 0 + _ ≤ _; exact Nat.le_of_eq rfl) (hb hby at_6) (fun _ _ => ⟨rfl, e0, (by decide : 0 + 0 ≤ _), (by decide : 0 + 0 ≤ _)⟩)
    dsimp only [Pt.U, Pt.locs, Pt.cells, Pt.slots] at X14 l14 y14 z14 st14 hQ14
    subst l14 y14 z14
    obtain ⟨rfl, N14, e14⟩ := hQ14
    refine own_by (B := T14.setTop (mkF m 9 #[.val (.int ua), .val (.int (5 : Int32)), .unset, .unset] [(own_f1 (5 : Int32) a_CONNECT a_CONNACK a_PUBLISH a_PUBACK a_PUBREC a_PUBREL a_PUBCOMP a_SUBSCRIBE a_SUBACK a_UNSUBSCRIBE a_UNSUBACK a_PINGREQ a_PINGRESP a_DISCONNECT a_AUTH)])) st14 ?_
    have M14 := Fr.app N0 N14
    rw [show (own_f1 (5 : Int32) a_CONNECT a_CONNACK a_PUBLISH a_PUBACK a_PUBREC a_PUBREL a_PUBCOMP a_SUBSCRIBE a_SUBACK a_UNSUBSCRIBE a_UNSUBACK a_PINGREQ a_PINGRESP a_DISCONNECT a_AUTH) = (.ref a_PUBREC) from by unfold own_f1; rw [if_neg (by decide), if_pos (by decide)]; rfl]
    refine own_by (B := T14.setTop (mkF m 10 #[.val (.int ua), .val (.int (5 : Int32)), .val (.ref a_PUBREC), .unset] [])) (fun _ k => XS.astoreN X14.here hx rfl (hb hby at_9) rfl rfl (l' := #[.val (.int ua), .val (.int (5 : Int32)), .val (.ref a_PUBREC), .unset]) rfl k) ?_
    refine own_by (B := T14.setTop (mkF m 11 #[.val (.int ua), .val (.int (5 : Int32)), .val (.ref a_PUBREC), .unset] [(.ref a_PUBREC)])) (fun _ k => XS.aloadN X14.here hx rfl (hb hby at_10) rfl rfl  k) ?_
    refine own_by (B := T14.setTop (mkF m 16 #[.val (.int ua), .val (.int (5 : Int32)), .val (.ref a_PUBREC), .unset] [])) (fun _ k => XT.ifnonnullYes X14.here hx rfl (pc0 := 11) (pc' := 16) rfl (hb hby at_11) rfl (by decide) (by decide) k) ?_
    refine own_by (B := T14.setTop (mkF m 17 #[.val (.int ua), .val (.int (5 : Int32)), .val (.ref a_PUBREC), .unset] [(.int (5 : Int32))])) (fun _ k => XS.iloadN X14.here hx rfl (hb hby at_16) rfl  k) ?_
    refine own_by (B := T14.setTop (mkF m 18 #[.val (.int ua), .val (.int (5 : Int32)), .val (.ref a_PUBREC), .unset] [(.int (2 : Int32)), (.int (5 : Int32))])) (fun _ k => XS.iconst X14.here hx rfl (hb hby at_17) k) ?_
    refine own_by (B := T14.setTop (mkF m 21 #[.val (.int ua), .val (.int (5 : Int32)), .val (.ref a_PUBREC), .unset] [])) (fun _ k => XS.icmpNo X14.here hx rfl (hb hby at_18) rfl (XT.ii_eq_f (by decide)) k) ?_
    refine own_by (B := T14.setTop (mkF m 22 #[.val (.int ua), .val (.int (5 : Int32)), .val (.ref a_PUBREC), .unset] [(.int (5 : Int32))])) (fun _ k => XS.iloadN X14.here hx rfl (hb hby at_21) rfl  k) ?_
    refine own_by (B := T14.setTop (mkF m 24 #[.val (.int ua), .val (.int (5 : Int32)), .val (.ref a_PUBREC), .unset] [(.int (9 : Int32)), (.int (5 : Int32))])) (fun _ k => XS.bipush X14.here hx rfl (hb hby at_22) k) ?_
    refine own_by (B := T14.setTop (mkF m 27 #[.val (.int ua), .val (.int (5 : Int32)), .val (.ref a_PUBREC), .unset] [])) (fun _ k => XS.icmpNo X14.here hx rfl (hb hby at_24) rfl (XT.ii_eq_f (by decide)) k) ?_
    refine own_by (B := T14.setTop (mkF m 28 #[.val (.int ua), .val (.int (5 : Int32)), .val (.ref a_PUBREC), .unset] [(.int (5 : Int32))])) (fun _ k => XS.iloadN X14.here hx rfl (hb hby at_27) rfl  k) ?_
    refine own_by (B := T14.setTop (mkF m 30 #[.val (.int ua), .val (.int (5 : Int32)), .val (.ref a_PUBREC), .unset] [(.int (11 : Int32)), (.int (5 : Int32))])) (fun _ k => XS.bipush X14.here hx rfl (hb hby at_28) k) ?_
    refine own_by (B := T14.setTop (mkF m 33 #[.val (.int ua), .val (.int (5 : Int32)), .val (.ref a_PUBREC), .unset] [])) (fun _ k => XS.icmpNo X14.here hx rfl (hb hby at_30) rfl (XT.ii_eq_f (by decide)) k) ?_
    refine own_by (B := T14.setTop (mkF m 34 #[.val (.int ua), .val (.int (5 : Int32)), .val (.ref a_PUBREC), .unset] [(.int (5 : Int32))])) (fun _ k => XS.iloadN X14.here hx rfl (hb hby at_33) rfl  k) ?_
    refine own_by (B := T14.setTop (mkF m 36 #[.val (.int ua), .val (.int (5 : Int32)), .val (.ref a_PUBREC), .unset] [(.int (13 : Int32)), (.int (5 : Int32))])) (fun _ k => XS.bipush X14.here hx rfl (hb hby at_34) k) ?_
    refine own_by (B := T14.setTop (mkF m 43 #[.val (.int ua), .val (.int (5 : Int32)), .val (.ref a_PUBREC), .unset] [])) (fun _ k => XS.icmpYes X14.here hx rfl (pc0 := 36) (pc' := 43) rfl (hb hby at_36) rfl (XT.ii_ne_t (by decide)) (by decide) (by decide) k) ?_
    refine own_by (B := T14.setTop (mkF m 44 #[.val (.int ua), .val (.int (5 : Int32)), .val (.ref a_PUBREC), .unset] [(.int (0 : Int32))])) (fun _ k => XS.iconst X14.here hx rfl (hb hby at_43) k) ?_
    refine own_by (B := T14.setTop (mkF m 45 #[.val (.int ua), .val (.int (5 : Int32)), .val (.ref a_PUBREC), .val (.int (0 : Int32))] [])) (fun _ k => XS.istoreN X14.here hx rfl (hb hby at_44) rfl (l' := #[.val (.int ua), .val (.int (5 : Int32)), .val (.ref a_PUBREC), .val (.int (0 : Int32))]) rfl k) ?_
    refine own_by (B := T14.setTop (mkF m 46 #[.val (.int ua), .val (.int (5 : Int32)), .val (.ref a_PUBREC), .val (.int (0 : Int32))] [(.ref a_PUBREC)])) (fun _ k => XS.aloadN X14.here hx rfl (hb hby at_45) rfl rfl  k) ?_
    obtain ⟨cq15, kq15, qa15, qb15, qc15⟩ := isOf hZ e14 E_PUBREC
    obtain ⟨_, _, ⟨T15, L15, k15, n15⟩, -, X15, ⟨Lc15, hQ15, l15, y15, z15⟩, st15⟩ := X14.virtualBack hx (y := (⟨"com/example/mqtt_packet_codec/mqttpacketcodec/PacketType", "code", "()I"⟩ : MethodName)) (z := (⟨"com/example/mqtt_packet_codec/mqttpacketcodec/PacketType", "code", "()I"⟩ : MethodName)) hown (mvT hZ (hw _ (List.mem_of_getElem? (i := 7) rfl))) (mvT hZ (hw _ (List.mem_of_getElem? (i := 8) rfl))) (notFace_of_selects (args := #[]) (mvT hZ (hw _ (List.mem_of_getElem? (i := 10) rfl)))) (mvT hZ (hw _ (List.mem_of_getElem? (i := 10) rfl))) (mvT hZ (hw _ (List.mem_of_getElem? (i := 9) rfl))) (by decide) (backOf (W := 0) (rm2 l Z a0 hw [] a_PUBREC (5 : Int32) h0 n0 Z0 F_PUBREC_code) hZ (hw _ (List.mem_of_getElem? (i := 11) rfl)) (hw _ (List.mem_of_getElem? (i := 2) rfl)) (by decide) (by decide)) qa15 qc15 (g := (mkF m 46 #[.val (.int ua), .val (.int (5 : Int32)), .val (.ref a_PUBREC), .val (.int (0 : Int32))] [(.ref a_PUBREC)])) rfl (by rw [hml]; rfl) (Steps.refl _) (argsL := []) (rest := []) (lenOf pd_0___I rfl) rfl (by show 2 * 0 + _ ≤ _; exact Nat.le_of_eq rfl) (hb hby at_46) (fun _ _ => ⟨rfl, e14, (by decide : 0 + 0 ≤ _), (by decide : 0 + 0 ≤ _)⟩)
    dsimp only [Pt.U, Pt.locs, Pt.cells, Pt.slots] at X15 l15 y15 z15 st15 hQ15
    subst l15 y15 z15
    obtain ⟨rfl, N15, e15⟩ := hQ15
    refine own_by (B := T15.setTop (mkF m 49 #[.val (.int ua), .val (.int (5 : Int32)), .val (.ref a_PUBREC), .val (.int (0 : Int32))] [(.int (own_code (5 : Int32)))])) (fun _ k => st15.trans k) ?_
    have M15 := Fr.app M14 N15
    rw [show (own_code (5 : Int32)) = (5 : Int32) from rfl]
    refine own_by (B := T15.setTop (mkF m 50 #[.val (.int ua), .val (.int (5 : Int32)), .val (.ref a_PUBREC), .val (.int (0 : Int32))] [(.int (5 : Int32)), (.int (5 : Int32))])) (fun _ k => XS.iloadN X15.here hx rfl (hb hby at_49) rfl  k) ?_
    refine own_by (B := T15.setTop (mkF m 53 #[.val (.int ua), .val (.int (5 : Int32)), .val (.ref a_PUBREC), .val (.int (0 : Int32))] [])) (fun _ k => XS.icmpNo X15.here hx rfl (hb hby at_50) rfl (XT.ii_ne_f (by decide)) k) ?_
    refine own_by (B := T15.setTop (mkF m 54 #[.val (.int ua), .val (.int (5 : Int32)), .val (.ref a_PUBREC), .val (.int (0 : Int32))] [(.ref a_PUBREC)])) (fun _ k => XS.aloadN X15.here hx rfl (hb hby at_53) rfl rfl  k) ?_
    obtain ⟨cq16, kq16, qa16, qb16, qc16⟩ := isOf hZ e15 E_PUBREC
    obtain ⟨_, _, ⟨T16, L16, k16, n16⟩, -, X16, ⟨Lc16, hQ16, l16, y16, z16⟩, st16⟩ := X15.virtualBack hx (y := (⟨"com/example/mqtt_packet_codec/mqttpacketcodec/PacketType", "sentByServerOnly", "()Z"⟩ : MethodName)) (z := (⟨"com/example/mqtt_packet_codec/mqttpacketcodec/PacketType", "sentByServerOnly", "()Z"⟩ : MethodName)) hown (mvT hZ (hw _ (List.mem_of_getElem? (i := 14) rfl))) (mvT hZ (hw _ (List.mem_of_getElem? (i := 15) rfl))) (notFace_of_selects (args := #[]) (mvT hZ (hw _ (List.mem_of_getElem? (i := 17) rfl)))) (mvT hZ (hw _ (List.mem_of_getElem? (i := 17) rfl))) (mvT hZ (hw _ (List.mem_of_getElem? (i := 16) rfl))) (by decide) (backOf (W := 0) (rm3 l Z a0 hw [] a_PUBLISH a_CONNACK a_SUBACK a_UNSUBACK a_PINGRESP a_DISCONNECT a_AUTH a_UNSUBSCRIBE a_PUBCOMP a_SUBSCRIBE a_CONNECT a_PUBACK a_PINGREQ a_PUBREL a_PUBREC a_BY_CODE k_BY_CODE a_PUBREC h0 n0 Z0 HW) hZ (hw _ (List.mem_of_getElem? (i := 18) rfl)) (hw _ (List.mem_of_getElem? (i := 2) rfl)) (by decide) (by decide)) qa16 qc16 (g := (mkF m 54 #[.val (.int ua), .val (.int (5 : Int32)), .val (.ref a_PUBREC), .val (.int (0 : Int32))] [(.ref a_PUBREC)])) rfl (by rw [hml]; rfl) (Steps.refl _) (argsL := []) (rest := []) (lenOf pd_0___Z rfl) rfl (by show 2 * 0 + _ ≤ _; exact Nat.le_of_eq rfl) (hb hby at_54) (fun _ _ => ⟨rfl, e15, (by decide : 0 + 0 ≤ _), (by decide : 0 + 0 ≤ _)⟩)
    dsimp only [Pt.U, Pt.locs, Pt.cells, Pt.slots] at X16 l16 y16 z16 st16 hQ16
    subst l16 y16 z16
    obtain ⟨rfl, N16, e16⟩ := hQ16
    refine own_by (B := T16.setTop (mkF m 57 #[.val (.int ua), .val (.int (5 : Int32)), .val (.ref a_PUBREC), .val (.int (0 : Int32))] [(.int (own_sent a_PUBREC a_CONNACK a_SUBACK a_UNSUBACK a_PINGRESP))])) (fun _ k => st16.trans k) ?_
    have M16 := Fr.app M15 N16
    rw [show (own_sent a_PUBREC a_CONNACK a_SUBACK a_UNSUBACK a_PINGRESP) = (0 : Int32) from by unfold own_sent; rw [if_neg (Fld.ne F_PUBREC_ordinal F_CONNACK_ordinal (by decide)), if_neg (Fld.ne F_PUBREC_ordinal F_SUBACK_ordinal (by decide)), if_neg (Fld.ne F_PUBREC_ordinal F_UNSUBACK_ordinal (by decide)), if_neg (Fld.ne F_PUBREC_ordinal F_PINGRESP_ordinal (by decide))]]
    refine own_by (B := T16.setTop (mkF m 58 #[.val (.int ua), .val (.int (5 : Int32)), .val (.ref a_PUBREC), .val (.int (0 : Int32))] [(.int (0 : Int32)), (.int (0 : Int32))])) (fun _ k => XS.iloadN X16.here hx rfl (hb hby at_57) rfl  k) ?_
    refine own_by (B := T16.setTop (mkF m 61 #[.val (.int ua), .val (.int (5 : Int32)), .val (.ref a_PUBREC), .val (.int (0 : Int32))] [])) (fun _ k => XS.icmpNo X16.here hx rfl (hb hby at_58) rfl (XT.ii_ne_f (by decide)) k) ?_
    refine own_by (B := T16.setTop (mkF m 62 #[.val (.int ua), .val (.int (5 : Int32)), .val (.ref a_PUBREC), .val (.int (0 : Int32))] [(.int (1 : Int32))])) (fun _ k => XS.iconst X16.here hx rfl (hb hby at_61) k) ?_
    refine own_by (B := T16.setTop (mkF m 66 #[.val (.int ua), .val (.int (5 : Int32)), .val (.ref a_PUBREC), .val (.int (0 : Int32))] [(.int (1 : Int32))])) (fun _ k => XS.goto X16.here hx rfl (pc0 := 62) (pc' := 66) rfl (hb hby at_62) (by decide) (by decide) k) ?_
    exact own_retZ X16 hx hrt hlk rfl (hb hby at_66) (by decide) (by decide) ⟨rfl, M16⟩
  · refine own_by (B := s₁.setTop (mkF m 5 #[.val (.int ua), .val (.int (6 : Int32)), .unset, .unset] [])) (fun _ k => XS.istoreN X0.here hx rfl (hb hby at_4) rfl (l' := #[.val (.int ua), .val (.int (6 : Int32)), .unset, .unset]) rfl k) ?_
    refine own_by (B := s₁.setTop (mkF m 6 #[.val (.int ua), .val (.int (6 : Int32)), .unset, .unset] [(.int (6 : Int32))])) (fun _ k => XS.iloadN X0.here hx rfl (hb hby at_5) rfl  k) ?_
    obtain ⟨_, _, ⟨T17, L17, k17, n17⟩, -, X17, ⟨Lc17, hQ17, l17, y17, z17⟩, st17⟩ := Jvm.LawKit.callS X0 hx (y := (⟨"com/example/mqtt_packet_codec/mqttpacketcodec/PacketType", "fromCode", "(I)Lcom/example/mqtt_packet_codec/mqttpacketcodec/PacketType;"⟩ : MethodName)) hown (mvT hZ (hw _ (List.mem_of_getElem? (i := 0) rfl))) (mvT hZ (hw _ (List.mem_of_getElem? (i := 1) rfl))) (mvT hZ (hw _ (List.mem_of_getElem? (i := 2) rfl))) (mvT hZ (hw _ (List.mem_of_getElem? (i := 3) rfl))) (by decide) (backOf (W := 0) (rm1 l Z a0 hw [] a_PUBLISH a_CONNACK a_SUBACK a_UNSUBACK a_PINGRESP a_DISCONNECT a_AUTH a_UNSUBSCRIBE a_PUBCOMP a_SUBSCRIBE a_CONNECT a_PUBACK a_PINGREQ a_PUBREL a_PUBREC a_BY_CODE k_BY_CODE (6 : Int32) h0 n0 Z0 HW) hZ (hw _ (List.mem_of_getElem? (i := 3) rfl)) (hw _ (List.mem_of_getElem? (i := 2) rfl)) (by decide) (by decide)) (g := (mkF m 6 #[.val (.int ua), .val (.int (6 : Int32)), .unset, .unset] [(.int (6 : Int32))])) rfl (by rw [hml]; rfl) (argsL := [(.int (6 : Int32))]) (rest := []) (lenOf pd_0__I_Lcom_example_mqtt_packet_codec_mqttpacketcodec_PacketType_ rfl) rfl (by show 2 * 0 + _ ≤ _; exact Nat.le_of_eq rfl) (hb hby at_6) (fun _ _ => ⟨rfl, e0, (by decide : 0 + 0 ≤ _), (by decide : 0 + 0 ≤ _)⟩)
    dsimp only [Pt.U, Pt.locs, Pt.cells, Pt.slots] at X17 l17 y17 z17 st17 hQ17
    subst l17 y17 z17
    obtain ⟨rfl, N17, e17⟩ := hQ17
    refine own_by (B := T17.setTop (mkF m 9 #[.val (.int ua), .val (.int (6 : Int32)), .unset, .unset] [(own_f1 (6 : Int32) a_CONNECT a_CONNACK a_PUBLISH a_PUBACK a_PUBREC a_PUBREL a_PUBCOMP a_SUBSCRIBE a_SUBACK a_UNSUBSCRIBE a_UNSUBACK a_PINGREQ a_PINGRESP a_DISCONNECT a_AUTH)])) st17 ?_
    have M17 := Fr.app N0 N17
    rw [show (own_f1 (6 : Int32) a_CONNECT a_CONNACK a_PUBLISH a_PUBACK a_PUBREC a_PUBREL a_PUBCOMP a_SUBSCRIBE a_SUBACK a_UNSUBSCRIBE a_UNSUBACK a_PINGREQ a_PINGRESP a_DISCONNECT a_AUTH) = (.ref a_PUBREL) from by unfold own_f1; rw [if_neg (by decide), if_pos (by decide)]; rfl]
    refine own_by (B := T17.setTop (mkF m 10 #[.val (.int ua), .val (.int (6 : Int32)), .val (.ref a_PUBREL), .unset] [])) (fun _ k => XS.astoreN X17.here hx rfl (hb hby at_9) rfl rfl (l' := #[.val (.int ua), .val (.int (6 : Int32)), .val (.ref a_PUBREL), .unset]) rfl k) ?_
    refine own_by (B := T17.setTop (mkF m 11 #[.val (.int ua), .val (.int (6 : Int32)), .val (.ref a_PUBREL), .unset] [(.ref a_PUBREL)])) (fun _ k => XS.aloadN X17.here hx rfl (hb hby at_10) rfl rfl  k) ?_
    refine own_by (B := T17.setTop (mkF m 16 #[.val (.int ua), .val (.int (6 : Int32)), .val (.ref a_PUBREL), .unset] [])) (fun _ k => XT.ifnonnullYes X17.here hx rfl (pc0 := 11) (pc' := 16) rfl (hb hby at_11) rfl (by decide) (by decide) k) ?_
    refine own_by (B := T17.setTop (mkF m 17 #[.val (.int ua), .val (.int (6 : Int32)), .val (.ref a_PUBREL), .unset] [(.int (6 : Int32))])) (fun _ k => XS.iloadN X17.here hx rfl (hb hby at_16) rfl  k) ?_
    refine own_by (B := T17.setTop (mkF m 18 #[.val (.int ua), .val (.int (6 : Int32)), .val (.ref a_PUBREL), .unset] [(.int (2 : Int32)), (.int (6 : Int32))])) (fun _ k => XS.iconst X17.here hx rfl (hb hby at_17) k) ?_
    refine own_by (B := T17.setTop (mkF m 21 #[.val (.int ua), .val (.int (6 : Int32)), .val (.ref a_PUBREL), .unset] [])) (fun _ k => XS.icmpNo X17.here hx rfl (hb hby at_18) rfl (XT.ii_eq_f (by decide)) k) ?_
    refine own_by (B := T17.setTop (mkF m 22 #[.val (.int ua), .val (.int (6 : Int32)), .val (.ref a_PUBREL), .unset] [(.int (6 : Int32))])) (fun _ k => XS.iloadN X17.here hx rfl (hb hby at_21) rfl  k) ?_
    refine own_by (B := T17.setTop (mkF m 24 #[.val (.int ua), .val (.int (6 : Int32)), .val (.ref a_PUBREL), .unset] [(.int (9 : Int32)), (.int (6 : Int32))])) (fun _ k => XS.bipush X17.here hx rfl (hb hby at_22) k) ?_
    refine own_by (B := T17.setTop (mkF m 27 #[.val (.int ua), .val (.int (6 : Int32)), .val (.ref a_PUBREL), .unset] [])) (fun _ k => XS.icmpNo X17.here hx rfl (hb hby at_24) rfl (XT.ii_eq_f (by decide)) k) ?_
    refine own_by (B := T17.setTop (mkF m 28 #[.val (.int ua), .val (.int (6 : Int32)), .val (.ref a_PUBREL), .unset] [(.int (6 : Int32))])) (fun _ k => XS.iloadN X17.here hx rfl (hb hby at_27) rfl  k) ?_
    refine own_by (B := T17.setTop (mkF m 30 #[.val (.int ua), .val (.int (6 : Int32)), .val (.ref a_PUBREL), .unset] [(.int (11 : Int32)), (.int (6 : Int32))])) (fun _ k => XS.bipush X17.here hx rfl (hb hby at_28) k) ?_
    refine own_by (B := T17.setTop (mkF m 33 #[.val (.int ua), .val (.int (6 : Int32)), .val (.ref a_PUBREL), .unset] [])) (fun _ k => XS.icmpNo X17.here hx rfl (hb hby at_30) rfl (XT.ii_eq_f (by decide)) k) ?_
    refine own_by (B := T17.setTop (mkF m 34 #[.val (.int ua), .val (.int (6 : Int32)), .val (.ref a_PUBREL), .unset] [(.int (6 : Int32))])) (fun _ k => XS.iloadN X17.here hx rfl (hb hby at_33) rfl  k) ?_
    refine own_by (B := T17.setTop (mkF m 36 #[.val (.int ua), .val (.int (6 : Int32)), .val (.ref a_PUBREL), .unset] [(.int (13 : Int32)), (.int (6 : Int32))])) (fun _ k => XS.bipush X17.here hx rfl (hb hby at_34) k) ?_
    refine own_by (B := T17.setTop (mkF m 43 #[.val (.int ua), .val (.int (6 : Int32)), .val (.ref a_PUBREL), .unset] [])) (fun _ k => XS.icmpYes X17.here hx rfl (pc0 := 36) (pc' := 43) rfl (hb hby at_36) rfl (XT.ii_ne_t (by decide)) (by decide) (by decide) k) ?_
    refine own_by (B := T17.setTop (mkF m 44 #[.val (.int ua), .val (.int (6 : Int32)), .val (.ref a_PUBREL), .unset] [(.int (0 : Int32))])) (fun _ k => XS.iconst X17.here hx rfl (hb hby at_43) k) ?_
    refine own_by (B := T17.setTop (mkF m 45 #[.val (.int ua), .val (.int (6 : Int32)), .val (.ref a_PUBREL), .val (.int (0 : Int32))] [])) (fun _ k => XS.istoreN X17.here hx rfl (hb hby at_44) rfl (l' := #[.val (.int ua), .val (.int (6 : Int32)), .val (.ref a_PUBREL), .val (.int (0 : Int32))]) rfl k) ?_
    refine own_by (B := T17.setTop (mkF m 46 #[.val (.int ua), .val (.int (6 : Int32)), .val (.ref a_PUBREL), .val (.int (0 : Int32))] [(.ref a_PUBREL)])) (fun _ k => XS.aloadN X17.here hx rfl (hb hby at_45) rfl rfl  k) ?_
    obtain ⟨cq18, kq18, qa18, qb18, qc18⟩ := isOf hZ e17 E_PUBREL
    obtain ⟨_, _, ⟨T18, L18, k18, n18⟩, -, X18, ⟨Lc18, hQ18, l18, y18, z18⟩, st18⟩ := X17.virtualBack hx (y := (⟨"com/example/mqtt_packet_codec/mqttpacketcodec/PacketType", "code", "()I"⟩ : MethodName)) (z := (⟨"com/example/mqtt_packet_codec/mqttpacketcodec/PacketType", "code", "()I"⟩ : MethodName)) hown (mvT hZ (hw _ (List.mem_of_getElem? (i := 7) rfl))) (mvT hZ (hw _ (List.mem_of_getElem? (i := 8) rfl))) (notFace_of_selects (args := #[]) (mvT hZ (hw _ (List.mem_of_getElem? (i := 10) rfl)))) (mvT hZ (hw _ (List.mem_of_getElem? (i := 10) rfl))) (mvT hZ (hw _ (List.mem_of_getElem? (i := 9) rfl))) (by decide) (backOf (W := 0) (rm2 l Z a0 hw [] a_PUBREL (6 : Int32) h0 n0 Z0 F_PUBREL_code) hZ (hw _ (List.mem_of_getElem? (i := 11) rfl)) (hw _ (List.mem_of_getElem? (i := 2) rfl)) (by decide) (by decide)) qa18 qc18 (g := (mkF m 46 #[.val (.int ua), .val (.int (6 : Int32)), .val (.ref a_PUBREL), .val (.int (0 : Int32))] [(.ref a_PUBREL)])) rfl (by rw [hml]; rfl) (Steps.refl _) (argsL := []) (rest := []) (lenOf pd_0___I rfl) rfl (by show 2 * 0 + _ ≤ _; exact Nat.le_of_eq rfl) (hb hby at_46) (fun _ _ => ⟨rfl, e17, (by decide : 0 + 0 ≤ _), (by decide : 0 + 0 ≤ _)⟩)
    dsimp only [Pt.U, Pt.locs, Pt.cells, Pt.slots] at X18 l18 y18 z18 st18 hQ18
    subst l18 y18 z18
    obtain ⟨rfl, N18, e18⟩ := hQ18
    refine own_by (B := T18.setTop (mkF m 49 #[.val (.int ua), .val (.int (6 : Int32)), .val (.ref a_PUBREL), .val (.int (0 : Int32))] [(.int (own_code (6 : Int32)))])) (fun _ k => st18.trans k) ?_
    have M18 := Fr.app M17 N18
    rw [show (own_code (6 : Int32)) = (6 : Int32) from rfl]
    refine own_by (B := T18.setTop (mkF m 50 #[.val (.int ua), .val (.int (6 : Int32)), .val (.ref a_PUBREL), .val (.int (0 : Int32))] [(.int (6 : Int32)), (.int (6 : Int32))])) (fun _ k => XS.iloadN X18.here hx rfl (hb hby at_49) rfl  k) ?_
    refine own_by (B := T18.setTop (mkF m 53 #[.val (.int ua), .val (.int (6 : Int32)), .val (.ref a_PUBREL), .val (.int (0 : Int32))] [])) (fun _ k => XS.icmpNo X18.here hx rfl (hb hby at_50) rfl (XT.ii_ne_f (by decide)) k) ?_
    refine own_by (B := T18.setTop (mkF m 54 #[.val (.int ua), .val (.int (6 : Int32)), .val (.ref a_PUBREL), .val (.int (0 : Int32))] [(.ref a_PUBREL)])) (fun _ k => XS.aloadN X18.here hx rfl (hb hby at_53) rfl rfl  k) ?_
    obtain ⟨cq19, kq19, qa19, qb19, qc19⟩ := isOf hZ e18 E_PUBREL
    obtain ⟨_, _, ⟨T19, L19, k19, n19⟩, -, X19, ⟨Lc19, hQ19, l19, y19, z19⟩, st19⟩ := X18.virtualBack hx (y := (⟨"com/example/mqtt_packet_codec/mqttpacketcodec/PacketType", "sentByServerOnly", "()Z"⟩ : MethodName)) (z := (⟨"com/example/mqtt_packet_codec/mqttpacketcodec/PacketType", "sentByServerOnly", "()Z"⟩ : MethodName)) hown (mvT hZ (hw _ (List.mem_of_getElem? (i := 14) rfl))) (mvT hZ (hw _ (List.mem_of_getElem? (i := 15) rfl))) (notFace_of_selects (args := #[]) (mvT hZ (hw _ (List.mem_of_getElem? (i := 17) rfl)))) (mvT hZ (hw _ (List.mem_of_getElem? (i := 17) rfl))) (mvT hZ (hw _ (List.mem_of_getElem? (i := 16) rfl))) (by decide) (backOf (W := 0) (rm3 l Z a0 hw [] a_PUBLISH a_CONNACK a_SUBACK a_UNSUBACK a_PINGRESP a_DISCONNECT a_AUTH a_UNSUBSCRIBE a_PUBCOMP a_SUBSCRIBE a_CONNECT a_PUBACK a_PINGREQ a_PUBREL a_PUBREC a_BY_CODE k_BY_CODE a_PUBREL h0 n0 Z0 HW) hZ (hw _ (List.mem_of_getElem? (i := 18) rfl)) (hw _ (List.mem_of_getElem? (i := 2) rfl)) (by decide) (by decide)) qa19 qc19 (g := (mkF m 54 #[.val (.int ua), .val (.int (6 : Int32)), .val (.ref a_PUBREL), .val (.int (0 : Int32))] [(.ref a_PUBREL)])) rfl (by rw [hml]; rfl) (Steps.refl _) (argsL := []) (rest := []) (lenOf pd_0___Z rfl) rfl (by show 2 * 0 + _ ≤ _; exact Nat.le_of_eq rfl) (hb hby at_54) (fun _ _ => ⟨rfl, e18, (by decide : 0 + 0 ≤ _), (by decide : 0 + 0 ≤ _)⟩)
    dsimp only [Pt.U, Pt.locs, Pt.cells, Pt.slots] at X19 l19 y19 z19 st19 hQ19
    subst l19 y19 z19
    obtain ⟨rfl, N19, e19⟩ := hQ19
    refine own_by (B := T19.setTop (mkF m 57 #[.val (.int ua), .val (.int (6 : Int32)), .val (.ref a_PUBREL), .val (.int (0 : Int32))] [(.int (own_sent a_PUBREL a_CONNACK a_SUBACK a_UNSUBACK a_PINGRESP))])) (fun _ k => st19.trans k) ?_
    have M19 := Fr.app M18 N19
    rw [show (own_sent a_PUBREL a_CONNACK a_SUBACK a_UNSUBACK a_PINGRESP) = (0 : Int32) from by unfold own_sent; rw [if_neg (Fld.ne F_PUBREL_ordinal F_CONNACK_ordinal (by decide)), if_neg (Fld.ne F_PUBREL_ordinal F_SUBACK_ordinal (by decide)), if_neg (Fld.ne F_PUBREL_ordinal F_UNSUBACK_ordinal (by decide)), if_neg (Fld.ne F_PUBREL_ordinal F_PINGRESP_ordinal (by decide))]]
    refine own_by (B := T19.setTop (mkF m 58 #[.val (.int ua), .val (.int (6 : Int32)), .val (.ref a_PUBREL), .val (.int (0 : Int32))] [(.int (0 : Int32)), (.int (0 : Int32))])) (fun _ k => XS.iloadN X19.here hx rfl (hb hby at_57) rfl  k) ?_
    refine own_by (B := T19.setTop (mkF m 61 #[.val (.int ua), .val (.int (6 : Int32)), .val (.ref a_PUBREL), .val (.int (0 : Int32))] [])) (fun _ k => XS.icmpNo X19.here hx rfl (hb hby at_58) rfl (XT.ii_ne_f (by decide)) k) ?_
    refine own_by (B := T19.setTop (mkF m 62 #[.val (.int ua), .val (.int (6 : Int32)), .val (.ref a_PUBREL), .val (.int (0 : Int32))] [(.int (1 : Int32))])) (fun _ k => XS.iconst X19.here hx rfl (hb hby at_61) k) ?_
    refine own_by (B := T19.setTop (mkF m 66 #[.val (.int ua), .val (.int (6 : Int32)), .val (.ref a_PUBREL), .val (.int (0 : Int32))] [(.int (1 : Int32))])) (fun _ k => XS.goto X19.here hx rfl (pc0 := 62) (pc' := 66) rfl (hb hby at_62) (by decide) (by decide) k) ?_
    exact own_retZ X19 hx hrt hlk rfl (hb hby at_66) (by decide) (by decide) ⟨rfl, M19⟩
  · refine own_by (B := s₁.setTop (mkF m 5 #[.val (.int ua), .val (.int (7 : Int32)), .unset, .unset] [])) (fun _ k => XS.istoreN X0.here hx rfl (hb hby at_4) rfl (l' := #[.val (.int ua), .val (.int (7 : Int32)), .unset, .unset]) rfl k) ?_
    refine own_by (B := s₁.setTop (mkF m 6 #[.val (.int ua), .val (.int (7 : Int32)), .unset, .unset] [(.int (7 : Int32))])) (fun _ k => XS.iloadN X0.here hx rfl (hb hby at_5) rfl  k) ?_
    obtain ⟨_, _, ⟨T20, L20, k20, n20⟩, -, X20, ⟨Lc20, hQ20, l20, y20, z20⟩, st20⟩ := Jvm.LawKit.callS X0 hx (y := (⟨"com/example/mqtt_packet_codec/mqttpacketcodec/PacketType", "fromCode", "(I)Lcom/example/mqtt_packet_codec/mqttpacketcodec/PacketType;"⟩ : MethodName)) hown (mvT hZ (hw _ (List.mem_of_getElem? (i := 0) rfl))) (mvT hZ (hw _ (List.mem_of_getElem? (i := 1) rfl))) (mvT hZ (hw _ (List.mem_of_getElem? (i := 2) rfl))) (mvT hZ (hw _ (List.mem_of_getElem? (i := 3) rfl))) (by decide) (backOf (W := 0) (rm1 l Z a0 hw [] a_PUBLISH a_CONNACK a_SUBACK a_UNSUBACK a_PINGRESP a_DISCONNECT a_AUTH a_UNSUBSCRIBE a_PUBCOMP a_SUBSCRIBE a_CONNECT a_PUBACK a_PINGREQ a_PUBREL a_PUBREC a_BY_CODE k_BY_CODE (7 : Int32) h0 n0 Z0 HW) hZ (hw _ (List.mem_of_getElem? (i := 3) rfl)) (hw _ (List.mem_of_getElem? (i := 2) rfl)) (by decide) (by decide)) (g := (mkF m 6 #[.val (.int ua), .val (.int (7 : Int32)), .unset, .unset] [(.int (7 : Int32))])) rfl (by rw [hml]; rfl) (argsL := [(.int (7 : Int32))]) (rest := []) (lenOf pd_0__I_Lcom_example_mqtt_packet_codec_mqttpacketcodec_PacketType_ rfl) rfl (by show 2 * 0 + _ ≤ _; exact Nat.le_of_eq rfl) (hb hby at_6) (fun _ _ => ⟨rfl, e0, (by decide : 0 + 0 ≤ _), (by decide : 0 + 0 ≤ _)⟩)
    dsimp only [Pt.U, Pt.locs, Pt.cells, Pt.slots] at X20 l20 y20 z20 st20 hQ20
    subst l20 y20 z20
    obtain ⟨rfl, N20, e20⟩ := hQ20
    refine own_by (B := T20.setTop (mkF m 9 #[.val (.int ua), .val (.int (7 : Int32)), .unset, .unset] [(own_f1 (7 : Int32) a_CONNECT a_CONNACK a_PUBLISH a_PUBACK a_PUBREC a_PUBREL a_PUBCOMP a_SUBSCRIBE a_SUBACK a_UNSUBSCRIBE a_UNSUBACK a_PINGREQ a_PINGRESP a_DISCONNECT a_AUTH)])) st20 ?_
    have M20 := Fr.app N0 N20
    rw [show (own_f1 (7 : Int32) a_CONNECT a_CONNACK a_PUBLISH a_PUBACK a_PUBREC a_PUBREL a_PUBCOMP a_SUBSCRIBE a_SUBACK a_UNSUBSCRIBE a_UNSUBACK a_PINGREQ a_PINGRESP a_DISCONNECT a_AUTH) = (.ref a_PUBCOMP) from by unfold own_f1; rw [if_neg (by decide), if_pos (by decide)]; rfl]
    refine own_by (B := T20.setTop (mkF m 10 #[.val (.int ua), .val (.int (7 : Int32)), .val (.ref a_PUBCOMP), .unset] [])) (fun _ k => XS.astoreN X20.here hx rfl (hb hby at_9) rfl rfl (l' := #[.val (.int ua), .val (.int (7 : Int32)), .val (.ref a_PUBCOMP), .unset]) rfl k) ?_
    refine own_by (B := T20.setTop (mkF m 11 #[.val (.int ua), .val (.int (7 : Int32)), .val (.ref a_PUBCOMP), .unset] [(.ref a_PUBCOMP)])) (fun _ k => XS.aloadN X20.here hx rfl (hb hby at_10) rfl rfl  k) ?_
    refine own_by (B := T20.setTop (mkF m 16 #[.val (.int ua), .val (.int (7 : Int32)), .val (.ref a_PUBCOMP), .unset] [])) (fun _ k => XT.ifnonnullYes X20.here hx rfl (pc0 := 11) (pc' := 16) rfl (hb hby at_11) rfl (by decide) (by decide) k) ?_
    refine own_by (B := T20.setTop (mkF m 17 #[.val (.int ua), .val (.int (7 : Int32)), .val (.ref a_PUBCOMP), .unset] [(.int (7 : Int32))])) (fun _ k => XS.iloadN X20.here hx rfl (hb hby at_16) rfl  k) ?_
    refine own_by (B := T20.setTop (mkF m 18 #[.val (.int ua), .val (.int (7 : Int32)), .val (.ref a_PUBCOMP), .unset] [(.int (2 : Int32)), (.int (7 : Int32))])) (fun _ k => XS.iconst X20.here hx rfl (hb hby at_17) k) ?_
    refine own_by (B := T20.setTop (mkF m 21 #[.val (.int ua), .val (.int (7 : Int32)), .val (.ref a_PUBCOMP), .unset] [])) (fun _ k => XS.icmpNo X20.here hx rfl (hb hby at_18) rfl (XT.ii_eq_f (by decide)) k) ?_
    refine own_by (B := T20.setTop (mkF m 22 #[.val (.int ua), .val (.int (7 : Int32)), .val (.ref a_PUBCOMP), .unset] [(.int (7 : Int32))])) (fun _ k => XS.iloadN X20.here hx rfl (hb hby at_21) rfl  k) ?_
    refine own_by (B := T20.setTop (mkF m 24 #[.val (.int ua), .val (.int (7 : Int32)), .val (.ref a_PUBCOMP), .unset] [(.int (9 : Int32)), (.int (7 : Int32))])) (fun _ k => XS.bipush X20.here hx rfl (hb hby at_22) k) ?_
    refine own_by (B := T20.setTop (mkF m 27 #[.val (.int ua), .val (.int (7 : Int32)), .val (.ref a_PUBCOMP), .unset] [])) (fun _ k => XS.icmpNo X20.here hx rfl (hb hby at_24) rfl (XT.ii_eq_f (by decide)) k) ?_
    refine own_by (B := T20.setTop (mkF m 28 #[.val (.int ua), .val (.int (7 : Int32)), .val (.ref a_PUBCOMP), .unset] [(.int (7 : Int32))])) (fun _ k => XS.iloadN X20.here hx rfl (hb hby at_27) rfl  k) ?_
    refine own_by (B := T20.setTop (mkF m 30 #[.val (.int ua), .val (.int (7 : Int32)), .val (.ref a_PUBCOMP), .unset] [(.int (11 : Int32)), (.int (7 : Int32))])) (fun _ k => XS.bipush X20.here hx rfl (hb hby at_28) k) ?_
    refine own_by (B := T20.setTop (mkF m 33 #[.val (.int ua), .val (.int (7 : Int32)), .val (.ref a_PUBCOMP), .unset] [])) (fun _ k => XS.icmpNo X20.here hx rfl (hb hby at_30) rfl (XT.ii_eq_f (by decide)) k) ?_
    refine own_by (B := T20.setTop (mkF m 34 #[.val (.int ua), .val (.int (7 : Int32)), .val (.ref a_PUBCOMP), .unset] [(.int (7 : Int32))])) (fun _ k => XS.iloadN X20.here hx rfl (hb hby at_33) rfl  k) ?_
    refine own_by (B := T20.setTop (mkF m 36 #[.val (.int ua), .val (.int (7 : Int32)), .val (.ref a_PUBCOMP), .unset] [(.int (13 : Int32)), (.int (7 : Int32))])) (fun _ k => XS.bipush X20.here hx rfl (hb hby at_34) k) ?_
    refine own_by (B := T20.setTop (mkF m 43 #[.val (.int ua), .val (.int (7 : Int32)), .val (.ref a_PUBCOMP), .unset] [])) (fun _ k => XS.icmpYes X20.here hx rfl (pc0 := 36) (pc' := 43) rfl (hb hby at_36) rfl (XT.ii_ne_t (by decide)) (by decide) (by decide) k) ?_
    refine own_by (B := T20.setTop (mkF m 44 #[.val (.int ua), .val (.int (7 : Int32)), .val (.ref a_PUBCOMP), .unset] [(.int (0 : Int32))])) (fun _ k => XS.iconst X20.here hx rfl (hb hby at_43) k) ?_
    refine own_by (B := T20.setTop (mkF m 45 #[.val (.int ua), .val (.int (7 : Int32)), .val (.ref a_PUBCOMP), .val (.int (0 : Int32))] [])) (fun _ k => XS.istoreN X20.here hx rfl (hb hby at_44) rfl (l' := #[.val (.int ua), .val (.int (7 : Int32)), .val (.ref a_PUBCOMP), .val (.int (0 : Int32))]) rfl k) ?_
    refine own_by (B := T20.setTop (mkF m 46 #[.val (.int ua), .val (.int (7 : Int32)), .val (.ref a_PUBCOMP), .val (.int (0 : Int32))] [(.ref a_PUBCOMP)])) (fun _ k => XS.aloadN X20.here hx rfl (hb hby at_45) rfl rfl  k) ?_
    obtain ⟨cq21, kq21, qa21, qb21, qc21⟩ := isOf hZ e20 E_PUBCOMP
    obtain ⟨_, _, ⟨T21, L21, k21, n21⟩, -, X21, ⟨Lc21, hQ21, l21, y21, z21⟩, st21⟩ := X20.virtualBack hx (y := (⟨"com/example/mqtt_packet_codec/mqttpacketcodec/PacketType", "code", "()I"⟩ : MethodName)) (z := (⟨"com/example/mqtt_packet_codec/mqttpacketcodec/PacketType", "code", "()I"⟩ : MethodName)) hown (mvT hZ (hw _ (List.mem_of_getElem? (i := 7) rfl))) (mvT hZ (hw _ (List.mem_of_getElem? (i := 8) rfl))) (notFace_of_selects (args := #[]) (mvT hZ (hw _ (List.mem_of_getElem? (i := 10) rfl)))) (mvT hZ (hw _ (List.mem_of_getElem? (i := 10) rfl))) (mvT hZ (hw _ (List.mem_of_getElem? (i := 9) rfl))) (by decide) (backOf (W := 0) (rm2 l Z a0 hw [] a_PUBCOMP (7 : Int32) h0 n0 Z0 F_PUBCOMP_code) hZ (hw _ (List.mem_of_getElem? (i := 11) rfl)) (hw _ (List.mem_of_getElem? (i := 2) rfl)) (by decide) (by decide)) qa21 qc21 (g := (mkF m 46 #[.val (.int ua), .val (.int (7 : Int32)), .val (.ref a_PUBCOMP), .val (.int (0 : Int32))] [(.ref a_PUBCOMP)])) rfl (by rw [hml]; rfl) (Steps.refl _) (argsL := []) (rest := []) (lenOf pd_0___I rfl) rfl (by show 2 * 0 + _ ≤ _; exact Nat.le_of_eq rfl) (hb hby at_46) (fun _ _ => ⟨rfl, e20, (by decide : 0 + 0 ≤ _), (by decide : 0 + 0 ≤ _)⟩)
    dsimp only [Pt.U, Pt.locs, Pt.cells, Pt.slots] at X21 l21 y21 z21 st21 hQ21
    subst l21 y21 z21
    obtain ⟨rfl, N21, e21⟩ := hQ21
    refine own_by (B := T21.setTop (mkF m 49 #[.val (.int ua), .val (.int (7 : Int32)), .val (.ref a_PUBCOMP), .val (.int (0 : Int32))] [(.int (own_code (7 : Int32)))])) (fun _ k => st21.trans k) ?_
    have M21 := Fr.app M20 N21
    rw [show (own_code (7 : Int32)) = (7 : Int32) from rfl]
    refine own_by (B := T21.setTop (mkF m 50 #[.val (.int ua), .val (.int (7 : Int32)), .val (.ref a_PUBCOMP), .val (.int (0 : Int32))] [(.int (7 : Int32)), (.int (7 : Int32))])) (fun _ k => XS.iloadN X21.here hx rfl (hb hby at_49) rfl  k) ?_
    refine own_by (B := T21.setTop (mkF m 53 #[.val (.int ua), .val (.int (7 : Int32)), .val (.ref a_PUBCOMP), .val (.int (0 : Int32))] [])) (fun _ k => XS.icmpNo X21.here hx rfl (hb hby at_50) rfl (XT.ii_ne_f (by decide)) k) ?_
    refine own_by (B := T21.setTop (mkF m 54 #[.val (.int ua), .val (.int (7 : Int32)), .val (.ref a_PUBCOMP), .val (.int (0 : Int32))] [(.ref a_PUBCOMP)])) (fun _ k => XS.aloadN X21.here hx rfl (hb hby at_53) rfl rfl  k) ?_
    obtain ⟨cq22, kq22, qa22, qb22, qc22⟩ := isOf hZ e21 E_PUBCOMP
    obtain ⟨_, _, ⟨T22, L22, k22, n22⟩, -, X22, ⟨Lc22, hQ22, l22, y22, z22⟩, st22⟩ := X21.virtualBack hx (y := (⟨"com/example/mqtt_packet_codec/mqttpacketcodec/PacketType", "sentByServerOnly", "()Z"⟩ : MethodName)) (z := (⟨"com/example/mqtt_packet_codec/mqttpacketcodec/PacketType", "sentByServerOnly", "()Z"⟩ : MethodName)) hown (mvT hZ (hw _ (List.mem_of_getElem? (i := 14) rfl))) (mvT hZ (hw _ (List.mem_of_getElem? (i := 15) rfl))) (notFace_of_selects (args := #[]) (mvT hZ (hw _ (List.mem_of_getElem? (i := 17) rfl)))) (mvT hZ (hw _ (List.mem_of_getElem? (i := 17) rfl))) (mvT hZ (hw _ (List.mem_of_getElem? (i := 16) rfl))) (by decide) (backOf (W := 0) (rm3 l Z a0 hw [] a_PUBLISH a_CONNACK a_SUBACK a_UNSUBACK a_PINGRESP a_DISCONNECT a_AUTH a_UNSUBSCRIBE a_PUBCOMP a_SUBSCRIBE a_CONNECT a_PUBACK a_PINGREQ a_PUBREL a_PUBREC a_BY_CODE k_BY_CODE a_PUBCOMP h0 n0 Z0 HW) hZ (hw _ (List.mem_of_getElem? (i := 18) rfl)) (hw _ (List.mem_of_getElem? (i := 2) rfl)) (by decide) (by decide)) qa22 qc22 (g := (mkF m 54 #[.val (.int ua), .val (.int (7 : Int32)), .val (.ref a_PUBCOMP), .val (.int (0 : Int32))] [(.ref a_PUBCOMP)])) rfl (by rw [hml]; rfl) (Steps.refl _) (argsL := []) (rest := []) (lenOf pd_0___Z rfl) rfl (by show 2 * 0 + _ ≤ _; exact Nat.le_of_eq rfl) (hb hby at_54) (fun _ _ => ⟨rfl, e21, (by decide : 0 + 0 ≤ _), (by decide : 0 + 0 ≤ _)⟩)
    dsimp only [Pt.U, Pt.locs, Pt.cells, Pt.slots] at X22 l22 y22 z22 st22 hQ22
    subst l22 y22 z22
    obtain ⟨rfl, N22, e22⟩ := hQ22
    refine own_by (B := T22.setTop (mkF m 57 #[.val (.int ua), .val (.int (7 : Int32)), .val (.ref a_PUBCOMP), .val (.int (0 : Int32))] [(.int (own_sent a_PUBCOMP a_CONNACK a_SUBACK a_UNSUBACK a_PINGRESP))])) (fun _ k => st22.trans k) ?_
    have M22 := Fr.app M21 N22
    rw [show (own_sent a_PUBCOMP a_CONNACK a_SUBACK a_UNSUBACK a_PINGRESP) = (0 : Int32) from by unfold own_sent; rw [if_neg (Fld.ne F_PUBCOMP_ordinal F_CONNACK_ordinal (by decide)), if_neg (Fld.ne F_PUBCOMP_ordinal F_SUBACK_ordinal (by decide)), if_neg (Fld.ne F_PUBCOMP_ordinal F_UNSUBACK_ordinal (by decide)), if_neg (Fld.ne F_PUBCOMP_ordinal F_PINGRESP_ordinal (by decide))]]
    refine own_by (B := T22.setTop (mkF m 58 #[.val (.int ua), .val (.int (7 : Int32)), .val (.ref a_PUBCOMP), .val (.int (0 : Int32))] [(.int (0 : Int32)), (.int (0 : Int32))])) (fun _ k => XS.iloadN X22.here hx rfl (hb hby at_57) rfl  k) ?_
    refine own_by (B := T22.setTop (mkF m 61 #[.val (.int ua), .val (.int (7 : Int32)), .val (.ref a_PUBCOMP), .val (.int (0 : Int32))] [])) (fun _ k => XS.icmpNo X22.here hx rfl (hb hby at_58) rfl (XT.ii_ne_f (by decide)) k) ?_
    refine own_by (B := T22.setTop (mkF m 62 #[.val (.int ua), .val (.int (7 : Int32)), .val (.ref a_PUBCOMP), .val (.int (0 : Int32))] [(.int (1 : Int32))])) (fun _ k => XS.iconst X22.here hx rfl (hb hby at_61) k) ?_
    refine own_by (B := T22.setTop (mkF m 66 #[.val (.int ua), .val (.int (7 : Int32)), .val (.ref a_PUBCOMP), .val (.int (0 : Int32))] [(.int (1 : Int32))])) (fun _ k => XS.goto X22.here hx rfl (pc0 := 62) (pc' := 66) rfl (hb hby at_62) (by decide) (by decide) k) ?_
    exact own_retZ X22 hx hrt hlk rfl (hb hby at_66) (by decide) (by decide) ⟨rfl, M22⟩
  · refine own_by (B := s₁.setTop (mkF m 5 #[.val (.int ua), .val (.int (8 : Int32)), .unset, .unset] [])) (fun _ k => XS.istoreN X0.here hx rfl (hb hby at_4) rfl (l' := #[.val (.int ua), .val (.int (8 : Int32)), .unset, .unset]) rfl k) ?_
    refine own_by (B := s₁.setTop (mkF m 6 #[.val (.int ua), .val (.int (8 : Int32)), .unset, .unset] [(.int (8 : Int32))])) (fun _ k => XS.iloadN X0.here hx rfl (hb hby at_5) rfl  k) ?_
    obtain ⟨_, _, ⟨T23, L23, k23, n23⟩, -, X23, ⟨Lc23, hQ23, l23, y23, z23⟩, st23⟩ := Jvm.LawKit.callS X0 hx (y := (⟨"com/example/mqtt_packet_codec/mqttpacketcodec/PacketType", "fromCode", "(I)Lcom/example/mqtt_packet_codec/mqttpacketcodec/PacketType;"⟩ : MethodName)) hown (mvT hZ (hw _ (List.mem_of_getElem? (i := 0) rfl))) (mvT hZ (hw _ (List.mem_of_getElem? (i := 1) rfl))) (mvT hZ (hw _ (List.mem_of_getElem? (i := 2) rfl))) (mvT hZ (hw _ (List.mem_of_getElem? (i := 3) rfl))) (by decide) (backOf (W := 0) (rm1 l Z a0 hw [] a_PUBLISH a_CONNACK a_SUBACK a_UNSUBACK a_PINGRESP a_DISCONNECT a_AUTH a_UNSUBSCRIBE a_PUBCOMP a_SUBSCRIBE a_CONNECT a_PUBACK a_PINGREQ a_PUBREL a_PUBREC a_BY_CODE k_BY_CODE (8 : Int32) h0 n0 Z0 HW) hZ (hw _ (List.mem_of_getElem? (i := 3) rfl)) (hw _ (List.mem_of_getElem? (i := 2) rfl)) (by decide) (by decide)) (g := (mkF m 6 #[.val (.int ua), .val (.int (8 : Int32)), .unset, .unset] [(.int (8 : Int32))])) rfl (by rw [hml]; rfl) (argsL := [(.int (8 : Int32))]) (rest := []) (lenOf pd_0__I_Lcom_example_mqtt_packet_codec_mqttpacketcodec_PacketType_ rfl) rfl (by show 2 * 0 + _ ≤ _; exact Nat.le_of_eq rfl) (hb hby at_6) (fun _ _ => ⟨rfl, e0, (by decide : 0 + 0 ≤ _), (by decide : 0 + 0 ≤ _)⟩)
    dsimp only [Pt.U, Pt.locs, Pt.cells, Pt.slots] at X23 l23 y23 z23 st23 hQ23
    subst l23 y23 z23
    obtain ⟨rfl, N23, e23⟩ := hQ23
    refine own_by (B := T23.setTop (mkF m 9 #[.val (.int ua), .val (.int (8 : Int32)), .unset, .unset] [(own_f1 (8 : Int32) a_CONNECT a_CONNACK a_PUBLISH a_PUBACK a_PUBREC a_PUBREL a_PUBCOMP a_SUBSCRIBE a_SUBACK a_UNSUBSCRIBE a_UNSUBACK a_PINGREQ a_PINGRESP a_DISCONNECT a_AUTH)])) st23 ?_
    have M23 := Fr.app N0 N23
    rw [show (own_f1 (8 : Int32) a_CONNECT a_CONNACK a_PUBLISH a_PUBACK a_PUBREC a_PUBREL a_PUBCOMP a_SUBSCRIBE a_SUBACK a_UNSUBSCRIBE a_UNSUBACK a_PINGREQ a_PINGRESP a_DISCONNECT a_AUTH) = (.ref a_SUBSCRIBE) from by unfold own_f1; rw [if_neg (by decide), if_pos (by decide)]; rfl]
    refine own_by (B := T23.setTop (mkF m 10 #[.val (.int ua), .val (.int (8 : Int32)), .val (.ref a_SUBSCRIBE), .unset] [])) (fun _ k => XS.astoreN X23.here hx rfl (hb hby at_9) rfl rfl (l' := #[.val (.int ua), .val (.int (8 : Int32)), .val (.ref a_SUBSCRIBE), .unset]) rfl k) ?_
    refine own_by (B := T23.setTop (mkF m 11 #[.val (.int ua), .val (.int (8 : Int32)), .val (.ref a_SUBSCRIBE), .unset] [(.ref a_SUBSCRIBE)])) (fun _ k => XS.aloadN X23.here hx rfl (hb hby at_10) rfl rfl  k) ?_
    refine own_by (B := T23.setTop (mkF m 16 #[.val (.int ua), .val (.int (8 : Int32)), .val (.ref a_SUBSCRIBE), .unset] [])) (fun _ k => XT.ifnonnullYes X23.here hx rfl (pc0 := 11) (pc' := 16) rfl (hb hby at_11) rfl (by decide) (by decide) k) ?_
    refine own_by (B := T23.setTop (mkF m 17 #[.val (.int ua), .val (.int (8 : Int32)), .val (.ref a_SUBSCRIBE), .unset] [(.int (8 : Int32))])) (fun _ k => XS.iloadN X23.here hx rfl (hb hby at_16) rfl  k) ?_
    refine own_by (B := T23.setTop (mkF m 18 #[.val (.int ua), .val (.int (8 : Int32)), .val (.ref a_SUBSCRIBE), .unset] [(.int (2 : Int32)), (.int (8 : Int32))])) (fun _ k => XS.iconst X23.here hx rfl (hb hby at_17) k) ?_
    refine own_by (B := T23.setTop (mkF m 21 #[.val (.int ua), .val (.int (8 : Int32)), .val (.ref a_SUBSCRIBE), .unset] [])) (fun _ k => XS.icmpNo X23.here hx rfl (hb hby at_18) rfl (XT.ii_eq_f (by decide)) k) ?_
    refine own_by (B := T23.setTop (mkF m 22 #[.val (.int ua), .val (.int (8 : Int32)), .val (.ref a_SUBSCRIBE), .unset] [(.int (8 : Int32))])) (fun _ k => XS.iloadN X23.here hx rfl (hb hby at_21) rfl  k) ?_
    refine own_by (B := T23.setTop (mkF m 24 #[.val (.int ua), .val (.int (8 : Int32)), .val (.ref a_SUBSCRIBE), .unset] [(.int (9 : Int32)), (.int (8 : Int32))])) (fun _ k => XS.bipush X23.here hx rfl (hb hby at_22) k) ?_
    refine own_by (B := T23.setTop (mkF m 27 #[.val (.int ua), .val (.int (8 : Int32)), .val (.ref a_SUBSCRIBE), .unset] [])) (fun _ k => XS.icmpNo X23.here hx rfl (hb hby at_24) rfl (XT.ii_eq_f (by decide)) k) ?_
    refine own_by (B := T23.setTop (mkF m 28 #[.val (.int ua), .val (.int (8 : Int32)), .val (.ref a_SUBSCRIBE), .unset] [(.int (8 : Int32))])) (fun _ k => XS.iloadN X23.here hx rfl (hb hby at_27) rfl  k) ?_
    refine own_by (B := T23.setTop (mkF m 30 #[.val (.int ua), .val (.int (8 : Int32)), .val (.ref a_SUBSCRIBE), .unset] [(.int (11 : Int32)), (.int (8 : Int32))])) (fun _ k => XS.bipush X23.here hx rfl (hb hby at_28) k) ?_
    refine own_by (B := T23.setTop (mkF m 33 #[.val (.int ua), .val (.int (8 : Int32)), .val (.ref a_SUBSCRIBE), .unset] [])) (fun _ k => XS.icmpNo X23.here hx rfl (hb hby at_30) rfl (XT.ii_eq_f (by decide)) k) ?_
    refine own_by (B := T23.setTop (mkF m 34 #[.val (.int ua), .val (.int (8 : Int32)), .val (.ref a_SUBSCRIBE), .unset] [(.int (8 : Int32))])) (fun _ k => XS.iloadN X23.here hx rfl (hb hby at_33) rfl  k) ?_
    refine own_by (B := T23.setTop (mkF m 36 #[.val (.int ua), .val (.int (8 : Int32)), .val (.ref a_SUBSCRIBE), .unset] [(.int (13 : Int32)), (.int (8 : Int32))])) (fun _ k => XS.bipush X23.here hx rfl (hb hby at_34) k) ?_
    refine own_by (B := T23.setTop (mkF m 43 #[.val (.int ua), .val (.int (8 : Int32)), .val (.ref a_SUBSCRIBE), .unset] [])) (fun _ k => XS.icmpYes X23.here hx rfl (pc0 := 36) (pc' := 43) rfl (hb hby at_36) rfl (XT.ii_ne_t (by decide)) (by decide) (by decide) k) ?_
    refine own_by (B := T23.setTop (mkF m 44 #[.val (.int ua), .val (.int (8 : Int32)), .val (.ref a_SUBSCRIBE), .unset] [(.int (0 : Int32))])) (fun _ k => XS.iconst X23.here hx rfl (hb hby at_43) k) ?_
    refine own_by (B := T23.setTop (mkF m 45 #[.val (.int ua), .val (.int (8 : Int32)), .val (.ref a_SUBSCRIBE), .val (.int (0 : Int32))] [])) (fun _ k => XS.istoreN X23.here hx rfl (hb hby at_44) rfl (l' := #[.val (.int ua), .val (.int (8 : Int32)), .val (.ref a_SUBSCRIBE), .val (.int (0 : Int32))]) rfl k) ?_
    refine own_by (B := T23.setTop (mkF m 46 #[.val (.int ua), .val (.int (8 : Int32)), .val (.ref a_SUBSCRIBE), .val (.int (0 : Int32))] [(.ref a_SUBSCRIBE)])) (fun _ k => XS.aloadN X23.here hx rfl (hb hby at_45) rfl rfl  k) ?_
    obtain ⟨cq24, kq24, qa24, qb24, qc24⟩ := isOf hZ e23 E_SUBSCRIBE
    obtain ⟨_, _, ⟨T24, L24, k24, n24⟩, -, X24, ⟨Lc24, hQ24, l24, y24, z24⟩, st24⟩ := X23.virtualBack hx (y := (⟨"com/example/mqtt_packet_codec/mqttpacketcodec/PacketType", "code", "()I"⟩ : MethodName)) (z := (⟨"com/example/mqtt_packet_codec/mqttpacketcodec/PacketType", "code", "()I"⟩ : MethodName)) hown (mvT hZ (hw _ (List.mem_of_getElem? (i := 7) rfl))) (mvT hZ (hw _ (List.mem_of_getElem? (i := 8) rfl))) (notFace_of_selects (args := #[]) (mvT hZ (hw _ (List.mem_of_getElem? (i := 10) rfl)))) (mvT hZ (hw _ (List.mem_of_getElem? (i := 10) rfl))) (mvT hZ (hw _ (List.mem_of_getElem? (i := 9) rfl))) (by decide) (backOf (W := 0) (rm2 l Z a0 hw [] a_SUBSCRIBE (8 : Int32) h0 n0 Z0 F_SUBSCRIBE_code) hZ (hw _ (List.mem_of_getElem? (i := 11) rfl)) (hw _ (List.mem_of_getElem? (i := 2) rfl)) (by decide) (by decide)) qa24 qc24 (g := (mkF m 46 #[.val (.int ua), .val (.int (8 : Int32)), .val (.ref a_SUBSCRIBE), .val (.int (0 : Int32))] [(.ref a_SUBSCRIBE)])) rfl (by rw [hml]; rfl) (Steps.refl _) (argsL := []) (rest := []) (lenOf pd_0___I rfl) rfl (by show 2 * 0 + _ ≤ _; exact Nat.le_of_eq rfl) (hb hby at_46) (fun _ _ => ⟨rfl, e23, (by decide : 0 + 0 ≤ _), (by decide : 0 + 0 ≤ _)⟩)
    dsimp only [Pt.U, Pt.locs, Pt.cells, Pt.slots] at X24 l24 y24 z24 st24 hQ24
    subst l24 y24 z24
    obtain ⟨rfl, N24, e24⟩ := hQ24
    refine own_by (B := T24.setTop (mkF m 49 #[.val (.int ua), .val (.int (8 : Int32)), .val (.ref a_SUBSCRIBE), .val (.int (0 : Int32))] [(.int (own_code (8 : Int32)))])) (fun _ k => st24.trans k) ?_
    have M24 := Fr.app M23 N24
    rw [show (own_code (8 : Int32)) = (8 : Int32) from rfl]
    refine own_by (B := T24.setTop (mkF m 50 #[.val (.int ua), .val (.int (8 : Int32)), .val (.ref a_SUBSCRIBE), .val (.int (0 : Int32))] [(.int (8 : Int32)), (.int (8 : Int32))])) (fun _ k => XS.iloadN X24.here hx rfl (hb hby at_49) rfl  k) ?_
    refine own_by (B := T24.setTop (mkF m 53 #[.val (.int ua), .val (.int (8 : Int32)), .val (.ref a_SUBSCRIBE), .val (.int (0 : Int32))] [])) (fun _ k => XS.icmpNo X24.here hx rfl (hb hby at_50) rfl (XT.ii_ne_f (by decide)) k) ?_
    refine own_by (B := T24.setTop (mkF m 54 #[.val (.int ua), .val (.int (8 : Int32)), .val (.ref a_SUBSCRIBE), .val (.int (0 : Int32))] [(.ref a_SUBSCRIBE)])) (fun _ k => XS.aloadN X24.here hx rfl (hb hby at_53) rfl rfl  k) ?_
    obtain ⟨cq25, kq25, qa25, qb25, qc25⟩ := isOf hZ e24 E_SUBSCRIBE
    obtain ⟨_, _, ⟨T25, L25, k25, n25⟩, -, X25, ⟨Lc25, hQ25, l25, y25, z25⟩, st25⟩ := X24.virtualBack hx (y := (⟨"com/example/mqtt_packet_codec/mqttpacketcodec/PacketType", "sentByServerOnly", "()Z"⟩ : MethodName)) (z := (⟨"com/example/mqtt_packet_codec/mqttpacketcodec/PacketType", "sentByServerOnly", "()Z"⟩ : MethodName)) hown (mvT hZ (hw _ (List.mem_of_getElem? (i := 14) rfl))) (mvT hZ (hw _ (List.mem_of_getElem? (i := 15) rfl))) (notFace_of_selects (args := #[]) (mvT hZ (hw _ (List.mem_of_getElem? (i := 17) rfl)))) (mvT hZ (hw _ (List.mem_of_getElem? (i := 17) rfl))) (mvT hZ (hw _ (List.mem_of_getElem? (i := 16) rfl))) (by decide) (backOf (W := 0) (rm3 l Z a0 hw [] a_PUBLISH a_CONNACK a_SUBACK a_UNSUBACK a_PINGRESP a_DISCONNECT a_AUTH a_UNSUBSCRIBE a_PUBCOMP a_SUBSCRIBE a_CONNECT a_PUBACK a_PINGREQ a_PUBREL a_PUBREC a_BY_CODE k_BY_CODE a_SUBSCRIBE h0 n0 Z0 HW) hZ (hw _ (List.mem_of_getElem? (i := 18) rfl)) (hw _ (List.mem_of_getElem? (i := 2) rfl)) (by decide) (by decide)) qa25 qc25 (g := (mkF m 54 #[.val (.int ua), .val (.int (8 : Int32)), .val (.ref a_SUBSCRIBE), .val (.int (0 : Int32))] [(.ref a_SUBSCRIBE)])) rfl (by rw [hml]; rfl) (Steps.refl _) (argsL := []) (rest := []) (lenOf pd_0___Z rfl) rfl (by show 2 * 0 + _ ≤ _; exact Nat.le_of_eq rfl) (hb hby at_54) (fun _ _ => ⟨rfl, e24, (by decide : 0 + 0 ≤ _), (by decide : 0 + 0 ≤ _)⟩)
    dsimp only [Pt.U, Pt.locs, Pt.cells, Pt.slots] at X25 l25 y25 z25 st25 hQ25
    subst l25 y25 z25
    obtain ⟨rfl, N25, e25⟩ := hQ25
    refine own_by (B := T25.setTop (mkF m 57 #[.val (.int ua), .val (.int (8 : Int32)), .val (.ref a_SUBSCRIBE), .val (.int (0 : Int32))] [(.int (own_sent a_SUBSCRIBE a_CONNACK a_SUBACK a_UNSUBACK a_PINGRESP))])) (fun _ k => st25.trans k) ?_
    have M25 := Fr.app M24 N25
    rw [show (own_sent a_SUBSCRIBE a_CONNACK a_SUBACK a_UNSUBACK a_PINGRESP) = (0 : Int32) from by unfold own_sent; rw [if_neg (Fld.ne F_SUBSCRIBE_ordinal F_CONNACK_ordinal (by decide)), if_neg (Fld.ne F_SUBSCRIBE_ordinal F_SUBACK_ordinal (by decide)), if_neg (Fld.ne F_SUBSCRIBE_ordinal F_UNSUBACK_ordinal (by decide)), if_neg (Fld.ne F_SUBSCRIBE_ordinal F_PINGRESP_ordinal (by decide))]]
    refine own_by (B := T25.setTop (mkF m 58 #[.val (.int ua), .val (.int (8 : Int32)), .val (.ref a_SUBSCRIBE), .val (.int (0 : Int32))] [(.int (0 : Int32)), (.int (0 : Int32))])) (fun _ k => XS.iloadN X25.here hx rfl (hb hby at_57) rfl  k) ?_
    refine own_by (B := T25.setTop (mkF m 61 #[.val (.int ua), .val (.int (8 : Int32)), .val (.ref a_SUBSCRIBE), .val (.int (0 : Int32))] [])) (fun _ k => XS.icmpNo X25.here hx rfl (hb hby at_58) rfl (XT.ii_ne_f (by decide)) k) ?_
    refine own_by (B := T25.setTop (mkF m 62 #[.val (.int ua), .val (.int (8 : Int32)), .val (.ref a_SUBSCRIBE), .val (.int (0 : Int32))] [(.int (1 : Int32))])) (fun _ k => XS.iconst X25.here hx rfl (hb hby at_61) k) ?_
    refine own_by (B := T25.setTop (mkF m 66 #[.val (.int ua), .val (.int (8 : Int32)), .val (.ref a_SUBSCRIBE), .val (.int (0 : Int32))] [(.int (1 : Int32))])) (fun _ k => XS.goto X25.here hx rfl (pc0 := 62) (pc' := 66) rfl (hb hby at_62) (by decide) (by decide) k) ?_
    exact own_retZ X25 hx hrt hlk rfl (hb hby at_66) (by decide) (by decide) ⟨rfl, M25⟩
  · refine own_by (B := s₁.setTop (mkF m 5 #[.val (.int ua), .val (.int (9 : Int32)), .unset, .unset] [])) (fun _ k => XS.istoreN X0.here hx rfl (hb hby at_4) rfl (l' := #[.val (.int ua), .val (.int (9 : Int32)), .unset, .unset]) rfl k) ?_
    refine own_by (B := s₁.setTop (mkF m 6 #[.val (.int ua), .val (.int (9 : Int32)), .unset, .unset] [(.int (9 : Int32))])) (fun _ k => XS.iloadN X0.here hx rfl (hb hby at_5) rfl  k) ?_
    obtain ⟨_, _, ⟨T26, L26, k26, n26⟩, -, X26, ⟨Lc26, hQ26, l26, y26, z26⟩, st26⟩ := Jvm.LawKit.callS X0 hx (y := (⟨"com/example/mqtt_packet_codec/mqttpacketcodec/PacketType", "fromCode", "(I)Lcom/example/mqtt_packet_codec/mqttpacketcodec/PacketType;"⟩ : MethodName)) hown (mvT hZ (hw _ (List.mem_of_getElem? (i := 0) rfl))) (mvT hZ (hw _ (List.mem_of_getElem? (i := 1) rfl))) (mvT hZ (hw _ (List.mem_of_getElem? (i := 2) rfl))) (mvT hZ (hw _ (List.mem_of_getElem? (i := 3) rfl))) (by decide) (backOf (W := 0) (rm1 l Z a0 hw [] a_PUBLISH a_CONNACK a_SUBACK a_UNSUBACK a_PINGRESP a_DISCONNECT a_AUTH a_UNSUBSCRIBE a_PUBCOMP a_SUBSCRIBE a_CONNECT a_PUBACK a_PINGREQ a_PUBREL a_PUBREC a_BY_CODE k_BY_CODE (9 : Int32) h0 n0 Z0 HW) hZ (hw _ (List.mem_of_getElem? (i := 3) rfl)) (hw _ (List.mem_of_getElem? (i := 2) rfl)) (by decide) (by decide)) (g := (mkF m 6 #[.val (.int ua), .val (.int (9 : Int32)), .unset, .unset] [(.int (9 : Int32))])) rfl (by rw [hml]; rfl) (argsL := [(.int (9 : Int32))]) (rest := []) (lenOf pd_0__I_Lcom_example_mqtt_packet_codec_mqttpacketcodec_PacketType_ rfl) rfl (by show 2 * 0 + _ ≤ _; exact Nat.le_of_eq rfl) (hb hby at_6) (fun _ _ => ⟨rfl, e0, (by decide : 0 + 0 ≤ _), (by decide : 0 + 0 ≤ _)⟩)
    dsimp only [Pt.U, Pt.locs, Pt.cells, Pt.slots] at X26 l26 y26 z26 st26 hQ26
    subst l26 y26 z26
    obtain ⟨rfl, N26, e26⟩ := hQ26
    refine own_by (B := T26.setTop (mkF m 9 #[.val (.int ua), .val (.int (9 : Int32)), .unset, .unset] [(own_f1 (9 : Int32) a_CONNECT a_CONNACK a_PUBLISH a_PUBACK a_PUBREC a_PUBREL a_PUBCOMP a_SUBSCRIBE a_SUBACK a_UNSUBSCRIBE a_UNSUBACK a_PINGREQ a_PINGRESP a_DISCONNECT a_AUTH)])) st26 ?_
    have M26 := Fr.app N0 N26
    rw [show (own_f1 (9 : Int32) a_CONNECT a_CONNACK a_PUBLISH a_PUBACK a_PUBREC a_PUBREL a_PUBCOMP a_SUBSCRIBE a_SUBACK a_UNSUBSCRIBE a_UNSUBACK a_PINGREQ a_PINGRESP a_DISCONNECT a_AUTH) = (.ref a_SUBACK) from by unfold own_f1; rw [if_neg (by decide), if_pos (by decide)]; rfl]
    refine own_by (B := T26.setTop (mkF m 10 #[.val (.int ua), .val (.int (9 : Int32)), .val (.ref a_SUBACK), .unset] [])) (fun _ k => XS.astoreN X26.here hx rfl (hb hby at_9) rfl rfl (l' := #[.val (.int ua), .val (.int (9 : Int32)), .val (.ref a_SUBACK), .unset]) rfl k) ?_
    refine own_by (B := T26.setTop (mkF m 11 #[.val (.int ua), .val (.int (9 : Int32)), .val (.ref a_SUBACK), .unset] [(.ref a_SUBACK)])) (fun _ k => XS.aloadN X26.here hx rfl (hb hby at_10) rfl rfl  k) ?_
    refine own_by (B := T26.setTop (mkF m 16 #[.val (.int ua), .val (.int (9 : Int32)), .val (.ref a_SUBACK), .unset] [])) (fun _ k => XT.ifnonnullYes X26.here hx rfl (pc0 := 11) (pc' := 16) rfl (hb hby at_11) rfl (by decide) (by decide) k) ?_
    refine own_by (B := T26.setTop (mkF m 17 #[.val (.int ua), .val (.int (9 : Int32)), .val (.ref a_SUBACK), .unset] [(.int (9 : Int32))])) (fun _ k => XS.iloadN X26.here hx rfl (hb hby at_16) rfl  k) ?_
    refine own_by (B := T26.setTop (mkF m 18 #[.val (.int ua), .val (.int (9 : Int32)), .val (.ref a_SUBACK), .unset] [(.int (2 : Int32)), (.int (9 : Int32))])) (fun _ k => XS.iconst X26.here hx rfl (hb hby at_17) k) ?_
    refine own_by (B := T26.setTop (mkF m 21 #[.val (.int ua), .val (.int (9 : Int32)), .val (.ref a_SUBACK), .unset] [])) (fun _ k => XS.icmpNo X26.here hx rfl (hb hby at_18) rfl (XT.ii_eq_f (by decide)) k) ?_
    refine own_by (B := T26.setTop (mkF m 22 #[.val (.int ua), .val (.int (9 : Int32)), .val (.ref a_SUBACK), .unset] [(.int (9 : Int32))])) (fun _ k => XS.iloadN X26.here hx rfl (hb hby at_21) rfl  k) ?_
    refine own_by (B := T26.setTop (mkF m 24 #[.val (.int ua), .val (.int (9 : Int32)), .val (.ref a_SUBACK), .unset] [(.int (9 : Int32)), (.int (9 : Int32))])) (fun _ k => XS.bipush X26.here hx rfl (hb hby at_22) k) ?_
    refine own_by (B := T26.setTop (mkF m 39 #[.val (.int ua), .val (.int (9 : Int32)), .val (.ref a_SUBACK), .unset] [])) (fun _ k => XS.icmpYes X26.here hx rfl (pc0 := 24) (pc' := 39) rfl (hb hby at_24) rfl (XT.ii_eq_t (by decide)) (by decide) (by decide) k) ?_
    refine own_by (B := T26.setTop (mkF m 40 #[.val (.int ua), .val (.int (9 : Int32)), .val (.ref a_SUBACK), .unset] [(.int (1 : Int32))])) (fun _ k => XS.iconst X26.here hx rfl (hb hby at_39) k) ?_
    refine own_by (B := T26.setTop (mkF m 44 #[.val (.int ua), .val (.int (9 : Int32)), .val (.ref a_SUBACK), .unset] [(.int (1 : Int32))])) (fun _ k => XS.goto X26.here hx rfl (pc0 := 40) (pc' := 44) rfl (hb hby at_40) (by decide) (by decide) k) ?_
    refine own_by (B := T26.setTop (mkF m 45 #[.val (.int ua), .val (.int (9 : Int32)), .val (.ref a_SUBACK), .val (.int (1 : Int32))] [])) (fun _ k => XS.istoreN X26.here hx rfl (hb hby at_44) rfl (l' := #[.val (.int ua), .val (.int (9 : Int32)), .val (.ref a_SUBACK), .val (.int (1 : Int32))]) rfl k) ?_
    refine own_by (B := T26.setTop (mkF m 46 #[.val (.int ua), .val (.int (9 : Int32)), .val (.ref a_SUBACK), .val (.int (1 : Int32))] [(.ref a_SUBACK)])) (fun _ k => XS.aloadN X26.here hx rfl (hb hby at_45) rfl rfl  k) ?_
    obtain ⟨cq27, kq27, qa27, qb27, qc27⟩ := isOf hZ e26 E_SUBACK
    obtain ⟨_, _, ⟨T27, L27, k27, n27⟩, -, X27, ⟨Lc27, hQ27, l27, y27, z27⟩, st27⟩ := X26.virtualBack hx (y := (⟨"com/example/mqtt_packet_codec/mqttpacketcodec/PacketType", "code", "()I"⟩ : MethodName)) (z := (⟨"com/example/mqtt_packet_codec/mqttpacketcodec/PacketType", "code", "()I"⟩ : MethodName)) hown (mvT hZ (hw _ (List.mem_of_getElem? (i := 7) rfl))) (mvT hZ (hw _ (List.mem_of_getElem? (i := 8) rfl))) (notFace_of_selects (args := #[]) (mvT hZ (hw _ (List.mem_of_getElem? (i := 10) rfl)))) (mvT hZ (hw _ (List.mem_of_getElem? (i := 10) rfl))) (mvT hZ (hw _ (List.mem_of_getElem? (i := 9) rfl))) (by decide) (backOf (W := 0) (rm2 l Z a0 hw [] a_SUBACK (9 : Int32) h0 n0 Z0 F_SUBACK_code) hZ (hw _ (List.mem_of_getElem? (i := 11) rfl)) (hw _ (List.mem_of_getElem? (i := 2) rfl)) (by decide) (by decide)) qa27 qc27 (g := (mkF m 46 #[.val (.int ua), .val (.int (9 : Int32)), .val (.ref a_SUBACK), .val (.int (1 : Int32))] [(.ref a_SUBACK)])) rfl (by rw [hml]; rfl) (Steps.refl _) (argsL := []) (rest := []) (lenOf pd_0___I rfl) rfl (by show 2 * 0 + _ ≤ _; exact Nat.le_of_eq rfl) (hb hby at_46) (fun _ _ => ⟨rfl, e26, (by decide : 0 + 0 ≤ _), (by decide : 0 + 0 ≤ _)⟩)
    dsimp only [Pt.U, Pt.locs, Pt.cells, Pt.slots] at X27 l27 y27 z27 st27 hQ27
    subst l27 y27 z27
    obtain ⟨rfl, N27, e27⟩ := hQ27
    refine own_by (B := T27.setTop (mkF m 49 #[.val (.int ua), .val (.int (9 : Int32)), .val (.ref a_SUBACK), .val (.int (1 : Int32))] [(.int (own_code (9 : Int32)))])) (fun _ k => st27.trans k) ?_
    have M27 := Fr.app M26 N27
    rw [show (own_code (9 : Int32)) = (9 : Int32) from rfl]
    refine own_by (B := T27.setTop (mkF m 50 #[.val (.int ua), .val (.int (9 : Int32)), .val (.ref a_SUBACK), .val (.int (1 : Int32))] [(.int (9 : Int32)), (.int (9 : Int32))])) (fun _ k => XS.iloadN X27.here hx rfl (hb hby at_49) rfl  k) ?_
    refine own_by (B := T27.setTop (mkF m 53 #[.val (.int ua), .val (.int (9 : Int32)), .val (.ref a_SUBACK), .val (.int (1 : Int32))] [])) (fun _ k => XS.icmpNo X27.here hx rfl (hb hby at_50) rfl (XT.ii_ne_f (by decide)) k) ?_
    refine own_by (B := T27.setTop (mkF m 54 #[.val (.int ua), .val (.int (9 : Int32)), .val (.ref a_SUBACK), .val (.int (1 : Int32))] [(.ref a_SUBACK)])) (fun _ k => XS.aloadN X27.here hx rfl (hb hby at_53) rfl rfl  k) ?_
    obtain ⟨cq28, kq28, qa28, qb28, qc28⟩ := isOf hZ e27 E_SUBACK
    obtain ⟨_, _, ⟨T28, L28, k28, n28⟩, -, X28, ⟨Lc28, hQ28, l28, y28, z28⟩, st28⟩ := X27.virtualBack hx (y := (⟨"com/example/mqtt_packet_codec/mqttpacketcodec/PacketType", "sentByServerOnly", "()Z"⟩ : MethodName)) (z := (⟨"com/example/mqtt_packet_codec/mqttpacketcodec/PacketType", "sentByServerOnly", "()Z"⟩ : MethodName)) hown (mvT hZ (hw _ (List.mem_of_getElem? (i := 14) rfl))) (mvT hZ (hw _ (List.mem_of_getElem? (i := 15) rfl))) (notFace_of_selects (args := #[]) (mvT hZ (hw _ (List.mem_of_getElem? (i := 17) rfl)))) (mvT hZ (hw _ (List.mem_of_getElem? (i := 17) rfl))) (mvT hZ (hw _ (List.mem_of_getElem? (i := 16) rfl))) (by decide) (backOf (W := 0) (rm3 l Z a0 hw [] a_PUBLISH a_CONNACK a_SUBACK a_UNSUBACK a_PINGRESP a_DISCONNECT a_AUTH a_UNSUBSCRIBE a_PUBCOMP a_SUBSCRIBE a_CONNECT a_PUBACK a_PINGREQ a_PUBREL a_PUBREC a_BY_CODE k_BY_CODE a_SUBACK h0 n0 Z0 HW) hZ (hw _ (List.mem_of_getElem? (i := 18) rfl)) (hw _ (List.mem_of_getElem? (i := 2) rfl)) (by decide) (by decide)) qa28 qc28 (g := (mkF m 54 #[.val (.int ua), .val (.int (9 : Int32)), .val (.ref a_SUBACK), .val (.int (1 : Int32))] [(.ref a_SUBACK)])) rfl (by rw [hml]; rfl) (Steps.refl _) (argsL := []) (rest := []) (lenOf pd_0___Z rfl) rfl (by show 2 * 0 + _ ≤ _; exact Nat.le_of_eq rfl) (hb hby at_54) (fun _ _ => ⟨rfl, e27, (by decide : 0 + 0 ≤ _), (by decide : 0 + 0 ≤ _)⟩)
    dsimp only [Pt.U, Pt.locs, Pt.cells, Pt.slots] at X28 l28 y28 z28 st28 hQ28
    subst l28 y28 z28
    obtain ⟨rfl, N28, e28⟩ := hQ28
    refine own_by (B := T28.setTop (mkF m 57 #[.val (.int ua), .val (.int (9 : Int32)), .val (.ref a_SUBACK), .val (.int (1 : Int32))] [(.int (own_sent a_SUBACK a_CONNACK a_SUBACK a_UNSUBACK a_PINGRESP))])) (fun _ k => st28.trans k) ?_
    have M28 := Fr.app M27 N28
    rw [show (own_sent a_SUBACK a_CONNACK a_SUBACK a_UNSUBACK a_PINGRESP) = (1 : Int32) from by unfold own_sent; rw [if_neg (Fld.ne F_SUBACK_ordinal F_CONNACK_ordinal (by decide)), if_pos rfl]]
    refine own_by (B := T28.setTop (mkF m 58 #[.val (.int ua), .val (.int (9 : Int32)), .val (.ref a_SUBACK), .val (.int (1 : Int32))] [(.int (1 : Int32)), (.int (1 : Int32))])) (fun _ k => XS.iloadN X28.here hx rfl (hb hby at_57) rfl  k) ?_
    refine own_by (B := T28.setTop (mkF m 61 #[.val (.int ua), .val (.int (9 : Int32)), .val (.ref a_SUBACK), .val (.int (1 : Int32))] [])) (fun _ k => XS.icmpNo X28.here hx rfl (hb hby at_58) rfl (XT.ii_ne_f (by decide)) k) ?_
    refine own_by (B := T28.setTop (mkF m 62 #[.val (.int ua), .val (.int (9 : Int32)), .val (.ref a_SUBACK), .val (.int (1 : Int32))] [(.int (1 : Int32))])) (fun _ k => XS.iconst X28.here hx rfl (hb hby at_61) k) ?_
    refine own_by (B := T28.setTop (mkF m 66 #[.val (.int ua), .val (.int (9 : Int32)), .val (.ref a_SUBACK), .val (.int (1 : Int32))] [(.int (1 : Int32))])) (fun _ k => XS.goto X28.here hx rfl (pc0 := 62) (pc' := 66) rfl (hb hby at_62) (by decide) (by decide) k) ?_
    exact own_retZ X28 hx hrt hlk rfl (hb hby at_66) (by decide) (by decide) ⟨rfl, M28⟩
  · refine own_by (B := s₁.setTop (mkF m 5 #[.val (.int ua), .val (.int (10 : Int32)), .unset, .unset] [])) (fun _ k => XS.istoreN X0.here hx rfl (hb hby at_4) rfl (l' := #[.val (.int ua), .val (.int (10 : Int32)), .unset, .unset]) rfl k) ?_
    refine own_by (B := s₁.setTop (mkF m 6 #[.val (.int ua), .val (.int (10 : Int32)), .unset, .unset] [(.int (10 : Int32))])) (fun _ k => XS.iloadN X0.here hx rfl (hb hby at_5) rfl  k) ?_
    obtain ⟨_, _, ⟨T29, L29, k29, n29⟩, -, X29, ⟨Lc29, hQ29, l29, y29, z29⟩, st29⟩ := Jvm.LawKit.callS X0 hx (y := (⟨"com/example/mqtt_packet_codec/mqttpacketcodec/PacketType", "fromCode", "(I)Lcom/example/mqtt_packet_codec/mqttpacketcodec/PacketType;"⟩ : MethodName)) hown (mvT hZ (hw _ (List.mem_of_getElem? (i := 0) rfl))) (mvT hZ (hw _ (List.mem_of_getElem? (i := 1) rfl))) (mvT hZ (hw _ (List.mem_of_getElem? (i := 2) rfl))) (mvT hZ (hw _ (List.mem_of_getElem? (i := 3) rfl))) (by decide) (backOf (W := 0) (rm1 l Z a0 hw [] a_PUBLISH a_CONNACK a_SUBACK a_UNSUBACK a_PINGRESP a_DISCONNECT a_AUTH a_UNSUBSCRIBE a_PUBCOMP a_SUBSCRIBE a_CONNECT a_PUBACK a_PINGREQ a_PUBREL a_PUBREC a_BY_CODE k_BY_CODE (10 : Int32) h0 n0 Z0 HW) hZ (hw _ (List.mem_of_getElem? (i := 3) rfl)) (hw _ (List.mem_of_getElem? (i := 2) rfl)) (by decide) (by decide)) (g := (mkF m 6 #[.val (.int ua), .val (.int (10 : Int32)), .unset, .unset] [(.int (10 : Int32))])) rfl (by rw [hml]; rfl) (argsL := [(.int (10 : Int32))]) (rest := []) (lenOf pd_0__I_Lcom_example_mqtt_packet_codec_mqttpacketcodec_PacketType_ rfl) rfl (by show 2 * 0 + _ ≤ _; exact Nat.le_of_eq rfl) (hb hby at_6) (fun _ _ => ⟨rfl, e0, (by decide : 0 + 0 ≤ _), (by decide : 0 + 0 ≤ _)⟩)
    dsimp only [Pt.U, Pt.locs, Pt.cells, Pt.slots] at X29 l29 y29 z29 st29 hQ29
    subst l29 y29 z29
    obtain ⟨rfl, N29, e29⟩ := hQ29
    refine own_by (B := T29.setTop (mkF m 9 #[.val (.int ua), .val (.int (10 : Int32)), .unset, .unset] [(own_f1 (10 : Int32) a_CONNECT a_CONNACK a_PUBLISH a_PUBACK a_PUBREC a_PUBREL a_PUBCOMP a_SUBSCRIBE a_SUBACK a_UNSUBSCRIBE a_UNSUBACK a_PINGREQ a_PINGRESP a_DISCONNECT a_AUTH)])) st29 ?_
    have M29 := Fr.app N0 N29
    rw [show (own_f1 (10 : Int32) a_CONNECT a_CONNACK a_PUBLISH a_PUBACK a_PUBREC a_PUBREL a_PUBCOMP a_SUBSCRIBE a_SUBACK a_UNSUBSCRIBE a_UNSUBACK a_PINGREQ a_PINGRESP a_DISCONNECT a_AUTH) = (.ref a_UNSUBSCRIBE) from by unfold own_f1; rw [if_neg (by decide), if_pos (by decide)]; rfl]
    refine own_by (B := T29.setTop (mkF m 10 #[.val (.int ua), .val (.int (10 : Int32)), .val (.ref a_UNSUBSCRIBE), .unset] [])) (fun _ k => XS.astoreN X29.here hx rfl (hb hby at_9) rfl rfl (l' := #[.val (.int ua), .val (.int (10 : Int32)), .val (.ref a_UNSUBSCRIBE), .unset]) rfl k) ?_
    refine own_by (B := T29.setTop (mkF m 11 #[.val (.int ua), .val (.int (10 : Int32)), .val (.ref a_UNSUBSCRIBE), .unset] [(.ref a_UNSUBSCRIBE)])) (fun _ k => XS.aloadN X29.here hx rfl (hb hby at_10) rfl rfl  k) ?_
    refine own_by (B := T29.setTop (mkF m 16 #[.val (.int ua), .val (.int (10 : Int32)), .val (.ref a_UNSUBSCRIBE), .unset] [])) (fun _ k => XT.ifnonnullYes X29.here hx rfl (pc0 := 11) (pc' := 16) rfl (hb hby at_11) rfl (by decide) (by decide) k) ?_
    refine own_by (B := T29.setTop (mkF m 17 #[.val (.int ua), .val (.int (10 : Int32)), .val (.ref a_UNSUBSCRIBE), .unset] [(.int (10 : Int32))])) (fun _ k => XS.iloadN X29.here hx rfl (hb hby at_16) rfl  k) ?_
    refine own_by (B := T29.setTop (mkF m 18 #[.val (.int ua), .val (.int (10 : Int32)), .val (.ref a_UNSUBSCRIBE), .unset] [(.int (2 : Int32)), (.int (10 : Int32))])) (fun _ k => XS.iconst X29.here hx rfl (hb hby at_17) k) ?_
    refine own_by (B := T29.setTop (mkF m 21 #[.val (.int ua), .val (.int (10 : Int32)), .val (.ref a_UNSUBSCRIBE), .unset] [])) (fun _ k => XS.icmpNo X29.here hx rfl (hb hby at_18) rfl (XT.ii_eq_f (by decide)) k) ?_
    refine own_by (B := T29.setTop (mkF m 22 #[.val (.int ua), .val (.int (10 : Int32)), .val (.ref a_UNSUBSCRIBE), .unset] [(.int (10 : Int32))])) (fun _ k => XS.iloadN X29.here hx rfl (hb hby at_21) rfl  k) ?_
    refine own_by (B := T29.setTop (mkF m 24 #[.val (.int ua), .val (.int (10 : Int32)), .val (.ref a_UNSUBSCRIBE), .unset] [(.int (9 : Int32)), (.int (10 : Int32))])) (fun _ k => XS.bipush X29.here hx rfl (hb hby at_22) k) ?_
    refine own_by (B := T29.setTop (mkF m 27 #[.val (.int ua), .val (.int (10 : Int32)), .val (.ref a_UNSUBSCRIBE), .unset] [])) (fun _ k => XS.icmpNo X29.here hx rfl (hb hby at_24) rfl (XT.ii_eq_f (by decide)) k) ?_
    refine own_by (B := T29.setTop (mkF m 28 #[.val (.int ua), .val (.int (10 : Int32)), .val (.ref a_UNSUBSCRIBE), .unset] [(.int (10 : Int32))])) (fun _ k => XS.iloadN X29.here hx rfl (hb hby at_27) rfl  k) ?_
    refine own_by (B := T29.setTop (mkF m 30 #[.val (.int ua), .val (.int (10 : Int32)), .val (.ref a_UNSUBSCRIBE), .unset] [(.int (11 : Int32)), (.int (10 : Int32))])) (fun _ k => XS.bipush X29.here hx rfl (hb hby at_28) k) ?_
    refine own_by (B := T29.setTop (mkF m 33 #[.val (.int ua), .val (.int (10 : Int32)), .val (.ref a_UNSUBSCRIBE), .unset] [])) (fun _ k => XS.icmpNo X29.here hx rfl (hb hby at_30) rfl (XT.ii_eq_f (by decide)) k) ?_
    refine own_by (B := T29.setTop (mkF m 34 #[.val (.int ua), .val (.int (10 : Int32)), .val (.ref a_UNSUBSCRIBE), .unset] [(.int (10 : Int32))])) (fun _ k => XS.iloadN X29.here hx rfl (hb hby at_33) rfl  k) ?_
    refine own_by (B := T29.setTop (mkF m 36 #[.val (.int ua), .val (.int (10 : Int32)), .val (.ref a_UNSUBSCRIBE), .unset] [(.int (13 : Int32)), (.int (10 : Int32))])) (fun _ k => XS.bipush X29.here hx rfl (hb hby at_34) k) ?_
    refine own_by (B := T29.setTop (mkF m 43 #[.val (.int ua), .val (.int (10 : Int32)), .val (.ref a_UNSUBSCRIBE), .unset] [])) (fun _ k => XS.icmpYes X29.here hx rfl (pc0 := 36) (pc' := 43) rfl (hb hby at_36) rfl (XT.ii_ne_t (by decide)) (by decide) (by decide) k) ?_
    refine own_by (B := T29.setTop (mkF m 44 #[.val (.int ua), .val (.int (10 : Int32)), .val (.ref a_UNSUBSCRIBE), .unset] [(.int (0 : Int32))])) (fun _ k => XS.iconst X29.here hx rfl (hb hby at_43) k) ?_
    refine own_by (B := T29.setTop (mkF m 45 #[.val (.int ua), .val (.int (10 : Int32)), .val (.ref a_UNSUBSCRIBE), .val (.int (0 : Int32))] [])) (fun _ k => XS.istoreN X29.here hx rfl (hb hby at_44) rfl (l' := #[.val (.int ua), .val (.int (10 : Int32)), .val (.ref a_UNSUBSCRIBE), .val (.int (0 : Int32))]) rfl k) ?_
    refine own_by (B := T29.setTop (mkF m 46 #[.val (.int ua), .val (.int (10 : Int32)), .val (.ref a_UNSUBSCRIBE), .val (.int (0 : Int32))] [(.ref a_UNSUBSCRIBE)])) (fun _ k => XS.aloadN X29.here hx rfl (hb hby at_45) rfl rfl  k) ?_
    obtain ⟨cq30, kq30, qa30, qb30, qc30⟩ := isOf hZ e29 E_UNSUBSCRIBE
    obtain ⟨_, _, ⟨T30, L30, k30, n30⟩, -, X30, ⟨Lc30, hQ30, l30, y30, z30⟩, st30⟩ := X29.virtualBack hx (y := (⟨"com/example/mqtt_packet_codec/mqttpacketcodec/PacketType", "code", "()I"⟩ : MethodName)) (z := (⟨"com/example/mqtt_packet_codec/mqttpacketcodec/PacketType", "code", "()I"⟩ : MethodName)) hown (mvT hZ (hw _ (List.mem_of_getElem? (i := 7) rfl))) (mvT hZ (hw _ (List.mem_of_getElem? (i := 8) rfl))) (notFace_of_selects (args := #[]) (mvT hZ (hw _ (List.mem_of_getElem? (i := 10) rfl)))) (mvT hZ (hw _ (List.mem_of_getElem? (i := 10) rfl))) (mvT hZ (hw _ (List.mem_of_getElem? (i := 9) rfl))) (by decide) (backOf (W := 0) (rm2 l Z a0 hw [] a_UNSUBSCRIBE (10 : Int32) h0 n0 Z0 F_UNSUBSCRIBE_code) hZ (hw _ (List.mem_of_getElem? (i := 11) rfl)) (hw _ (List.mem_of_getElem? (i := 2) rfl)) (by decide) (by decide)) qa30 qc30 (g := (mkF m 46 #[.val (.int ua), .val (.int (10 : Int32)), .val (.ref a_UNSUBSCRIBE), .val (.int (0 : Int32))] [(.ref a_UNSUBSCRIBE)])) rfl (by rw [hml]; rfl) (Steps.refl _) (argsL := []) (rest := []) (lenOf pd_0___I rfl) rfl (by show 2 * 0 + _ ≤ _; exact Nat.le_of_eq rfl) (hb hby at_46) (fun _ _ => ⟨rfl, e29, (by decide : 0 + 0 ≤ _), (by decide : 0 + 0 ≤ _)⟩)
    dsimp only [Pt.U, Pt.locs, Pt.cells, Pt.slots] at X30 l30 y30 z30 st30 hQ30
    subst l30 y30 z30
    obtain ⟨rfl, N30, e30⟩ := hQ30
    refine own_by (B := T30.setTop (mkF m 49 #[.val (.int ua), .val (.int (10 : Int32)), .val (.ref a_UNSUBSCRIBE), .val (.int (0 : Int32))] [(.int (own_code (10 : Int32)))])) (fun _ k => st30.trans k) ?_
    have M30 := Fr.app M29 N30
    rw [show (own_code (10 : Int32)) = (10 : Int32) from rfl]
    refine own_by (B := T30.setTop (mkF m 50 #[.val (.int ua), .val (.int (10 : Int32)), .val (.ref a_UNSUBSCRIBE), .val (.int (0 : Int32))] [(.int (10 : Int32)), (.int (10 : Int32))])) (fun _ k => XS.iloadN X30.here hx rfl (hb hby at_49) rfl  k) ?_
    refine own_by (B := T30.setTop (mkF m 53 #[.val (.int ua), .val (.int (10 : Int32)), .val (.ref a_UNSUBSCRIBE), .val (.int (0 : Int32))] [])) (fun _ k => XS.icmpNo X30.here hx rfl (hb hby at_50) rfl (XT.ii_ne_f (by decide)) k) ?_
    refine own_by (B := T30.setTop (mkF m 54 #[.val (.int ua), .val (.int (10 : Int32)), .val (.ref a_UNSUBSCRIBE), .val (.int (0 : Int32))] [(.ref a_UNSUBSCRIBE)])) (fun _ k => XS.aloadN X30.here hx rfl (hb hby at_53) rfl rfl  k) ?_
    obtain ⟨cq31, kq31, qa31, qb31, qc31⟩ := isOf hZ e30 E_UNSUBSCRIBE
    obtain ⟨_, _, ⟨T31, L31, k31, n31⟩, -, X31, ⟨Lc31, hQ31, l31, y31, z31⟩, st31⟩ := X30.virtualBack hx (y := (⟨"com/example/mqtt_packet_codec/mqttpacketcodec/PacketType", "sentByServerOnly", "()Z"⟩ : MethodName)) (z := (⟨"com/example/mqtt_packet_codec/mqttpacketcodec/PacketType", "sentByServerOnly", "()Z"⟩ : MethodName)) hown (mvT hZ (hw _ (List.mem_of_getElem? (i := 14) rfl))) (mvT hZ (hw _ (List.mem_of_getElem? (i := 15) rfl))) (notFace_of_selects (args := #[]) (mvT hZ (hw _ (List.mem_of_getElem? (i := 17) rfl)))) (mvT hZ (hw _ (List.mem_of_getElem? (i := 17) rfl))) (mvT hZ (hw _ (List.mem_of_getElem? (i := 16) rfl))) (by decide) (backOf (W := 0) (rm3 l Z a0 hw [] a_PUBLISH a_CONNACK a_SUBACK a_UNSUBACK a_PINGRESP a_DISCONNECT a_AUTH a_UNSUBSCRIBE a_PUBCOMP a_SUBSCRIBE a_CONNECT a_PUBACK a_PINGREQ a_PUBREL a_PUBREC a_BY_CODE k_BY_CODE a_UNSUBSCRIBE h0 n0 Z0 HW) hZ (hw _ (List.mem_of_getElem? (i := 18) rfl)) (hw _ (List.mem_of_getElem? (i := 2) rfl)) (by decide) (by decide)) qa31 qc31 (g := (mkF m 54 #[.val (.int ua), .val (.int (10 : Int32)), .val (.ref a_UNSUBSCRIBE), .val (.int (0 : Int32))] [(.ref a_UNSUBSCRIBE)])) rfl (by rw [hml]; rfl) (Steps.refl _) (argsL := []) (rest := []) (lenOf pd_0___Z rfl) rfl (by show 2 * 0 + _ ≤ _; exact Nat.le_of_eq rfl) (hb hby at_54) (fun _ _ => ⟨rfl, e30, (by decide : 0 + 0 ≤ _), (by decide : 0 + 0 ≤ _)⟩)
    dsimp only [Pt.U, Pt.locs, Pt.cells, Pt.slots] at X31 l31 y31 z31 st31 hQ31
    subst l31 y31 z31
    obtain ⟨rfl, N31, e31⟩ := hQ31
    refine own_by (B := T31.setTop (mkF m 57 #[.val (.int ua), .val (.int (10 : Int32)), .val (.ref a_UNSUBSCRIBE), .val (.int (0 : Int32))] [(.int (own_sent a_UNSUBSCRIBE a_CONNACK a_SUBACK a_UNSUBACK a_PINGRESP))])) (fun _ k => st31.trans k) ?_
    have M31 := Fr.app M30 N31
    rw [show (own_sent a_UNSUBSCRIBE a_CONNACK a_SUBACK a_UNSUBACK a_PINGRESP) = (0 : Int32) from by unfold own_sent; rw [if_neg (Fld.ne F_UNSUBSCRIBE_ordinal F_CONNACK_ordinal (by decide)), if_neg (Fld.ne F_UNSUBSCRIBE_ordinal F_SUBACK_ordinal (by decide)), if_neg (Fld.ne F_UNSUBSCRIBE_ordinal F_UNSUBACK_ordinal (by decide)), if_neg (Fld.ne F_UNSUBSCRIBE_ordinal F_PINGRESP_ordinal (by decide))]]
    refine own_by (B := T31.setTop (mkF m 58 #[.val (.int ua), .val (.int (10 : Int32)), .val (.ref a_UNSUBSCRIBE), .val (.int (0 : Int32))] [(.int (0 : Int32)), (.int (0 : Int32))])) (fun _ k => XS.iloadN X31.here hx rfl (hb hby at_57) rfl  k) ?_
    refine own_by (B := T31.setTop (mkF m 61 #[.val (.int ua), .val (.int (10 : Int32)), .val (.ref a_UNSUBSCRIBE), .val (.int (0 : Int32))] [])) (fun _ k => XS.icmpNo X31.here hx rfl (hb hby at_58) rfl (XT.ii_ne_f (by decide)) k) ?_
    refine own_by (B := T31.setTop (mkF m 62 #[.val (.int ua), .val (.int (10 : Int32)), .val (.ref a_UNSUBSCRIBE), .val (.int (0 : Int32))] [(.int (1 : Int32))])) (fun _ k => XS.iconst X31.here hx rfl (hb hby at_61) k) ?_
    refine own_by (B := T31.setTop (mkF m 66 #[.val (.int ua), .val (.int (10 : Int32)), .val (.ref a_UNSUBSCRIBE), .val (.int (0 : Int32))] [(.int (1 : Int32))])) (fun _ k => XS.goto X31.here hx rfl (pc0 := 62) (pc' := 66) rfl (hb hby at_62) (by decide) (by decide) k) ?_
    exact own_retZ X31 hx hrt hlk rfl (hb hby at_66) (by decide) (by decide) ⟨rfl, M31⟩
  · refine own_by (B := s₁.setTop (mkF m 5 #[.val (.int ua), .val (.int (11 : Int32)), .unset, .unset] [])) (fun _ k => XS.istoreN X0.here hx rfl (hb hby at_4) rfl (l' := #[.val (.int ua), .val (.int (11 : Int32)), .unset, .unset]) rfl k) ?_
    refine own_by (B := s₁.setTop (mkF m 6 #[.val (.int ua), .val (.int (11 : Int32)), .unset, .unset] [(.int (11 : Int32))])) (fun _ k => XS.iloadN X0.here hx rfl (hb hby at_5) rfl  k) ?_
    obtain ⟨_, _, ⟨T32, L32, k32, n32⟩, -, X32, ⟨Lc32, hQ32, l32, y32, z32⟩, st32⟩ := Jvm.LawKit.callS X0 hx (y := (⟨"com/example/mqtt_packet_codec/mqttpacketcodec/PacketType", "fromCode", "(I)Lcom/example/mqtt_packet_codec/mqttpacketcodec/PacketType;"⟩ : MethodName)) hown (mvT hZ (hw _ (List.mem_of_getElem? (i := 0) rfl))) (mvT hZ (hw _ (List.mem_of_getElem? (i := 1) rfl))) (mvT hZ (hw _ (List.mem_of_getElem? (i := 2) rfl))) (mvT hZ (hw _ (List.mem_of_getElem? (i := 3) rfl))) (by decide) (backOf (W := 0) (rm1 l Z a0 hw [] a_PUBLISH a_CONNACK a_SUBACK a_UNSUBACK a_PINGRESP a_DISCONNECT a_AUTH a_UNSUBSCRIBE a_PUBCOMP a_SUBSCRIBE a_CONNECT a_PUBACK a_PINGREQ a_PUBREL a_PUBREC a_BY_CODE k_BY_CODE (11 : Int32) h0 n0 Z0 HW) hZ (hw _ (List.mem_of_getElem? (i := 3) rfl)) (hw _ (List.mem_of_getElem? (i := 2) rfl)) (by decide) (by decide)) (g := (mkF m 6 #[.val (.int ua), .val (.int (11 : Int32)), .unset, .unset] [(.int (11 : Int32))])) rfl (by rw [hml]; rfl) (argsL := [(.int (11 : Int32))]) (rest := []) (lenOf pd_0__I_Lcom_example_mqtt_packet_codec_mqttpacketcodec_PacketType_ rfl) rfl (by show 2 * 0 + _ ≤ _; exact Nat.le_of_eq rfl) (hb hby at_6) (fun _ _ => ⟨rfl, e0, (by decide : 0 + 0 ≤ _), (by decide : 0 + 0 ≤ _)⟩)
    dsimp only [Pt.U, Pt.locs, Pt.cells, Pt.slots] at X32 l32 y32 z32 st32 hQ32
    subst l32 y32 z32
    obtain ⟨rfl, N32, e32⟩ := hQ32
    refine own_by (B := T32.setTop (mkF m 9 #[.val (.int ua), .val (.int (11 : Int32)), .unset, .unset] [(own_f1 (11 : Int32) a_CONNECT a_CONNACK a_PUBLISH a_PUBACK a_PUBREC a_PUBREL a_PUBCOMP a_SUBSCRIBE a_SUBACK a_UNSUBSCRIBE a_UNSUBACK a_PINGREQ a_PINGRESP a_DISCONNECT a_AUTH)])) st32 ?_
    have M32 := Fr.app N0 N32
    rw [show (own_f1 (11 : Int32) a_CONNECT a_CONNACK a_PUBLISH a_PUBACK a_PUBREC a_PUBREL a_PUBCOMP a_SUBSCRIBE a_SUBACK a_UNSUBSCRIBE a_UNSUBACK a_PINGREQ a_PINGRESP a_DISCONNECT a_AUTH) = (.ref a_UNSUBACK) from by unfold own_f1; rw [if_neg (by decide), if_pos (by decide)]; rfl]
    refine own_by (B := T32.setTop (mkF m 10 #[.val (.int ua), .val (.int (11 : Int32)), .val (.ref a_UNSUBACK), .unset] [])) (fun _ k => XS.astoreN X32.here hx rfl (hb hby at_9) rfl rfl (l' := #[.val (.int ua), .val (.int (11 : Int32)), .val (.ref a_UNSUBACK), .unset]) rfl k) ?_
    refine own_by (B := T32.setTop (mkF m 11 #[.val (.int ua), .val (.int (11 : Int32)), .val (.ref a_UNSUBACK), .unset] [(.ref a_UNSUBACK)])) (fun _ k => XS.aloadN X32.here hx rfl (hb hby at_10) rfl rfl  k) ?_
    refine own_by (B := T32.setTop (mkF m 16 #[.val (.int ua), .val (.int (11 : Int32)), .val (.ref a_UNSUBACK), .unset] [])) (fun _ k => XT.ifnonnullYes X32.here hx rfl (pc0 := 11) (pc' := 16) rfl (hb hby at_11) rfl (by decide) (by decide) k) ?_
    refine own_by (B := T32.setTop (mkF m 17 #[.val (.int ua), .val (.int (11 : Int32)), .val (.ref a_UNSUBACK), .unset] [(.int (11 : Int32))])) (fun _ k => XS.iloadN X32.here hx rfl (hb hby at_16) rfl  k) ?_
    refine own_by (B := T32.setTop (mkF m 18 #[.val (.int ua), .val (.int (11 : Int32)), .val (.ref a_UNSUBACK), .unset] [(.int (2 : Int32)), (.int (11 : Int32))])) (fun _ k => XS.iconst X32.here hx rfl (hb hby at_17) k) ?_
    refine own_by (B := T32.setTop (mkF m 21 #[.val (.int ua), .val (.int (11 : Int32)), .val (.ref a_UNSUBACK), .unset] [])) (fun _ k => XS.icmpNo X32.here hx rfl (hb hby at_18) rfl (XT.ii_eq_f (by decide)) k) ?_
    refine own_by (B := T32.setTop (mkF m 22 #[.val (.int ua), .val (.int (11 : Int32)), .val (.ref a_UNSUBACK), .unset] [(.int (11 : Int32))])) (fun _ k => XS.iloadN X32.here hx rfl (hb hby at_21) rfl  k) ?_
    refine own_by (B := T32.setTop (mkF m 24 #[.val (.int ua), .val (.int (11 : Int32)), .val (.ref a_UNSUBACK), .unset] [(.int (9 : Int32)), (.int (11 : Int32))])) (fun _ k => XS.bipush X32.here hx rfl (hb hby at_22) k) ?_
    refine own_by (B := T32.setTop (mkF m 27 #[.val (.int ua), .val (.int (11 : Int32)), .val (.ref a_UNSUBACK), .unset] [])) (fun _ k => XS.icmpNo X32.here hx rfl (hb hby at_24) rfl (XT.ii_eq_f (by decide)) k) ?_
    refine own_by (B := T32.setTop (mkF m 28 #[.val (.int ua), .val (.int (11 : Int32)), .val (.ref a_UNSUBACK), .unset] [(.int (11 : Int32))])) (fun _ k => XS.iloadN X32.here hx rfl (hb hby at_27) rfl  k) ?_
    refine own_by (B := T32.setTop (mkF m 30 #[.val (.int ua), .val (.int (11 : Int32)), .val (.ref a_UNSUBACK), .unset] [(.int (11 : Int32)), (.int (11 : Int32))])) (fun _ k => XS.bipush X32.here hx rfl (hb hby at_28) k) ?_
    refine own_by (B := T32.setTop (mkF m 39 #[.val (.int ua), .val (.int (11 : Int32)), .val (.ref a_UNSUBACK), .unset] [])) (fun _ k => XS.icmpYes X32.here hx rfl (pc0 := 30) (pc' := 39) rfl (hb hby at_30) rfl (XT.ii_eq_t (by decide)) (by decide) (by decide) k) ?_
    refine own_by (B := T32.setTop (mkF m 40 #[.val (.int ua), .val (.int (11 : Int32)), .val (.ref a_UNSUBACK), .unset] [(.int (1 : Int32))])) (fun _ k => XS.iconst X32.here hx rfl (hb hby at_39) k) ?_
    refine own_by (B := T32.setTop (mkF m 44 #[.val (.int ua), .val (.int (11 : Int32)), .val (.ref a_UNSUBACK), .unset] [(.int (1 : Int32))])) (fun _ k => XS.goto X32.here hx rfl (pc0 := 40) (pc' := 44) rfl (hb hby at_40) (by decide) (by decide) k) ?_
    refine own_by (B := T32.setTop (mkF m 45 #[.val (.int ua), .val (.int (11 : Int32)), .val (.ref a_UNSUBACK), .val (.int (1 : Int32))] [])) (fun _ k => XS.istoreN X32.here hx rfl (hb hby at_44) rfl (l' := #[.val (.int ua), .val (.int (11 : Int32)), .val (.ref a_UNSUBACK), .val (.int (1 : Int32))]) rfl k) ?_
    refine own_by (B := T32.setTop (mkF m 46 #[.val (.int ua), .val (.int (11 : Int32)), .val (.ref a_UNSUBACK), .val (.int (1 : Int32))] [(.ref a_UNSUBACK)])) (fun _ k => XS.aloadN X32.here hx rfl (hb hby at_45) rfl rfl  k) ?_
    obtain ⟨cq33, kq33, qa33, qb33, qc33⟩ := isOf hZ e32 E_UNSUBACK
    obtain ⟨_, _, ⟨T33, L33, k33, n33⟩, -, X33, ⟨Lc33, hQ33, l33, y33, z33⟩, st33⟩ := X32.virtualBack hx (y := (⟨"com/example/mqtt_packet_codec/mqttpacketcodec/PacketType", "code", "()I"⟩ : MethodName)) (z := (⟨"com/example/mqtt_packet_codec/mqttpacketcodec/PacketType", "code", "()I"⟩ : MethodName)) hown (mvT hZ (hw _ (List.mem_of_getElem? (i := 7) rfl))) (mvT hZ (hw _ (List.mem_of_getElem? (i := 8) rfl))) (notFace_of_selects (args := #[]) (mvT hZ (hw _ (List.mem_of_getElem? (i := 10) rfl)))) (mvT hZ (hw _ (List.mem_of_getElem? (i := 10) rfl))) (mvT hZ (hw _ (List.mem_of_getElem? (i := 9) rfl))) (by decide) (backOf (W := 0) (rm2 l Z a0 hw [] a_UNSUBACK (11 : Int32) h0 n0 Z0 F_UNSUBACK_code) hZ (hw _ (List.mem_of_getElem? (i := 11) rfl)) (hw _ (List.mem_of_getElem? (i := 2) rfl)) (by decide) (by decide)) qa33 qc33 (g := (mkF m 46 #[.val (.int ua), .val (.int (11 : Int32)), .val (.ref a_UNSUBACK), .val (.int (1 : Int32))] [(.ref a_UNSUBACK)])) rfl (by rw [hml]; rfl) (Steps.refl _) (argsL := []) (rest := []) (lenOf pd_0___I rfl) rfl (by show 2 * 0 + _ ≤ _; exact Nat.le_of_eq rfl) (hb hby at_46) (fun _ _ => ⟨rfl, e32, (by decide : 0 + 0 ≤ _), (by decide : 0 + 0 ≤ _)⟩)
    dsimp only [Pt.U, Pt.locs, Pt.cells, Pt.slots] at X33 l33 y33 z33 st33 hQ33
    subst l33 y33 z33
    obtain ⟨rfl, N33, e33⟩ := hQ33
    refine own_by (B := T33.setTop (mkF m 49 #[.val (.int ua), .val (.int (11 : Int32)), .val (.ref a_UNSUBACK), .val (.int (1 : Int32))] [(.int (own_code (11 : Int32)))])) (fun _ k => st33.trans k) ?_
    have M33 := Fr.app M32 N33
    rw [show (own_code (11 : Int32)) = (11 : Int32) from rfl]
    refine own_by (B := T33.setTop (mkF m 50 #[.val (.int ua), .val (.int (11 : Int32)), .val (.ref a_UNSUBACK), .val (.int (1 : Int32))] [(.int (11 : Int32)), (.int (11 : Int32))])) (fun _ k => XS.iloadN X33.here hx rfl (hb hby at_49) rfl  k) ?_
    refine own_by (B := T33.setTop (mkF m 53 #[.val (.int ua), .val (.int (11 : Int32)), .val (.ref a_UNSUBACK), .val (.int (1 : Int32))] [])) (fun _ k => XS.icmpNo X33.here hx rfl (hb hby at_50) rfl (XT.ii_ne_f (by decide)) k) ?_
    refine own_by (B := T33.setTop (mkF m 54 #[.val (.int ua), .val (.int (11 : Int32)), .val (.ref a_UNSUBACK), .val (.int (1 : Int32))] [(.ref a_UNSUBACK)])) (fun _ k => XS.aloadN X33.here hx rfl (hb hby at_53) rfl rfl  k) ?_
    obtain ⟨cq34, kq34, qa34, qb34, qc34⟩ := isOf hZ e33 E_UNSUBACK
    obtain ⟨_, _, ⟨T34, L34, k34, n34⟩, -, X34, ⟨Lc34, hQ34, l34, y34, z34⟩, st34⟩ := X33.virtualBack hx (y := (⟨"com/example/mqtt_packet_codec/mqttpacketcodec/PacketType", "sentByServerOnly", "()Z"⟩ : MethodName)) (z := (⟨"com/example/mqtt_packet_codec/mqttpacketcodec/PacketType", "sentByServerOnly", "()Z"⟩ : MethodName)) hown (mvT hZ (hw _ (List.mem_of_getElem? (i := 14) rfl))) (mvT hZ (hw _ (List.mem_of_getElem? (i := 15) rfl))) (notFace_of_selects (args := #[]) (mvT hZ (hw _ (List.mem_of_getElem? (i := 17) rfl)))) (mvT hZ (hw _ (List.mem_of_getElem? (i := 17) rfl))) (mvT hZ (hw _ (List.mem_of_getElem? (i := 16) rfl))) (by decide) (backOf (W := 0) (rm3 l Z a0 hw [] a_PUBLISH a_CONNACK a_SUBACK a_UNSUBACK a_PINGRESP a_DISCONNECT a_AUTH a_UNSUBSCRIBE a_PUBCOMP a_SUBSCRIBE a_CONNECT a_PUBACK a_PINGREQ a_PUBREL a_PUBREC a_BY_CODE k_BY_CODE a_UNSUBACK h0 n0 Z0 HW) hZ (hw _ (List.mem_of_getElem? (i := 18) rfl)) (hw _ (List.mem_of_getElem? (i := 2) rfl)) (by decide) (by decide)) qa34 qc34 (g := (mkF m 54 #[.val (.int ua), .val (.int (11 : Int32)), .val (.ref a_UNSUBACK), .val (.int (1 : Int32))] [(.ref a_UNSUBACK)])) rfl (by rw [hml]; rfl) (Steps.refl _) (argsL := []) (rest := []) (lenOf pd_0___Z rfl) rfl (by show 2 * 0 + _ ≤ _; exact Nat.le_of_eq rfl) (hb hby at_54) (fun _ _ => ⟨rfl, e33, (by decide : 0 + 0 ≤ _), (by decide : 0 + 0 ≤ _)⟩)
    dsimp only [Pt.U, Pt.locs, Pt.cells, Pt.slots] at X34 l34 y34 z34 st34 hQ34
    subst l34 y34 z34
    obtain ⟨rfl, N34, e34⟩ := hQ34
    refine own_by (B := T34.setTop (mkF m 57 #[.val (.int ua), .val (.int (11 : Int32)), .val (.ref a_UNSUBACK), .val (.int (1 : Int32))] [(.int (own_sent a_UNSUBACK a_CONNACK a_SUBACK a_UNSUBACK a_PINGRESP))])) (fun _ k => st34.trans k) ?_
    have M34 := Fr.app M33 N34
    rw [show (own_sent a_UNSUBACK a_CONNACK a_SUBACK a_UNSUBACK a_PINGRESP) = (1 : Int32) from by unfold own_sent; rw [if_neg (Fld.ne F_UNSUBACK_ordinal F_CONNACK_ordinal (by decide)), if_neg (Fld.ne F_UNSUBACK_ordinal F_SUBACK_ordinal (by decide)), if_pos rfl]]
    refine own_by (B := T34.setTop (mkF m 58 #[.val (.int ua), .val (.int (11 : Int32)), .val (.ref a_UNSUBACK), .val (.int (1 : Int32))] [(.int (1 : Int32)), (.int (1 : Int32))])) (fun _ k => XS.iloadN X34.here hx rfl (hb hby at_57) rfl  k) ?_
    refine own_by (B := T34.setTop (mkF m 61 #[.val (.int ua), .val (.int (11 : Int32)), .val (.ref a_UNSUBACK), .val (.int (1 : Int32))] [])) (fun _ k => XS.icmpNo X34.here hx rfl (hb hby at_58) rfl (XT.ii_ne_f (by decide)) k) ?_
    refine own_by (B := T34.setTop (mkF m 62 #[.val (.int ua), .val (.int (11 : Int32)), .val (.ref a_UNSUBACK), .val (.int (1 : Int32))] [(.int (1 : Int32))])) (fun _ k => XS.iconst X34.here hx rfl (hb hby at_61) k) ?_
    refine own_by (B := T34.setTop (mkF m 66 #[.val (.int ua), .val (.int (11 : Int32)), .val (.ref a_UNSUBACK), .val (.int (1 : Int32))] [(.int (1 : Int32))])) (fun _ k => XS.goto X34.here hx rfl (pc0 := 62) (pc' := 66) rfl (hb hby at_62) (by decide) (by decide) k) ?_
    exact own_retZ X34 hx hrt hlk rfl (hb hby at_66) (by decide) (by decide) ⟨rfl, M34⟩
  · refine own_by (B := s₁.setTop (mkF m 5 #[.val (.int ua), .val (.int (12 : Int32)), .unset, .unset] [])) (fun _ k => XS.istoreN X0.here hx rfl (hb hby at_4) rfl (l' := #[.val (.int ua), .val (.int (12 : Int32)), .unset, .unset]) rfl k) ?_
    refine own_by (B := s₁.setTop (mkF m 6 #[.val (.int ua), .val (.int (12 : Int32)), .unset, .unset] [(.int (12 : Int32))])) (fun _ k => XS.iloadN X0.here hx rfl (hb hby at_5) rfl  k) ?_
    obtain ⟨_, _, ⟨T35, L35, k35, n35⟩, -, X35, ⟨Lc35, hQ35, l35, y35, z35⟩, st35⟩ := Jvm.LawKit.callS X0 hx (y := (⟨"com/example/mqtt_packet_codec/mqttpacketcodec/PacketType", "fromCode", "(I)Lcom/example/mqtt_packet_codec/mqttpacketcodec/PacketType;"⟩ : MethodName)) hown (mvT hZ (hw _ (List.mem_of_getElem? (i := 0) rfl))) (mvT hZ (hw _ (List.mem_of_getElem? (i := 1) rfl))) (mvT hZ (hw _ (List.mem_of_getElem? (i := 2) rfl))) (mvT hZ (hw _ (List.mem_of_getElem? (i := 3) rfl))) (by decide) (backOf (W := 0) (rm1 l Z a0 hw [] a_PUBLISH a_CONNACK a_SUBACK a_UNSUBACK a_PINGRESP a_DISCONNECT a_AUTH a_UNSUBSCRIBE a_PUBCOMP a_SUBSCRIBE a_CONNECT a_PUBACK a_PINGREQ a_PUBREL a_PUBREC a_BY_CODE k_BY_CODE (12 : Int32) h0 n0 Z0 HW) hZ (hw _ (List.mem_of_getElem? (i := 3) rfl)) (hw _ (List.mem_of_getElem? (i := 2) rfl)) (by decide) (by decide)) (g := (mkF m 6 #[.val (.int ua), .val (.int (12 : Int32)), .unset, .unset] [(.int (12 : Int32))])) rfl (by rw [hml]; rfl) (argsL := [(.int (12 : Int32))]) (rest := []) (lenOf pd_0__I_Lcom_example_mqtt_packet_codec_mqttpacketcodec_PacketType_ rfl) rfl (by show 2 * 0 + _ ≤ _; exact Nat.le_of_eq rfl) (hb hby at_6) (fun _ _ => ⟨rfl, e0, (by decide : 0 + 0 ≤ _), (by decide : 0 + 0 ≤ _)⟩)
    dsimp only [Pt.U, Pt.locs, Pt.cells, Pt.slots] at X35 l35 y35 z35 st35 hQ35
    subst l35 y35 z35
    obtain ⟨rfl, N35, e35⟩ := hQ35
    refine own_by (B := T35.setTop (mkF m 9 #[.val (.int ua), .val (.int (12 : Int32)), .unset, .unset] [(own_f1 (12 : Int32) a_CONNECT a_CONNACK a_PUBLISH a_PUBACK a_PUBREC a_PUBREL a_PUBCOMP a_SUBSCRIBE a_SUBACK a_UNSUBSCRIBE a_UNSUBACK a_PINGREQ a_PINGRESP a_DISCONNECT a_AUTH)])) st35 ?_
    have M35 := Fr.app N0 N35
    rw [show (own_f1 (12 : Int32) a_CONNECT a_CONNACK a_PUBLISH a_PUBACK a_PUBREC a_PUBREL a_PUBCOMP a_SUBSCRIBE a_SUBACK a_UNSUBSCRIBE a_UNSUBACK a_PINGREQ a_PINGRESP a_DISCONNECT a_AUTH) = (.ref a_PINGREQ) from by unfold own_f1; rw [if_neg (by decide), if_pos (by decide)]; rfl]
    refine own_by (B := T35.setTop (mkF m 10 #[.val (.int ua), .val (.int (12 : Int32)), .val (.ref a_PINGREQ), .unset] [])) (fun _ k => XS.astoreN X35.here hx rfl (hb hby at_9) rfl rfl (l' := #[.val (.int ua), .val (.int (12 : Int32)), .val (.ref a_PINGREQ), .unset]) rfl k) ?_
    refine own_by (B := T35.setTop (mkF m 11 #[.val (.int ua), .val (.int (12 : Int32)), .val (.ref a_PINGREQ), .unset] [(.ref a_PINGREQ)])) (fun _ k => XS.aloadN X35.here hx rfl (hb hby at_10) rfl rfl  k) ?_
    refine own_by (B := T35.setTop (mkF m 16 #[.val (.int ua), .val (.int (12 : Int32)), .val (.ref a_PINGREQ), .unset] [])) (fun _ k => XT.ifnonnullYes X35.here hx rfl (pc0 := 11) (pc' := 16) rfl (hb hby at_11) rfl (by decide) (by decide) k) ?_
    refine own_by (B := T35.setTop (mkF m 17 #[.val (.int ua), .val (.int (12 : Int32)), .val (.ref a_PINGREQ), .unset] [(.int (12 : Int32))])) (fun _ k => XS.iloadN X35.here hx rfl (hb hby at_16) rfl  k) ?_
    refine own_by (B := T35.setTop (mkF m 18 #[.val (.int ua), .val (.int (12 : Int32)), .val (.ref a_PINGREQ), .unset] [(.int (2 : Int32)), (.int (12 : Int32))])) (fun _ k => XS.iconst X35.here hx rfl (hb hby at_17) k) ?_
    refine own_by (B := T35.setTop (mkF m 21 #[.val (.int ua), .val (.int (12 : Int32)), .val (.ref a_PINGREQ), .unset] [])) (fun _ k => XS.icmpNo X35.here hx rfl (hb hby at_18) rfl (XT.ii_eq_f (by decide)) k) ?_
    refine own_by (B := T35.setTop (mkF m 22 #[.val (.int ua), .val (.int (12 : Int32)), .val (.ref a_PINGREQ), .unset] [(.int (12 : Int32))])) (fun _ k => XS.iloadN X35.here hx rfl (hb hby at_21) rfl  k) ?_
    refine own_by (B := T35.setTop (mkF m 24 #[.val (.int ua), .val (.int (12 : Int32)), .val (.ref a_PINGREQ), .unset] [(.int (9 : Int32)), (.int (12 : Int32))])) (fun _ k => XS.bipush X35.here hx rfl (hb hby at_22) k) ?_
    refine own_by (B := T35.setTop (mkF m 27 #[.val (.int ua), .val (.int (12 : Int32)), .val (.ref a_PINGREQ), .unset] [])) (fun _ k => XS.icmpNo X35.here hx rfl (hb hby at_24) rfl (XT.ii_eq_f (by decide)) k) ?_
    refine own_by (B := T35.setTop (mkF m 28 #[.val (.int ua), .val (.int (12 : Int32)), .val (.ref a_PINGREQ), .unset] [(.int (12 : Int32))])) (fun _ k => XS.iloadN X35.here hx rfl (hb hby at_27) rfl  k) ?_
    refine own_by (B := T35.setTop (mkF m 30 #[.val (.int ua), .val (.int (12 : Int32)), .val (.ref a_PINGREQ), .unset] [(.int (11 : Int32)), (.int (12 : Int32))])) (fun _ k => XS.bipush X35.here hx rfl (hb hby at_28) k) ?_
    refine own_by (B := T35.setTop (mkF m 33 #[.val (.int ua), .val (.int (12 : Int32)), .val (.ref a_PINGREQ), .unset] [])) (fun _ k => XS.icmpNo X35.here hx rfl (hb hby at_30) rfl (XT.ii_eq_f (by decide)) k) ?_
    refine own_by (B := T35.setTop (mkF m 34 #[.val (.int ua), .val (.int (12 : Int32)), .val (.ref a_PINGREQ), .unset] [(.int (12 : Int32))])) (fun _ k => XS.iloadN X35.here hx rfl (hb hby at_33) rfl  k) ?_
    refine own_by (B := T35.setTop (mkF m 36 #[.val (.int ua), .val (.int (12 : Int32)), .val (.ref a_PINGREQ), .unset] [(.int (13 : Int32)), (.int (12 : Int32))])) (fun _ k => XS.bipush X35.here hx rfl (hb hby at_34) k) ?_
    refine own_by (B := T35.setTop (mkF m 43 #[.val (.int ua), .val (.int (12 : Int32)), .val (.ref a_PINGREQ), .unset] [])) (fun _ k => XS.icmpYes X35.here hx rfl (pc0 := 36) (pc' := 43) rfl (hb hby at_36) rfl (XT.ii_ne_t (by decide)) (by decide) (by decide) k) ?_
    refine own_by (B := T35.setTop (mkF m 44 #[.val (.int ua), .val (.int (12 : Int32)), .val (.ref a_PINGREQ), .unset] [(.int (0 : Int32))])) (fun _ k => XS.iconst X35.here hx rfl (hb hby at_43) k) ?_
    refine own_by (B := T35.setTop (mkF m 45 #[.val (.int ua), .val (.int (12 : Int32)), .val (.ref a_PINGREQ), .val (.int (0 : Int32))] [])) (fun _ k => XS.istoreN X35.here hx rfl (hb hby at_44) rfl (l' := #[.val (.int ua), .val (.int (12 : Int32)), .val (.ref a_PINGREQ), .val (.int (0 : Int32))]) rfl k) ?_
    refine own_by (B := T35.setTop (mkF m 46 #[.val (.int ua), .val (.int (12 : Int32)), .val (.ref a_PINGREQ), .val (.int (0 : Int32))] [(.ref a_PINGREQ)])) (fun _ k => XS.aloadN X35.here hx rfl (hb hby at_45) rfl rfl  k) ?_
    obtain ⟨cq36, kq36, qa36, qb36, qc36⟩ := isOf hZ e35 E_PINGREQ
    obtain ⟨_, _, ⟨T36, L36, k36, n36⟩, -, X36, ⟨Lc36, hQ36, l36, y36, z36⟩, st36⟩ := X35.virtualBack hx (y := (⟨"com/example/mqtt_packet_codec/mqttpacketcodec/PacketType", "code", "()I"⟩ : MethodName)) (z := (⟨"com/example/mqtt_packet_codec/mqttpacketcodec/PacketType", "code", "()I"⟩ : MethodName)) hown (mvT hZ (hw _ (List.mem_of_getElem? (i := 7) rfl))) (mvT hZ (hw _ (List.mem_of_getElem? (i := 8) rfl))) (notFace_of_selects (args := #[]) (mvT hZ (hw _ (List.mem_of_getElem? (i := 10) rfl)))) (mvT hZ (hw _ (List.mem_of_getElem? (i := 10) rfl))) (mvT hZ (hw _ (List.mem_of_getElem? (i := 9) rfl))) (by decide) (backOf (W := 0) (rm2 l Z a0 hw [] a_PINGREQ (12 : Int32) h0 n0 Z0 F_PINGREQ_code) hZ (hw _ (List.mem_of_getElem? (i := 11) rfl)) (hw _ (List.mem_of_getElem? (i := 2) rfl)) (by decide) (by decide)) qa36 qc36 (g := (mkF m 46 #[.val (.int ua), .val (.int (12 : Int32)), .val (.ref a_PINGREQ), .val (.int (0 : Int32))] [(.ref a_PINGREQ)])) rfl (by rw [hml]; rfl) (Steps.refl _) (argsL := []) (rest := []) (lenOf pd_0___I rfl) rfl (by show 2 * 0 + _ ≤ _; exact Nat.le_of_eq rfl) (hb hby at_46) (fun _ _ => ⟨rfl, e35, (by decide : 0 + 0 ≤ _), (by decide : 0 + 0 ≤ _)⟩)
    dsimp only [Pt.U, Pt.locs, Pt.cells, Pt.slots] at X36 l36 y36 z36 st36 hQ36
    subst l36 y36 z36
    obtain ⟨rfl, N36, e36⟩ := hQ36
    refine own_by (B := T36.setTop (mkF m 49 #[.val (.int ua), .val (.int (12 : Int32)), .val (.ref a_PINGREQ), .val (.int (0 : Int32))] [(.int (own_code (12 : Int32)))])) (fun _ k => st36.trans k) ?_
    have M36 := Fr.app M35 N36
    rw [show (own_code (12 : Int32)) = (12 : Int32) from rfl]
    refine own_by (B := T36.setTop (mkF m 50 #[.val (.int ua), .val (.int (12 : Int32)), .val (.ref a_PINGREQ), .val (.int (0 : Int32))] [(.int (12 : Int32)), (.int (12 : Int32))])) (fun _ k => XS.iloadN X36.here hx rfl (hb hby at_49) rfl  k) ?_
    refine own_by (B := T36.setTop (mkF m 53 #[.val (.int ua), .val (.int (12 : Int32)), .val (.ref a_PINGREQ), .val (.int (0 : Int32))] [])) (fun _ k => XS.icmpNo X36.here hx rfl (hb hby at_50) rfl (XT.ii_ne_f (by decide)) k) ?_
    refine own_by (B := T36.setTop (mkF m 54 #[.val (.int ua), .val (.int (12 : Int32)), .val (.ref a_PINGREQ), .val (.int (0 : Int32))] [(.ref a_PINGREQ)])) (fun _ k => XS.aloadN X36.here hx rfl (hb hby at_53) rfl rfl  k) ?_
    obtain ⟨cq37, kq37, qa37, qb37, qc37⟩ := isOf hZ e36 E_PINGREQ
    obtain ⟨_, _, ⟨T37, L37, k37, n37⟩, -, X37, ⟨Lc37, hQ37, l37, y37, z37⟩, st37⟩ := X36.virtualBack hx (y := (⟨"com/example/mqtt_packet_codec/mqttpacketcodec/PacketType", "sentByServerOnly", "()Z"⟩ : MethodName)) (z := (⟨"com/example/mqtt_packet_codec/mqttpacketcodec/PacketType", "sentByServerOnly", "()Z"⟩ : MethodName)) hown (mvT hZ (hw _ (List.mem_of_getElem? (i := 14) rfl))) (mvT hZ (hw _ (List.mem_of_getElem? (i := 15) rfl))) (notFace_of_selects (args := #[]) (mvT hZ (hw _ (List.mem_of_getElem? (i := 17) rfl)))) (mvT hZ (hw _ (List.mem_of_getElem? (i := 17) rfl))) (mvT hZ (hw _ (List.mem_of_getElem? (i := 16) rfl))) (by decide) (backOf (W := 0) (rm3 l Z a0 hw [] a_PUBLISH a_CONNACK a_SUBACK a_UNSUBACK a_PINGRESP a_DISCONNECT a_AUTH a_UNSUBSCRIBE a_PUBCOMP a_SUBSCRIBE a_CONNECT a_PUBACK a_PINGREQ a_PUBREL a_PUBREC a_BY_CODE k_BY_CODE a_PINGREQ h0 n0 Z0 HW) hZ (hw _ (List.mem_of_getElem? (i := 18) rfl)) (hw _ (List.mem_of_getElem? (i := 2) rfl)) (by decide) (by decide)) qa37 qc37 (g := (mkF m 54 #[.val (.int ua), .val (.int (12 : Int32)), .val (.ref a_PINGREQ), .val (.int (0 : Int32))] [(.ref a_PINGREQ)])) rfl (by rw [hml]; rfl) (Steps.refl _) (argsL := []) (rest := []) (lenOf pd_0___Z rfl) rfl (by show 2 * 0 + _ ≤ _; exact Nat.le_of_eq rfl) (hb hby at_54) (fun _ _ => ⟨rfl, e36, (by decide : 0 + 0 ≤ _), (by decide : 0 + 0 ≤ _)⟩)
    dsimp only [Pt.U, Pt.locs, Pt.cells, Pt.slots] at X37 l37 y37 z37 st37 hQ37
    subst l37 y37 z37
    obtain ⟨rfl, N37, e37⟩ := hQ37
    refine own_by (B := T37.setTop (mkF m 57 #[.val (.int ua), .val (.int (12 : Int32)), .val (.ref a_PINGREQ), .val (.int (0 : Int32))] [(.int (own_sent a_PINGREQ a_CONNACK a_SUBACK a_UNSUBACK a_PINGRESP))])) (fun _ k => st37.trans k) ?_
    have M37 := Fr.app M36 N37
    rw [show (own_sent a_PINGREQ a_CONNACK a_SUBACK a_UNSUBACK a_PINGRESP) = (0 : Int32) from by unfold own_sent; rw [if_neg (Fld.ne F_PINGREQ_ordinal F_CONNACK_ordinal (by decide)), if_neg (Fld.ne F_PINGREQ_ordinal F_SUBACK_ordinal (by decide)), if_neg (Fld.ne F_PINGREQ_ordinal F_UNSUBACK_ordinal (by decide)), if_neg (Fld.ne F_PINGREQ_ordinal F_PINGRESP_ordinal (by decide))]]
    refine own_by (B := T37.setTop (mkF m 58 #[.val (.int ua), .val (.int (12 : Int32)), .val (.ref a_PINGREQ), .val (.int (0 : Int32))] [(.int (0 : Int32)), (.int (0 : Int32))])) (fun _ k => XS.iloadN X37.here hx rfl (hb hby at_57) rfl  k) ?_
    refine own_by (B := T37.setTop (mkF m 61 #[.val (.int ua), .val (.int (12 : Int32)), .val (.ref a_PINGREQ), .val (.int (0 : Int32))] [])) (fun _ k => XS.icmpNo X37.here hx rfl (hb hby at_58) rfl (XT.ii_ne_f (by decide)) k) ?_
    refine own_by (B := T37.setTop (mkF m 62 #[.val (.int ua), .val (.int (12 : Int32)), .val (.ref a_PINGREQ), .val (.int (0 : Int32))] [(.int (1 : Int32))])) (fun _ k => XS.iconst X37.here hx rfl (hb hby at_61) k) ?_
    refine own_by (B := T37.setTop (mkF m 66 #[.val (.int ua), .val (.int (12 : Int32)), .val (.ref a_PINGREQ), .val (.int (0 : Int32))] [(.int (1 : Int32))])) (fun _ k => XS.goto X37.here hx rfl (pc0 := 62) (pc' := 66) rfl (hb hby at_62) (by decide) (by decide) k) ?_
    exact own_retZ X37 hx hrt hlk rfl (hb hby at_66) (by decide) (by decide) ⟨rfl, M37⟩
  · refine own_by (B := s₁.setTop (mkF m 5 #[.val (.int ua), .val (.int (13 : Int32)), .unset, .unset] [])) (fun _ k => XS.istoreN X0.here hx rfl (hb hby at_4) rfl (l' := #[.val (.int ua), .val (.int (13 : Int32)), .unset, .unset]) rfl k) ?_
    refine own_by (B := s₁.setTop (mkF m 6 #[.val (.int ua), .val (.int (13 : Int32)), .unset, .unset] [(.int (13 : Int32))])) (fun _ k => XS.iloadN X0.here hx rfl (hb hby at_5) rfl  k) ?_
    obtain ⟨_, _, ⟨T38, L38, k38, n38⟩, -, X38, ⟨Lc38, hQ38, l38, y38, z38⟩, st38⟩ := Jvm.LawKit.callS X0 hx (y := (⟨"com/example/mqtt_packet_codec/mqttpacketcodec/PacketType", "fromCode", "(I)Lcom/example/mqtt_packet_codec/mqttpacketcodec/PacketType;"⟩ : MethodName)) hown (mvT hZ (hw _ (List.mem_of_getElem? (i := 0) rfl))) (mvT hZ (hw _ (List.mem_of_getElem? (i := 1) rfl))) (mvT hZ (hw _ (List.mem_of_getElem? (i := 2) rfl))) (mvT hZ (hw _ (List.mem_of_getElem? (i := 3) rfl))) (by decide) (backOf (W := 0) (rm1 l Z a0 hw [] a_PUBLISH a_CONNACK a_SUBACK a_UNSUBACK a_PINGRESP a_DISCONNECT a_AUTH a_UNSUBSCRIBE a_PUBCOMP a_SUBSCRIBE a_CONNECT a_PUBACK a_PINGREQ a_PUBREL a_PUBREC a_BY_CODE k_BY_CODE (13 : Int32) h0 n0 Z0 HW) hZ (hw _ (List.mem_of_getElem? (i := 3) rfl)) (hw _ (List.mem_of_getElem? (i := 2) rfl)) (by decide) (by decide)) (g := (mkF m 6 #[.val (.int ua), .val (.int (13 : Int32)), .unset, .unset] [(.int (13 : Int32))])) rfl (by rw [hml]; rfl) (argsL := [(.int (13 : Int32))]) (rest := []) (lenOf pd_0__I_Lcom_example_mqtt_packet_codec_mqttpacketcodec_PacketType_ rfl) rfl (by show 2 * 0 + _ ≤ _; exact Nat.le_of_eq rfl) (hb hby at_6) (fun _ _ => ⟨rfl, e0, (by decide : 0 + 0 ≤ _), (by decide : 0 + 0 ≤ _)⟩)
    dsimp only [Pt.U, Pt.locs, Pt.cells, Pt.slots] at X38 l38 y38 z38 st38 hQ38
    subst l38 y38 z38
    obtain ⟨rfl, N38, e38⟩ := hQ38
    refine own_by (B := T38.setTop (mkF m 9 #[.val (.int ua), .val (.int (13 : Int32)), .unset, .unset] [(own_f1 (13 : Int32) a_CONNECT a_CONNACK a_PUBLISH a_PUBACK a_PUBREC a_PUBREL a_PUBCOMP a_SUBSCRIBE a_SUBACK a_UNSUBSCRIBE a_UNSUBACK a_PINGREQ a_PINGRESP a_DISCONNECT a_AUTH)])) st38 ?_
    have M38 := Fr.app N0 N38
    rw [show (own_f1 (13 : Int32) a_CONNECT a_CONNACK a_PUBLISH a_PUBACK a_PUBREC a_PUBREL a_PUBCOMP a_SUBSCRIBE a_SUBACK a_UNSUBSCRIBE a_UNSUBACK a_PINGREQ a_PINGRESP a_DISCONNECT a_AUTH) = (.ref a_PINGRESP) from by unfold own_f1; rw [if_neg (by decide), if_pos (by decide)]; rfl]
    refine own_by (B := T38.setTop (mkF m 10 #[.val (.int ua), .val (.int (13 : Int32)), .val (.ref a_PINGRESP), .unset] [])) (fun _ k => XS.astoreN X38.here hx rfl (hb hby at_9) rfl rfl (l' := #[.val (.int ua), .val (.int (13 : Int32)), .val (.ref a_PINGRESP), .unset]) rfl k) ?_
    refine own_by (B := T38.setTop (mkF m 11 #[.val (.int ua), .val (.int (13 : Int32)), .val (.ref a_PINGRESP), .unset] [(.ref a_PINGRESP)])) (fun _ k => XS.aloadN X38.here hx rfl (hb hby at_10) rfl rfl  k) ?_
    refine own_by (B := T38.setTop (mkF m 16 #[.val (.int ua), .val (.int (13 : Int32)), .val (.ref a_PINGRESP), .unset] [])) (fun _ k => XT.ifnonnullYes X38.here hx rfl (pc0 := 11) (pc' := 16) rfl (hb hby at_11) rfl (by decide) (by decide) k) ?_
    refine own_by (B := T38.setTop (mkF m 17 #[.val (.int ua), .val (.int (13 : Int32)), .val (.ref a_PINGRESP), .unset] [(.int (13 : Int32))])) (fun _ k => XS.iloadN X38.here hx rfl (hb hby at_16) rfl  k) ?_
    refine own_by (B := T38.setTop (mkF m 18 #[.val (.int ua), .val (.int (13 : Int32)), .val (.ref a_PINGRESP), .unset] [(.int (2 : Int32)), (.int (13 : Int32))])) (fun _ k => XS.iconst X38.here hx rfl (hb hby at_17) k) ?_
    refine own_by (B := T38.setTop (mkF m 21 #[.val (.int ua), .val (.int (13 : Int32)), .val (.ref a_PINGRESP), .unset] [])) (fun _ k => XS.icmpNo X38.here hx rfl (hb hby at_18) rfl (XT.ii_eq_f (by decide)) k) ?_
    refine own_by (B := T38.setTop (mkF m 22 #[.val (.int ua), .val (.int (13 : Int32)), .val (.ref a_PINGRESP), .unset] [(.int (13 : Int32))])) (fun _ k => XS.iloadN X38.here hx rfl (hb hby at_21) rfl  k) ?_
    refine own_by (B := T38.setTop (mkF m 24 #[.val (.int ua), .val (.int (13 : Int32)), .val (.ref a_PINGRESP), .unset] [(.int (9 : Int32)), (.int (13 : Int32))])) (fun _ k => XS.bipush X38.here hx rfl (hb hby at_22) k) ?_
    refine own_by (B := T38.setTop (mkF m 27 #[.val (.int ua), .val (.int (13 : Int32)), .val (.ref a_PINGRESP), .unset] [])) (fun _ k => XS.icmpNo X38.here hx rfl (hb hby at_24) rfl (XT.ii_eq_f (by decide)) k) ?_
    refine own_by (B := T38.setTop (mkF m 28 #[.val (.int ua), .val (.int (13 : Int32)), .val (.ref a_PINGRESP), .unset] [(.int (13 : Int32))])) (fun _ k => XS.iloadN X38.here hx rfl (hb hby at_27) rfl  k) ?_
    refine own_by (B := T38.setTop (mkF m 30 #[.val (.int ua), .val (.int (13 : Int32)), .val (.ref a_PINGRESP), .unset] [(.int (11 : Int32)), (.int (13 : Int32))])) (fun _ k => XS.bipush X38.here hx rfl (hb hby at_28) k) ?_
    refine own_by (B := T38.setTop (mkF m 33 #[.val (.int ua), .val (.int (13 : Int32)), .val (.ref a_PINGRESP), .unset] [])) (fun _ k => XS.icmpNo X38.here hx rfl (hb hby at_30) rfl (XT.ii_eq_f (by decide)) k) ?_
    refine own_by (B := T38.setTop (mkF m 34 #[.val (.int ua), .val (.int (13 : Int32)), .val (.ref a_PINGRESP), .unset] [(.int (13 : Int32))])) (fun _ k => XS.iloadN X38.here hx rfl (hb hby at_33) rfl  k) ?_
    refine own_by (B := T38.setTop (mkF m 36 #[.val (.int ua), .val (.int (13 : Int32)), .val (.ref a_PINGRESP), .unset] [(.int (13 : Int32)), (.int (13 : Int32))])) (fun _ k => XS.bipush X38.here hx rfl (hb hby at_34) k) ?_
    refine own_by (B := T38.setTop (mkF m 39 #[.val (.int ua), .val (.int (13 : Int32)), .val (.ref a_PINGRESP), .unset] [])) (fun _ k => XS.icmpNo X38.here hx rfl (hb hby at_36) rfl (XT.ii_ne_f (by decide)) k) ?_
    refine own_by (B := T38.setTop (mkF m 40 #[.val (.int ua), .val (.int (13 : Int32)), .val (.ref a_PINGRESP), .unset] [(.int (1 : Int32))])) (fun _ k => XS.iconst X38.here hx rfl (hb hby at_39) k) ?_
    refine own_by (B := T38.setTop (mkF m 44 #[.val (.int ua), .val (.int (13 : Int32)), .val (.ref a_PINGRESP), .unset] [(.int (1 : Int32))])) (fun _ k => XS.goto X38.here hx rfl (pc0 := 40) (pc' := 44) rfl (hb hby at_40) (by decide) (by decide) k) ?_
    refine own_by (B := T38.setTop (mkF m 45 #[.val (.int ua), .val (.int (13 : Int32)), .val (.ref a_PINGRESP), .val (.int (1 : Int32))] [])) (fun _ k => XS.istoreN X38.here hx rfl (hb hby at_44) rfl (l' := #[.val (.int ua), .val (.int (13 : Int32)), .val (.ref a_PINGRESP), .val (.int (1 : Int32))]) rfl k) ?_
    refine own_by (B := T38.setTop (mkF m 46 #[.val (.int ua), .val (.int (13 : Int32)), .val (.ref a_PINGRESP), .val (.int (1 : Int32))] [(.ref a_PINGRESP)])) (fun _ k => XS.aloadN X38.here hx rfl (hb hby at_45) rfl rfl  k) ?_
    obtain ⟨cq39, kq39, qa39, qb39, qc39⟩ := isOf hZ e38 E_PINGRESP
    obtain ⟨_, _, ⟨T39, L39, k39, n39⟩, -, X39, ⟨Lc39, hQ39, l39, y39, z39⟩, st39⟩ := X38.virtualBack hx (y := (⟨"com/example/mqtt_packet_codec/mqttpacketcodec/PacketType", "code", "()I"⟩ : MethodName)) (z := (⟨"com/example/mqtt_packet_codec/mqttpacketcodec/PacketType", "code", "()I"⟩ : MethodName)) hown (mvT hZ (hw _ (List.mem_of_getElem? (i := 7) rfl))) (mvT hZ (hw _ (List.mem_of_getElem? (i := 8) rfl))) (notFace_of_selects (args := #[]) (mvT hZ (hw _ (List.mem_of_getElem? (i := 10) rfl)))) (mvT hZ (hw _ (List.mem_of_getElem? (i := 10) rfl))) (mvT hZ (hw _ (List.mem_of_getElem? (i := 9) rfl))) (by decide) (backOf (W := 0) (rm2 l Z a0 hw [] a_PINGRESP (13 : Int32) h0 n0 Z0 F_PINGRESP_code) hZ (hw _ (List.mem_of_getElem? (i := 11) rfl)) (hw _ (List.mem_of_getElem? (i := 2) rfl)) (by decide) (by decide)) qa39 qc39 (g := (mkF m 46 #[.val (.int ua), .val (.int (13 : Int32)), .val (.ref a_PINGRESP), .val (.int (1 : Int32))] [(.ref a_PINGRESP)])) rfl (by rw [hml]; rfl) (Steps.refl _) (argsL := []) (rest := []) (lenOf pd_0___I rfl) rfl (by show 2 * 0 + _ ≤ _; exact Nat.le_of_eq rfl) (hb hby at_46) (fun _ _ => ⟨rfl, e38, (by decide : 0 + 0 ≤ _), (by decide : 0 + 0 ≤ _)⟩)
    dsimp only [Pt.U, Pt.locs, Pt.cells, Pt.slots] at X39 l39 y39 z39 st39 hQ39
    subst l39 y39 z39
    obtain ⟨rfl, N39, e39⟩ := hQ39
    refine own_by (B := T39.setTop (mkF m 49 #[.val (.int ua), .val (.int (13 : Int32)), .val (.ref a_PINGRESP), .val (.int (1 : Int32))] [(.int (own_code (13 : Int32)))])) (fun _ k => st39.trans k) ?_
    have M39 := Fr.app M38 N39
    rw [show (own_code (13 : Int32)) = (13 : Int32) from rfl]
    refine own_by (B := T39.setTop (mkF m 50 #[.val (.int ua), .val (.int (13 : Int32)), .val (.ref a_PINGRESP), .val (.int (1 : Int32))] [(.int (13 : Int32)), (.int (13 : Int32))])) (fun _ k => XS.iloadN X39.here hx rfl (hb hby at_49) rfl  k) ?_
    refine own_by (B := T39.setTop (mkF m 53 #[.val (.int ua), .val (.int (13 : Int32)), .val (.ref a_PINGRESP), .val (.int (1 : Int32))] [])) (fun _ k => XS.icmpNo X39.here hx rfl (hb hby at_50) rfl (XT.ii_ne_f (by decide)) k) ?_
    refine own_by (B := T39.setTop (mkF m 54 #[.val (.int ua), .val (.int (13 : Int32)), .val (.ref a_PINGRESP), .val (.int (1 : Int32))] [(.ref a_PINGRESP)])) (fun _ k => XS.aloadN X39.here hx rfl (hb hby at_53) rfl rfl  k) ?_
    obtain ⟨cq40, kq40, qa40, qb40, qc40⟩ := isOf hZ e39 E_PINGRESP
    obtain ⟨_, _, ⟨T40, L40, k40, n40⟩, -, X40, ⟨Lc40, hQ40, l40, y40, z40⟩, st40⟩ := X39.virtualBack hx (y := (⟨"com/example/mqtt_packet_codec/mqttpacketcodec/PacketType", "sentByServerOnly", "()Z"⟩ : MethodName)) (z := (⟨"com/example/mqtt_packet_codec/mqttpacketcodec/PacketType", "sentByServerOnly", "()Z"⟩ : MethodName)) hown (mvT hZ (hw _ (List.mem_of_getElem? (i := 14) rfl))) (mvT hZ (hw _ (List.mem_of_getElem? (i := 15) rfl))) (notFace_of_selects (args := #[]) (mvT hZ (hw _ (List.mem_of_getElem? (i := 17) rfl)))) (mvT hZ (hw _ (List.mem_of_getElem? (i := 17) rfl))) (mvT hZ (hw _ (List.mem_of_getElem? (i := 16) rfl))) (by decide) (backOf (W := 0) (rm3 l Z a0 hw [] a_PUBLISH a_CONNACK a_SUBACK a_UNSUBACK a_PINGRESP a_DISCONNECT a_AUTH a_UNSUBSCRIBE a_PUBCOMP a_SUBSCRIBE a_CONNECT a_PUBACK a_PINGREQ a_PUBREL a_PUBREC a_BY_CODE k_BY_CODE a_PINGRESP h0 n0 Z0 HW) hZ (hw _ (List.mem_of_getElem? (i := 18) rfl)) (hw _ (List.mem_of_getElem? (i := 2) rfl)) (by decide) (by decide)) qa40 qc40 (g := (mkF m 54 #[.val (.int ua), .val (.int (13 : Int32)), .val (.ref a_PINGRESP), .val (.int (1 : Int32))] [(.ref a_PINGRESP)])) rfl (by rw [hml]; rfl) (Steps.refl _) (argsL := []) (rest := []) (lenOf pd_0___Z rfl) rfl (by show 2 * 0 + _ ≤ _; exact Nat.le_of_eq rfl) (hb hby at_54) (fun _ _ => ⟨rfl, e39, (by decide : 0 + 0 ≤ _), (by decide : 0 + 0 ≤ _)⟩)
    dsimp only [Pt.U, Pt.locs, Pt.cells, Pt.slots] at X40 l40 y40 z40 st40 hQ40
    subst l40 y40 z40
    obtain ⟨rfl, N40, e40⟩ := hQ40
    refine own_by (B := T40.setTop (mkF m 57 #[.val (.int ua), .val (.int (13 : Int32)), .val (.ref a_PINGRESP), .val (.int (1 : Int32))] [(.int (own_sent a_PINGRESP a_CONNACK a_SUBACK a_UNSUBACK a_PINGRESP))])) (fun _ k => st40.trans k) ?_
    have M40 := Fr.app M39 N40
    rw [show (own_sent a_PINGRESP a_CONNACK a_SUBACK a_UNSUBACK a_PINGRESP) = (1 : Int32) from by unfold own_sent; rw [if_neg (Fld.ne F_PINGRESP_ordinal F_CONNACK_ordinal (by decide)), if_neg (Fld.ne F_PINGRESP_ordinal F_SUBACK_ordinal (by decide)), if_neg (Fld.ne F_PINGRESP_ordinal F_UNSUBACK_ordinal (by decide)), if_pos rfl]]
    refine own_by (B := T40.setTop (mkF m 58 #[.val (.int ua), .val (.int (13 : Int32)), .val (.ref a_PINGRESP), .val (.int (1 : Int32))] [(.int (1 : Int32)), (.int (1 : Int32))])) (fun _ k => XS.iloadN X40.here hx rfl (hb hby at_57) rfl  k) ?_
    refine own_by (B := T40.setTop (mkF m 61 #[.val (.int ua), .val (.int (13 : Int32)), .val (.ref a_PINGRESP), .val (.int (1 : Int32))] [])) (fun _ k => XS.icmpNo X40.here hx rfl (hb hby at_58) rfl (XT.ii_ne_f (by decide)) k) ?_
    refine own_by (B := T40.setTop (mkF m 62 #[.val (.int ua), .val (.int (13 : Int32)), .val (.ref a_PINGRESP), .val (.int (1 : Int32))] [(.int (1 : Int32))])) (fun _ k => XS.iconst X40.here hx rfl (hb hby at_61) k) ?_
    refine own_by (B := T40.setTop (mkF m 66 #[.val (.int ua), .val (.int (13 : Int32)), .val (.ref a_PINGRESP), .val (.int (1 : Int32))] [(.int (1 : Int32))])) (fun _ k => XS.goto X40.here hx rfl (pc0 := 62) (pc' := 66) rfl (hb hby at_62) (by decide) (by decide) k) ?_
    exact own_retZ X40 hx hrt hlk rfl (hb hby at_66) (by decide) (by decide) ⟨rfl, M40⟩
  · refine own_by (B := s₁.setTop (mkF m 5 #[.val (.int ua), .val (.int (14 : Int32)), .unset, .unset] [])) (fun _ k => XS.istoreN X0.here hx rfl (hb hby at_4) rfl (l' := #[.val (.int ua), .val (.int (14 : Int32)), .unset, .unset]) rfl k) ?_
    refine own_by (B := s₁.setTop (mkF m 6 #[.val (.int ua), .val (.int (14 : Int32)), .unset, .unset] [(.int (14 : Int32))])) (fun _ k => XS.iloadN X0.here hx rfl (hb hby at_5) rfl  k) ?_
    obtain ⟨_, _, ⟨T41, L41, k41, n41⟩, -, X41, ⟨Lc41, hQ41, l41, y41, z41⟩, st41⟩ := Jvm.LawKit.callS X0 hx (y := (⟨"com/example/mqtt_packet_codec/mqttpacketcodec/PacketType", "fromCode", "(I)Lcom/example/mqtt_packet_codec/mqttpacketcodec/PacketType;"⟩ : MethodName)) hown (mvT hZ (hw _ (List.mem_of_getElem? (i := 0) rfl))) (mvT hZ (hw _ (List.mem_of_getElem? (i := 1) rfl))) (mvT hZ (hw _ (List.mem_of_getElem? (i := 2) rfl))) (mvT hZ (hw _ (List.mem_of_getElem? (i := 3) rfl))) (by decide) (backOf (W := 0) (rm1 l Z a0 hw [] a_PUBLISH a_CONNACK a_SUBACK a_UNSUBACK a_PINGRESP a_DISCONNECT a_AUTH a_UNSUBSCRIBE a_PUBCOMP a_SUBSCRIBE a_CONNECT a_PUBACK a_PINGREQ a_PUBREL a_PUBREC a_BY_CODE k_BY_CODE (14 : Int32) h0 n0 Z0 HW) hZ (hw _ (List.mem_of_getElem? (i := 3) rfl)) (hw _ (List.mem_of_getElem? (i := 2) rfl)) (by decide) (by decide)) (g := (mkF m 6 #[.val (.int ua), .val (.int (14 : Int32)), .unset, .unset] [(.int (14 : Int32))])) rfl (by rw [hml]; rfl) (argsL := [(.int (14 : Int32))]) (rest := []) (lenOf pd_0__I_Lcom_example_mqtt_packet_codec_mqttpacketcodec_PacketType_ rfl) rfl (by show 2 * 0 + _ ≤ _; exact Nat.le_of_eq rfl) (hb hby at_6) (fun _ _ => ⟨rfl, e0, (by decide : 0 + 0 ≤ _), (by decide : 0 + 0 ≤ _)⟩)
    dsimp only [Pt.U, Pt.locs, Pt.cells, Pt.slots] at X41 l41 y41 z41 st41 hQ41
    subst l41 y41 z41
    obtain ⟨rfl, N41, e41⟩ := hQ41
    refine own_by (B := T41.setTop (mkF m 9 #[.val (.int ua), .val (.int (14 : Int32)), .unset, .unset] [(own_f1 (14 : Int32) a_CONNECT a_CONNACK a_PUBLISH a_PUBACK a_PUBREC a_PUBREL a_PUBCOMP a_SUBSCRIBE a_SUBACK a_UNSUBSCRIBE a_UNSUBACK a_PINGREQ a_PINGRESP a_DISCONNECT a_AUTH)])) st41 ?_
    have M41 := Fr.app N0 N41
    rw [show (own_f1 (14 : Int32) a_CONNECT a_CONNACK a_PUBLISH a_PUBACK a_PUBREC a_PUBREL a_PUBCOMP a_SUBSCRIBE a_SUBACK a_UNSUBSCRIBE a_UNSUBACK a_PINGREQ a_PINGRESP a_DISCONNECT a_AUTH) = (.ref a_DISCONNECT) from by unfold own_f1; rw [if_neg (by decide), if_pos (by decide)]; rfl]
    refine own_by (B := T41.setTop (mkF m 10 #[.val (.int ua), .val (.int (14 : Int32)), .val (.ref a_DISCONNECT), .unset] [])) (fun _ k => XS.astoreN X41.here hx rfl (hb hby at_9) rfl rfl (l' := #[.val (.int ua), .val (.int (14 : Int32)), .val (.ref a_DISCONNECT), .unset]) rfl k) ?_
    refine own_by (B := T41.setTop (mkF m 11 #[.val (.int ua), .val (.int (14 : Int32)), .val (.ref a_DISCONNECT), .unset] [(.ref a_DISCONNECT)])) (fun _ k => XS.aloadN X41.here hx rfl (hb hby at_10) rfl rfl  k) ?_
    refine own_by (B := T41.setTop (mkF m 16 #[.val (.int ua), .val (.int (14 : Int32)), .val (.ref a_DISCONNECT), .unset] [])) (fun _ k => XT.ifnonnullYes X41.here hx rfl (pc0 := 11) (pc' := 16) rfl (hb hby at_11) rfl (by decide) (by decide) k) ?_
    refine own_by (B := T41.setTop (mkF m 17 #[.val (.int ua), .val (.int (14 : Int32)), .val (.ref a_DISCONNECT), .unset] [(.int (14 : Int32))])) (fun _ k => XS.iloadN X41.here hx rfl (hb hby at_16) rfl  k) ?_
    refine own_by (B := T41.setTop (mkF m 18 #[.val (.int ua), .val (.int (14 : Int32)), .val (.ref a_DISCONNECT), .unset] [(.int (2 : Int32)), (.int (14 : Int32))])) (fun _ k => XS.iconst X41.here hx rfl (hb hby at_17) k) ?_
    refine own_by (B := T41.setTop (mkF m 21 #[.val (.int ua), .val (.int (14 : Int32)), .val (.ref a_DISCONNECT), .unset] [])) (fun _ k => XS.icmpNo X41.here hx rfl (hb hby at_18) rfl (XT.ii_eq_f (by decide)) k) ?_
    refine own_by (B := T41.setTop (mkF m 22 #[.val (.int ua), .val (.int (14 : Int32)), .val (.ref a_DISCONNECT), .unset] [(.int (14 : Int32))])) (fun _ k => XS.iloadN X41.here hx rfl (hb hby at_21) rfl  k) ?_
    refine own_by (B := T41.setTop (mkF m 24 #[.val (.int ua), .val (.int (14 : Int32)), .val (.ref a_DISCONNECT), .unset] [(.int (9 : Int32)), (.int (14 : Int32))])) (fun _ k => XS.bipush X41.here hx rfl (hb hby at_22) k) ?_
    refine own_by (B := T41.setTop (mkF m 27 #[.val (.int ua), .val (.int (14 : Int32)), .val (.ref a_DISCONNECT), .unset] [])) (fun _ k => XS.icmpNo X41.here hx rfl (hb hby at_24) rfl (XT.ii_eq_f (by decide)) k) ?_
    refine own_by (B := T41.setTop (mkF m 28 #[.val (.int ua), .val (.int (14 : Int32)), .val (.ref a_DISCONNECT), .unset] [(.int (14 : Int32))])) (fun _ k => XS.iloadN X41.here hx rfl (hb hby at_27) rfl  k) ?_
    refine own_by (B := T41.setTop (mkF m 30 #[.val (.int ua), .val (.int (14 : Int32)), .val (.ref a_DISCONNECT), .unset] [(.int (11 : Int32)), (.int (14 : Int32))])) (fun _ k => XS.bipush X41.here hx rfl (hb hby at_28) k) ?_
    refine own_by (B := T41.setTop (mkF m 33 #[.val (.int ua), .val (.int (14 : Int32)), .val (.ref a_DISCONNECT), .unset] [])) (fun _ k => XS.icmpNo X41.here hx rfl (hb hby at_30) rfl (XT.ii_eq_f (by decide)) k) ?_
    refine own_by (B := T41.setTop (mkF m 34 #[.val (.int ua), .val (.int (14 : Int32)), .val (.ref a_DISCONNECT), .unset] [(.int (14 : Int32))])) (fun _ k => XS.iloadN X41.here hx rfl (hb hby at_33) rfl  k) ?_
    refine own_by (B := T41.setTop (mkF m 36 #[.val (.int ua), .val (.int (14 : Int32)), .val (.ref a_DISCONNECT), .unset] [(.int (13 : Int32)), (.int (14 : Int32))])) (fun _ k => XS.bipush X41.here hx rfl (hb hby at_34) k) ?_
    refine own_by (B := T41.setTop (mkF m 43 #[.val (.int ua), .val (.int (14 : Int32)), .val (.ref a_DISCONNECT), .unset] [])) (fun _ k => XS.icmpYes X41.here hx rfl (pc0 := 36) (pc' := 43) rfl (hb hby at_36) rfl (XT.ii_ne_t (by decide)) (by decide) (by decide) k) ?_
    refine own_by (B := T41.setTop (mkF m 44 #[.val (.int ua), .val (.int (14 : Int32)), .val (.ref a_DISCONNECT), .unset] [(.int (0 : Int32))])) (fun _ k => XS.iconst X41.here hx rfl (hb hby at_43) k) ?_
    refine own_by (B := T41.setTop (mkF m 45 #[.val (.int ua), .val (.int (14 : Int32)), .val (.ref a_DISCONNECT), .val (.int (0 : Int32))] [])) (fun _ k => XS.istoreN X41.here hx rfl (hb hby at_44) rfl (l' := #[.val (.int ua), .val (.int (14 : Int32)), .val (.ref a_DISCONNECT), .val (.int (0 : Int32))]) rfl k) ?_
    refine own_by (B := T41.setTop (mkF m 46 #[.val (.int ua), .val (.int (14 : Int32)), .val (.ref a_DISCONNECT), .val (.int (0 : Int32))] [(.ref a_DISCONNECT)])) (fun _ k => XS.aloadN X41.here hx rfl (hb hby at_45) rfl rfl  k) ?_
    obtain ⟨cq42, kq42, qa42, qb42, qc42⟩ := isOf hZ e41 E_DISCONNECT
    obtain ⟨_, _, ⟨T42, L42, k42, n42⟩, -, X42, ⟨Lc42, hQ42, l42, y42, z42⟩, st42⟩ := X41.virtualBack hx (y := (⟨"com/example/mqtt_packet_codec/mqttpacketcodec/PacketType", "code", "()I"⟩ : MethodName)) (z := (⟨"com/example/mqtt_packet_codec/mqttpacketcodec/PacketType", "code", "()I"⟩ : MethodName)) hown (mvT hZ (hw _ (List.mem_of_getElem? (i := 7) rfl))) (mvT hZ (hw _ (List.mem_of_getElem? (i := 8) rfl))) (notFace_of_selects (args := #[]) (mvT hZ (hw _ (List.mem_of_getElem? (i := 10) rfl)))) (mvT hZ (hw _ (List.mem_of_getElem? (i := 10) rfl))) (mvT hZ (hw _ (List.mem_of_getElem? (i := 9) rfl))) (by decide) (backOf (W := 0) (rm2 l Z a0 hw [] a_DISCONNECT (14 : Int32) h0 n0 Z0 F_DISCONNECT_code) hZ (hw _ (List.mem_of_getElem? (i := 11) rfl)) (hw _ (List.mem_of_getElem? (i := 2) rfl)) (by decide) (by decide)) qa42 qc42 (g := (mkF m 46 #[.val (.int ua), .val (.int (14 : Int32)), .val (.ref a_DISCONNECT), .val (.int (0 : Int32))] [(.ref a_DISCONNECT)])) rfl (by rw [hml]; rfl) (Steps.refl _) (argsL := []) (rest := []) (lenOf pd_0___I rfl) rfl (by show 2 * 0 + _ ≤ _; exact Nat.le_of_eq rfl) (hb hby at_46) (fun _ _ => ⟨rfl, e41, (by decide : 0 + 0 ≤ _), (by decide : 0 + 0 ≤ _)⟩)
    dsimp only [Pt.U, Pt.locs, Pt.cells, Pt.slots] at X42 l42 y42 z42 st42 hQ42
    subst l42 y42 z42
    obtain ⟨rfl, N42, e42⟩ := hQ42
    refine own_by (B := T42.setTop (mkF m 49 #[.val (.int ua), .val (.int (14 : Int32)), .val (.ref a_DISCONNECT), .val (.int (0 : Int32))] [(.int (own_code (14 : Int32)))])) (fun _ k => st42.trans k) ?_
    have M42 := Fr.app M41 N42
    rw [show (own_code (14 : Int32)) = (14 : Int32) from rfl]
    refine own_by (B := T42.setTop (mkF m 50 #[.val (.int ua), .val (.int (14 : Int32)), .val (.ref a_DISCONNECT), .val (.int (0 : Int32))] [(.int (14 : Int32)), (.int (14 : Int32))])) (fun _ k => XS.iloadN X42.here hx rfl (hb hby at_49) rfl  k) ?_
    refine own_by (B := T42.setTop (mkF m 53 #[.val (.int ua), .val (.int (14 : Int32)), .val (.ref a_DISCONNECT), .val (.int (0 : Int32))] [])) (fun _ k => XS.icmpNo X42.here hx rfl (hb hby at_50) rfl (XT.ii_ne_f (by decide)) k) ?_
    refine own_by (B := T42.setTop (mkF m 54 #[.val (.int ua), .val (.int (14 : Int32)), .val (.ref a_DISCONNECT), .val (.int (0 : Int32))] [(.ref a_DISCONNECT)])) (fun _ k => XS.aloadN X42.here hx rfl (hb hby at_53) rfl rfl  k) ?_
    obtain ⟨cq43, kq43, qa43, qb43, qc43⟩ := isOf hZ e42 E_DISCONNECT
    obtain ⟨_, _, ⟨T43, L43, k43, n43⟩, -, X43, ⟨Lc43, hQ43, l43, y43, z43⟩, st43⟩ := X42.virtualBack hx (y := (⟨"com/example/mqtt_packet_codec/mqttpacketcodec/PacketType", "sentByServerOnly", "()Z"⟩ : MethodName)) (z := (⟨"com/example/mqtt_packet_codec/mqttpacketcodec/PacketType", "sentByServerOnly", "()Z"⟩ : MethodName)) hown (mvT hZ (hw _ (List.mem_of_getElem? (i := 14) rfl))) (mvT hZ (hw _ (List.mem_of_getElem? (i := 15) rfl))) (notFace_of_selects (args := #[]) (mvT hZ (hw _ (List.mem_of_getElem? (i := 17) rfl)))) (mvT hZ (hw _ (List.mem_of_getElem? (i := 17) rfl))) (mvT hZ (hw _ (List.mem_of_getElem? (i := 16) rfl))) (by decide) (backOf (W := 0) (rm3 l Z a0 hw [] a_PUBLISH a_CONNACK a_SUBACK a_UNSUBACK a_PINGRESP a_DISCONNECT a_AUTH a_UNSUBSCRIBE a_PUBCOMP a_SUBSCRIBE a_CONNECT a_PUBACK a_PINGREQ a_PUBREL a_PUBREC a_BY_CODE k_BY_CODE a_DISCONNECT h0 n0 Z0 HW) hZ (hw _ (List.mem_of_getElem? (i := 18) rfl)) (hw _ (List.mem_of_getElem? (i := 2) rfl)) (by decide) (by decide)) qa43 qc43 (g := (mkF m 54 #[.val (.int ua), .val (.int (14 : Int32)), .val (.ref a_DISCONNECT), .val (.int (0 : Int32))] [(.ref a_DISCONNECT)])) rfl (by rw [hml]; rfl) (Steps.refl _) (argsL := []) (rest := []) (lenOf pd_0___Z rfl) rfl (by show 2 * 0 + _ ≤ _; exact Nat.le_of_eq rfl) (hb hby at_54) (fun _ _ => ⟨rfl, e42, (by decide : 0 + 0 ≤ _), (by decide : 0 + 0 ≤ _)⟩)
    dsimp only [Pt.U, Pt.locs, Pt.cells, Pt.slots] at X43 l43 y43 z43 st43 hQ43
    subst l43 y43 z43
    obtain ⟨rfl, N43, e43⟩ := hQ43
    refine own_by (B := T43.setTop (mkF m 57 #[.val (.int ua), .val (.int (14 : Int32)), .val (.ref a_DISCONNECT), .val (.int (0 : Int32))] [(.int (own_sent a_DISCONNECT a_CONNACK a_SUBACK a_UNSUBACK a_PINGRESP))])) (fun _ k => st43.trans k) ?_
    have M43 := Fr.app M42 N43
    rw [show (own_sent a_DISCONNECT a_CONNACK a_SUBACK a_UNSUBACK a_PINGRESP) = (0 : Int32) from by unfold own_sent; rw [if_neg (Fld.ne F_DISCONNECT_ordinal F_CONNACK_ordinal (by decide)), if_neg (Fld.ne F_DISCONNECT_ordinal F_SUBACK_ordinal (by decide)), if_neg (Fld.ne F_DISCONNECT_ordinal F_UNSUBACK_ordinal (by decide)), if_neg (Fld.ne F_DISCONNECT_ordinal F_PINGRESP_ordinal (by decide))]]
    refine own_by (B := T43.setTop (mkF m 58 #[.val (.int ua), .val (.int (14 : Int32)), .val (.ref a_DISCONNECT), .val (.int (0 : Int32))] [(.int (0 : Int32)), (.int (0 : Int32))])) (fun _ k => XS.iloadN X43.here hx rfl (hb hby at_57) rfl  k) ?_
    refine own_by (B := T43.setTop (mkF m 61 #[.val (.int ua), .val (.int (14 : Int32)), .val (.ref a_DISCONNECT), .val (.int (0 : Int32))] [])) (fun _ k => XS.icmpNo X43.here hx rfl (hb hby at_58) rfl (XT.ii_ne_f (by decide)) k) ?_
    refine own_by (B := T43.setTop (mkF m 62 #[.val (.int ua), .val (.int (14 : Int32)), .val (.ref a_DISCONNECT), .val (.int (0 : Int32))] [(.int (1 : Int32))])) (fun _ k => XS.iconst X43.here hx rfl (hb hby at_61) k) ?_
    refine own_by (B := T43.setTop (mkF m 66 #[.val (.int ua), .val (.int (14 : Int32)), .val (.ref a_DISCONNECT), .val (.int (0 : Int32))] [(.int (1 : Int32))])) (fun _ k => XS.goto X43.here hx rfl (pc0 := 62) (pc' := 66) rfl (hb hby at_62) (by decide) (by decide) k) ?_
    exact own_retZ X43 hx hrt hlk rfl (hb hby at_66) (by decide) (by decide) ⟨rfl, M43⟩
  · refine own_by (B := s₁.setTop (mkF m 5 #[.val (.int ua), .val (.int (15 : Int32)), .unset, .unset] [])) (fun _ k => XS.istoreN X0.here hx rfl (hb hby at_4) rfl (l' := #[.val (.int ua), .val (.int (15 : Int32)), .unset, .unset]) rfl k) ?_
    refine own_by (B := s₁.setTop (mkF m 6 #[.val (.int ua), .val (.int (15 : Int32)), .unset, .unset] [(.int (15 : Int32))])) (fun _ k => XS.iloadN X0.here hx rfl (hb hby at_5) rfl  k) ?_
    obtain ⟨_, _, ⟨T44, L44, k44, n44⟩, -, X44, ⟨Lc44, hQ44, l44, y44, z44⟩, st44⟩ := Jvm.LawKit.callS X0 hx (y := (⟨"com/example/mqtt_packet_codec/mqttpacketcodec/PacketType", "fromCode", "(I)Lcom/example/mqtt_packet_codec/mqttpacketcodec/PacketType;"⟩ : MethodName)) hown (mvT hZ (hw _ (List.mem_of_getElem? (i := 0) rfl))) (mvT hZ (hw _ (List.mem_of_getElem? (i := 1) rfl))) (mvT hZ (hw _ (List.mem_of_getElem? (i := 2) rfl))) (mvT hZ (hw _ (List.mem_of_getElem? (i := 3) rfl))) (by decide) (backOf (W := 0) (rm1 l Z a0 hw [] a_PUBLISH a_CONNACK a_SUBACK a_UNSUBACK a_PINGRESP a_DISCONNECT a_AUTH a_UNSUBSCRIBE a_PUBCOMP a_SUBSCRIBE a_CONNECT a_PUBACK a_PINGREQ a_PUBREL a_PUBREC a_BY_CODE k_BY_CODE (15 : Int32) h0 n0 Z0 HW) hZ (hw _ (List.mem_of_getElem? (i := 3) rfl)) (hw _ (List.mem_of_getElem? (i := 2) rfl)) (by decide) (by decide)) (g := (mkF m 6 #[.val (.int ua), .val (.int (15 : Int32)), .unset, .unset] [(.int (15 : Int32))])) rfl (by rw [hml]; rfl) (argsL := [(.int (15 : Int32))]) (rest := []) (lenOf pd_0__I_Lcom_example_mqtt_packet_codec_mqttpacketcodec_PacketType_ rfl) rfl (by show 2 * 0 + _ ≤ _; exact Nat.le_of_eq rfl) (hb hby at_6) (fun _ _ => ⟨rfl, e0, (by decide : 0 + 0 ≤ _), (by decide : 0 + 0 ≤ _)⟩)
    dsimp only [Pt.U, Pt.locs, Pt.cells, Pt.slots] at X44 l44 y44 z44 st44 hQ44
    subst l44 y44 z44
    obtain ⟨rfl, N44, e44⟩ := hQ44
    refine own_by (B := T44.setTop (mkF m 9 #[.val (.int ua), .val (.int (15 : Int32)), .unset, .unset] [(own_f1 (15 : Int32) a_CONNECT a_CONNACK a_PUBLISH a_PUBACK a_PUBREC a_PUBREL a_PUBCOMP a_SUBSCRIBE a_SUBACK a_UNSUBSCRIBE a_UNSUBACK a_PINGREQ a_PINGRESP a_DISCONNECT a_AUTH)])) st44 ?_
    have M44 := Fr.app N0 N44
    rw [show (own_f1 (15 : Int32) a_CONNECT a_CONNACK a_PUBLISH a_PUBACK a_PUBREC a_PUBREL a_PUBCOMP a_SUBSCRIBE a_SUBACK a_UNSUBSCRIBE a_UNSUBACK a_PINGREQ a_PINGRESP a_DISCONNECT a_AUTH) = (.ref a_AUTH) from by unfold own_f1; rw [if_neg (by decide), if_pos (by decide)]; rfl]
    refine own_by (B := T44.setTop (mkF m 10 #[.val (.int ua), .val (.int (15 : Int32)), .val (.ref a_AUTH), .unset] [])) (fun _ k => XS.astoreN X44.here hx rfl (hb hby at_9) rfl rfl (l' := #[.val (.int ua), .val (.int (15 : Int32)), .val (.ref a_AUTH), .unset]) rfl k) ?_
    refine own_by (B := T44.setTop (mkF m 11 #[.val (.int ua), .val (.int (15 : Int32)), .val (.ref a_AUTH), .unset] [(.ref a_AUTH)])) (fun _ k => XS.aloadN X44.here hx rfl (hb hby at_10) rfl rfl  k) ?_
    refine own_by (B := T44.setTop (mkF m 16 #[.val (.int ua), .val (.int (15 : Int32)), .val (.ref a_AUTH), .unset] [])) (fun _ k => XT.ifnonnullYes X44.here hx rfl (pc0 := 11) (pc' := 16) rfl (hb hby at_11) rfl (by decide) (by decide) k) ?_
    refine own_by (B := T44.setTop (mkF m 17 #[.val (.int ua), .val (.int (15 : Int32)), .val (.ref a_AUTH), .unset] [(.int (15 : Int32))])) (fun _ k => XS.iloadN X44.here hx rfl (hb hby at_16) rfl  k) ?_
    refine own_by (B := T44.setTop (mkF m 18 #[.val (.int ua), .val (.int (15 : Int32)), .val (.ref a_AUTH), .unset] [(.int (2 : Int32)), (.int (15 : Int32))])) (fun _ k => XS.iconst X44.here hx rfl (hb hby at_17) k) ?_
    refine own_by (B := T44.setTop (mkF m 21 #[.val (.int ua), .val (.int (15 : Int32)), .val (.ref a_AUTH), .unset] [])) (fun _ k => XS.icmpNo X44.here hx rfl (hb hby at_18) rfl (XT.ii_eq_f (by decide)) k) ?_
    refine own_by (B := T44.setTop (mkF m 22 #[.val (.int ua), .val (.int (15 : Int32)), .val (.ref a_AUTH), .unset] [(.int (15 : Int32))])) (fun _ k => XS.iloadN X44.here hx rfl (hb hby at_21) rfl  k) ?_
    refine own_by (B := T44.setTop (mkF m 24 #[.val (.int ua), .val (.int (15 : Int32)), .val (.ref a_AUTH), .unset] [(.int (9 : Int32)), (.int (15 : Int32))])) (fun _ k => XS.bipush X44.here hx rfl (hb hby at_22) k) ?_
    refine own_by (B := T44.setTop (mkF m 27 #[.val (.int ua), .val (.int (15 : Int32)), .val (.ref a_AUTH), .unset] [])) (fun _ k => XS.icmpNo X44.here hx rfl (hb hby at_24) rfl (XT.ii_eq_f (by decide)) k) ?_
    refine own_by (B := T44.setTop (mkF m 28 #[.val (.int ua), .val (.int (15 : Int32)), .val (.ref a_AUTH), .unset] [(.int (15 : Int32))])) (fun _ k => XS.iloadN X44.here hx rfl (hb hby at_27) rfl  k) ?_
    refine own_by (B := T44.setTop (mkF m 30 #[.val (.int ua), .val (.int (15 : Int32)), .val (.ref a_AUTH), .unset] [(.int (11 : Int32)), (.int (15 : Int32))])) (fun _ k => XS.bipush X44.here hx rfl (hb hby at_28) k) ?_
    refine own_by (B := T44.setTop (mkF m 33 #[.val (.int ua), .val (.int (15 : Int32)), .val (.ref a_AUTH), .unset] [])) (fun _ k => XS.icmpNo X44.here hx rfl (hb hby at_30) rfl (XT.ii_eq_f (by decide)) k) ?_
    refine own_by (B := T44.setTop (mkF m 34 #[.val (.int ua), .val (.int (15 : Int32)), .val (.ref a_AUTH), .unset] [(.int (15 : Int32))])) (fun _ k => XS.iloadN X44.here hx rfl (hb hby at_33) rfl  k) ?_
    refine own_by (B := T44.setTop (mkF m 36 #[.val (.int ua), .val (.int (15 : Int32)), .val (.ref a_AUTH), .unset] [(.int (13 : Int32)), (.int (15 : Int32))])) (fun _ k => XS.bipush X44.here hx rfl (hb hby at_34) k) ?_
    refine own_by (B := T44.setTop (mkF m 43 #[.val (.int ua), .val (.int (15 : Int32)), .val (.ref a_AUTH), .unset] [])) (fun _ k => XS.icmpYes X44.here hx rfl (pc0 := 36) (pc' := 43) rfl (hb hby at_36) rfl (XT.ii_ne_t (by decide)) (by decide) (by decide) k) ?_
    refine own_by (B := T44.setTop (mkF m 44 #[.val (.int ua), .val (.int (15 : Int32)), .val (.ref a_AUTH), .unset] [(.int (0 : Int32))])) (fun _ k => XS.iconst X44.here hx rfl (hb hby at_43) k) ?_
    refine own_by (B := T44.setTop (mkF m 45 #[.val (.int ua), .val (.int (15 : Int32)), .val (.ref a_AUTH), .val (.int (0 : Int32))] [])) (fun _ k => XS.istoreN X44.here hx rfl (hb hby at_44) rfl (l' := #[.val (.int ua), .val (.int (15 : Int32)), .val (.ref a_AUTH), .val (.int (0 : Int32))]) rfl k) ?_
    refine own_by (B := T44.setTop (mkF m 46 #[.val (.int ua), .val (.int (15 : Int32)), .val (.ref a_AUTH), .val (.int (0 : Int32))] [(.ref a_AUTH)])) (fun _ k => XS.aloadN X44.here hx rfl (hb hby at_45) rfl rfl  k) ?_
    obtain ⟨cq45, kq45, qa45, qb45, qc45⟩ := isOf hZ e44 E_AUTH
    obtain ⟨_, _, ⟨T45, L45, k45, n45⟩, -, X45, ⟨Lc45, hQ45, l45, y45, z45⟩, st45⟩ := X44.virtualBack hx (y := (⟨"com/example/mqtt_packet_codec/mqttpacketcodec/PacketType", "code", "()I"⟩ : MethodName)) (z := (⟨"com/example/mqtt_packet_codec/mqttpacketcodec/PacketType", "code", "()I"⟩ : MethodName)) hown (mvT hZ (hw _ (List.mem_of_getElem? (i := 7) rfl))) (mvT hZ (hw _ (List.mem_of_getElem? (i := 8) rfl))) (notFace_of_selects (args := #[]) (mvT hZ (hw _ (List.mem_of_getElem? (i := 10) rfl)))) (mvT hZ (hw _ (List.mem_of_getElem? (i := 10) rfl))) (mvT hZ (hw _ (List.mem_of_getElem? (i := 9) rfl))) (by decide) (backOf (W := 0) (rm2 l Z a0 hw [] a_AUTH (15 : Int32) h0 n0 Z0 F_AUTH_code) hZ (hw _ (List.mem_of_getElem? (i := 11) rfl)) (hw _ (List.mem_of_getElem? (i := 2) rfl)) (by decide) (by decide)) qa45 qc45 (g := (mkF m 46 #[.val (.int ua), .val (.int (15 : Int32)), .val (.ref a_AUTH), .val (.int (0 : Int32))] [(.ref a_AUTH)])) rfl (by rw [hml]; rfl) (Steps.refl _) (argsL := []) (rest := []) (lenOf pd_0___I rfl) rfl (by show 2 * 0 + _ ≤ _; exact Nat.le_of_eq rfl) (hb hby at_46) (fun _ _ => ⟨rfl, e44, (by decide : 0 + 0 ≤ _), (by decide : 0 + 0 ≤ _)⟩)
    dsimp only [Pt.U, Pt.locs, Pt.cells, Pt.slots] at X45 l45 y45 z45 st45 hQ45
    subst l45 y45 z45
    obtain ⟨rfl, N45, e45⟩ := hQ45
    refine own_by (B := T45.setTop (mkF m 49 #[.val (.int ua), .val (.int (15 : Int32)), .val (.ref a_AUTH), .val (.int (0 : Int32))] [(.int (own_code (15 : Int32)))])) (fun _ k => st45.trans k) ?_
    have M45 := Fr.app M44 N45
    rw [show (own_code (15 : Int32)) = (15 : Int32) from rfl]
    refine own_by (B := T45.setTop (mkF m 50 #[.val (.int ua), .val (.int (15 : Int32)), .val (.ref a_AUTH), .val (.int (0 : Int32))] [(.int (15 : Int32)), (.int (15 : Int32))])) (fun _ k => XS.iloadN X45.here hx rfl (hb hby at_49) rfl  k) ?_
    refine own_by (B := T45.setTop (mkF m 53 #[.val (.int ua), .val (.int (15 : Int32)), .val (.ref a_AUTH), .val (.int (0 : Int32))] [])) (fun _ k => XS.icmpNo X45.here hx rfl (hb hby at_50) rfl (XT.ii_ne_f (by decide)) k) ?_
    refine own_by (B := T45.setTop (mkF m 54 #[.val (.int ua), .val (.int (15 : Int32)), .val (.ref a_AUTH), .val (.int (0 : Int32))] [(.ref a_AUTH)])) (fun _ k => XS.aloadN X45.here hx rfl (hb hby at_53) rfl rfl  k) ?_
    obtain ⟨cq46, kq46, qa46, qb46, qc46⟩ := isOf hZ e45 E_AUTH
    obtain ⟨_, _, ⟨T46, L46, k46, n46⟩, -, X46, ⟨Lc46, hQ46, l46, y46, z46⟩, st46⟩ := X45.virtualBack hx (y := (⟨"com/example/mqtt_packet_codec/mqttpacketcodec/PacketType", "sentByServerOnly", "()Z"⟩ : MethodName)) (z := (⟨"com/example/mqtt_packet_codec/mqttpacketcodec/PacketType", "sentByServerOnly", "()Z"⟩ : MethodName)) hown (mvT hZ (hw _ (List.mem_of_getElem? (i := 14) rfl))) (mvT hZ (hw _ (List.mem_of_getElem? (i := 15) rfl))) (notFace_of_selects (args := #[]) (mvT hZ (hw _ (List.mem_of_getElem? (i := 17) rfl)))) (mvT hZ (hw _ (List.mem_of_getElem? (i := 17) rfl))) (mvT hZ (hw _ (List.mem_of_getElem? (i := 16) rfl))) (by decide) (backOf (W := 0) (rm3 l Z a0 hw [] a_PUBLISH a_CONNACK a_SUBACK a_UNSUBACK a_PINGRESP a_DISCONNECT a_AUTH a_UNSUBSCRIBE a_PUBCOMP a_SUBSCRIBE a_CONNECT a_PUBACK a_PINGREQ a_PUBREL a_PUBREC a_BY_CODE k_BY_CODE a_AUTH h0 n0 Z0 HW) hZ (hw _ (List.mem_of_getElem? (i := 18) rfl)) (hw _ (List.mem_of_getElem? (i := 2) rfl)) (by decide) (by decide)) qa46 qc46 (g := (mkF m 54 #[.val (.int ua), .val (.int (15 : Int32)), .val (.ref a_AUTH), .val (.int (0 : Int32))] [(.ref a_AUTH)])) rfl (by rw [hml]; rfl) (Steps.refl _) (argsL := []) (rest := []) (lenOf pd_0___Z rfl) rfl (by show 2 * 0 + _ ≤ _; exact Nat.le_of_eq rfl) (hb hby at_54) (fun _ _ => ⟨rfl, e45, (by decide : 0 + 0 ≤ _), (by decide : 0 + 0 ≤ _)⟩)
    dsimp only [Pt.U, Pt.locs, Pt.cells, Pt.slots] at X46 l46 y46 z46 st46 hQ46
    subst l46 y46 z46
    obtain ⟨rfl, N46, e46⟩ := hQ46
    refine own_by (B := T46.setTop (mkF m 57 #[.val (.int ua), .val (.int (15 : Int32)), .val (.ref a_AUTH), .val (.int (0 : Int32))] [(.int (own_sent a_AUTH a_CONNACK a_SUBACK a_UNSUBACK a_PINGRESP))])) (fun _ k => st46.trans k) ?_
    have M46 := Fr.app M45 N46
    rw [show (own_sent a_AUTH a_CONNACK a_SUBACK a_UNSUBACK a_PINGRESP) = (0 : Int32) from by unfold own_sent; rw [if_neg (Fld.ne F_AUTH_ordinal F_CONNACK_ordinal (by decide)), if_neg (Fld.ne F_AUTH_ordinal F_SUBACK_ordinal (by decide)), if_neg (Fld.ne F_AUTH_ordinal F_UNSUBACK_ordinal (by decide)), if_neg (Fld.ne F_AUTH_ordinal F_PINGRESP_ordinal (by decide))]]
    refine own_by (B := T46.setTop (mkF m 58 #[.val (.int ua), .val (.int (15 : Int32)), .val (.ref a_AUTH), .val (.int (0 : Int32))] [(.int (0 : Int32)), (.int (0 : Int32))])) (fun _ k => XS.iloadN X46.here hx rfl (hb hby at_57) rfl  k) ?_
    refine own_by (B := T46.setTop (mkF m 61 #[.val (.int ua), .val (.int (15 : Int32)), .val (.ref a_AUTH), .val (.int (0 : Int32))] [])) (fun _ k => XS.icmpNo X46.here hx rfl (hb hby at_58) rfl (XT.ii_ne_f (by decide)) k) ?_
    refine own_by (B := T46.setTop (mkF m 62 #[.val (.int ua), .val (.int (15 : Int32)), .val (.ref a_AUTH), .val (.int (0 : Int32))] [(.int (1 : Int32))])) (fun _ k => XS.iconst X46.here hx rfl (hb hby at_61) k) ?_
    refine own_by (B := T46.setTop (mkF m 66 #[.val (.int ua), .val (.int (15 : Int32)), .val (.ref a_AUTH), .val (.int (0 : Int32))] [(.int (1 : Int32))])) (fun _ k => XS.goto X46.here hx rfl (pc0 := 62) (pc' := 66) rfl (hb hby at_62) (by decide) (by decide) k) ?_
    exact own_retZ X46 hx hrt hlk rfl (hb hby at_66) (by decide) (by decide) ⟨rfl, M46⟩

set_option maxRecDepth 65536 in
set_option maxHeartbeats 40000000 in
theorem comes_1 {Post : Tables → Env → Array Value → State → Outcome → State → Prop} (hpost : ∀ tb e args s v u, (limb_1_1.after args s (.returned v) u = true ∧ limb_1_2.after args s (.returned v) u = true ∧ True) → FrameEnd s (.returned v) u (Jvm.fieldLocs frame_1_writes args s ++ Jvm.arrayLocs frame_1_arrays args s ++ Jvm.staticLocs frame_1_statics s) 0 0 → Post tb e args s (.returned v) u) :
    ArmFor flags0 classFile x code maxLocals ret World_1 tables_1 room_1 Calls_1 rest_1 Pre_1 Post := by
  intro l hfl _ _ p e ha hc hk s m args below hf hA hF happ hP
  obtain ⟨hcalls, hrest, hpre⟩ := hP
  obtain ⟨-, -, -, hnamed, -, -, -, hat⟩ := (Spec.applies_iff hf).mp happ
  obtain ⟨hg, hn⟩ := and_e (Cond.before_iff.mp (show (Jvm.Cond.and given_1 narrow_1).before args s = true from hpre))
  obtain ⟨hg1a, hg1b⟩ := and_e hg
  obtain ⟨w0, rfl⟩ : ∃ w0 : Value, args = #[w0] := by
    have hs : args.size = 1 := by simpa [Cond.value, given_1] using hg1a
    obtain ⟨L⟩ := args
    match L, hs with
    | [w0], _ => exact ⟨w0, rfl⟩
  have hw := fun d (hd : d ∈ tables_1) => atoms_spec (ws := Jvm.Cond.code x code maxLocals ret :: tables_1) hat d (List.mem_cons_of_mem _ hd)
  have hfit : Fit s := fun {y c} hc i hi => by
    obtain ⟨ha, rfl⟩ := Array.getElem?_eq_some_iff.mp hc
    have q := List.all_eq_true.mp ((Array.all_eq_true_iff_forall_mem.mp hF) _ (Array.getElem_mem ha)) i (List.mem_range.mpr hi)
    simpa [Array.getElem?_eq_getElem hi] using q
  obtain ⟨i0, ei0⟩ := is_v hg1b
  obtain rfl : w0 = (.int i0) := Option.some.inj ei0
  obtain ⟨hn1a, hn1b⟩ := and_e hn
  obtain ⟨hn2a, hn2b⟩ := and_e hn1b
  obtain ⟨hn3a, hn3b⟩ := and_e hn2b
  obtain ⟨hn4a, hn4b⟩ := and_e hn3b
  obtain ⟨hn5a, hn5b⟩ := and_e hn4b
  obtain ⟨hn6a, hn6b⟩ := and_e hn5b
  obtain ⟨hn7a, hn7b⟩ := and_e hn6b
  obtain ⟨hn8a, hn8b⟩ := and_e hn7b
  obtain ⟨hn9a, hn9b⟩ := and_e hn8b
  obtain ⟨hn10a, hn10b⟩ := and_e hn9b
  obtain ⟨hn11a, hn11b⟩ := and_e hn10b
  obtain ⟨hn12a, hn12b⟩ := and_e hn11b
  obtain ⟨hn13a, hn13b⟩ := and_e hn12b
  obtain ⟨hn14a, hn14b⟩ := and_e hn13b
  obtain ⟨hn15a, hn15b⟩ := and_e hn14b
  obtain ⟨hn16a, hn16b⟩ := and_e hn15b
  obtain ⟨hn17a, hn17b⟩ := and_e hn16b
  obtain ⟨hn18a, hn18b⟩ := and_e hn17b
  obtain ⟨hn19a, hn19b⟩ := and_e hn18b
  obtain ⟨hn20a, hn20b⟩ := and_e hn19b
  obtain ⟨hn21a, hn21b⟩ := and_e hn20b
  obtain ⟨hn22a, hn22b⟩ := and_e hn21b
  obtain ⟨hn23a, hn23b⟩ := and_e hn22b
  obtain ⟨hn24a, hn24b⟩ := and_e hn23b
  obtain ⟨hn25a, hn25b⟩ := and_e hn24b
  obtain ⟨hn26a, hn26b⟩ := and_e hn25b
  obtain ⟨hn27a, hn27b⟩ := and_e hn26b
  obtain ⟨hn28a, hn28b⟩ := and_e hn27b
  obtain ⟨hn29a, hn29b⟩ := and_e hn28b
  obtain ⟨hn30a, hn30b⟩ := and_e hn29b
  obtain ⟨hn31a, hn31b⟩ := and_e hn30b
  obtain ⟨hn32a, hn32b⟩ := and_e hn31b
  obtain ⟨hn33a, hn33b⟩ := and_e hn32b
  obtain ⟨hn34a, hn34b⟩ := and_e hn33b
  obtain ⟨hn35a, hn35b⟩ := and_e hn34b
  obtain ⟨hn36a, hn36b⟩ := and_e hn35b
  obtain ⟨hn37a, hn37b⟩ := and_e hn36b
  obtain ⟨hn38a, hn38b⟩ := and_e hn37b
  obtain ⟨hn39a, hn39b⟩ := and_e hn38b
  obtain ⟨hn40a, hn40b⟩ := and_e hn39b
  obtain ⟨hn41a, hn41b⟩ := and_e hn40b
  obtain ⟨hn42a, hn42b⟩ := and_e hn41b
  obtain ⟨hn43a, hn43b⟩ := and_e hn42b
  obtain ⟨hn44a, hn44b⟩ := and_e hn43b
  obtain ⟨hn45a, hn45b⟩ := and_e hn44b
  obtain ⟨hn46a, hn46b⟩ := and_e hn45b
  obtain ⟨hn47a, hn47b⟩ := and_e hn46b
  obtain ⟨hn48a, hn48b⟩ := and_e hn47b
  obtain ⟨hn49a, hn49b⟩ := and_e hn48b
  obtain ⟨hn50a, hn50b⟩ := and_e hn49b
  obtain ⟨hn51a, hn51b⟩ := and_e hn50b
  obtain ⟨hn52a, hn52b⟩ := and_e hn51b
  obtain ⟨hn53a, hn53b⟩ := and_e hn52b
  obtain ⟨hn54a, hn54b⟩ := and_e hn53b
  obtain ⟨hn55a, hn55b⟩ := and_e hn54b
  obtain ⟨hn56a, hn56b⟩ := and_e hn55b
  obtain ⟨hn57a, hn57b⟩ := and_e hn56b
  obtain ⟨hn58a, hn58b⟩ := and_e hn57b
  obtain ⟨hn59a, hn59b⟩ := and_e hn58b
  obtain ⟨hn60a, hn60b⟩ := and_e hn59b
  obtain ⟨hn61a, hn61b⟩ := and_e hn60b
  obtain ⟨hn62a, hn62b⟩ := and_e hn61b
  obtain ⟨a_PUBLISH, ev_PUBLISH⟩ := exa_v hn4a
  have E_PUBLISH : Exa s s.heap a_PUBLISH "com/example/mqtt_packet_codec/mqttpacketcodec/PacketType" := Exa.start ev_PUBLISH hn4a
  have S_PUBLISH : Sta s s.heap "com/example/mqtt_packet_codec/mqttpacketcodec/PacketType" "PUBLISH" "Lcom/example/mqtt_packet_codec/mqttpacketcodec/PacketType;" (.ref a_PUBLISH) := Sta.start ev_PUBLISH (Or.inr ⟨(hw _ (List.mem_of_getElem? (i := 2) rfl)), (hw _ (List.mem_of_getElem? (i := 6) rfl))⟩)
  obtain ⟨a_CONNACK, ev_CONNACK⟩ := exa_v hn7a
  have E_CONNACK : Exa s s.heap a_CONNACK "com/example/mqtt_packet_codec/mqttpacketcodec/PacketType" := Exa.start ev_CONNACK hn7a
  have S_CONNACK : Sta s s.heap "com/example/mqtt_packet_codec/mqttpacketcodec/PacketType" "CONNACK" "Lcom/example/mqtt_packet_codec/mqttpacketcodec/PacketType;" (.ref a_CONNACK) := Sta.start ev_CONNACK (Or.inr ⟨(hw _ (List.mem_of_getElem? (i := 2) rfl)), (hw _ (List.mem_of_getElem? (i := 20) rfl))⟩)
  obtain ⟨a_SUBACK, ev_SUBACK⟩ := exa_v hn10a
  have E_SUBACK : Exa s s.heap a_SUBACK "com/example/mqtt_packet_codec/mqttpacketcodec/PacketType" := Exa.start ev_SUBACK hn10a
  have S_SUBACK : Sta s s.heap "com/example/mqtt_packet_codec/mqttpacketcodec/PacketType" "SUBACK" "Lcom/example/mqtt_packet_codec/mqttpacketcodec/PacketType;" (.ref a_SUBACK) := Sta.start ev_SUBACK (Or.inr ⟨(hw _ (List.mem_of_getElem? (i := 2) rfl)), (hw _ (List.mem_of_getElem? (i := 22) rfl))⟩)
  obtain ⟨a_UNSUBACK, ev_UNSUBACK⟩ := exa_v hn12a
  have E_UNSUBACK : Exa s s.heap a_UNSUBACK "com/example/mqtt_packet_codec/mqttpacketcodec/PacketType" := Exa.start ev_UNSUBACK hn12a
  have S_UNSUBACK : Sta s s.heap "com/example/mqtt_packet_codec/mqttpacketcodec/PacketType" "UNSUBACK" "Lcom/example/mqtt_packet_codec/mqttpacketcodec/PacketType;" (.ref a_UNSUBACK) := Sta.start ev_UNSUBACK (Or.inr ⟨(hw _ (List.mem_of_getElem? (i := 2) rfl)), (hw _ (List.mem_of_getElem? (i := 24) rfl))⟩)
  obtain ⟨a_PINGRESP, ev_PINGRESP⟩ := exa_v hn14a
  have E_PINGRESP : Exa s s.heap a_PINGRESP "com/example/mqtt_packet_codec/mqttpacketcodec/PacketType" := Exa.start ev_PINGRESP hn14a
  have S_PINGRESP : Sta s s.heap "com/example/mqtt_packet_codec/mqttpacketcodec/PacketType" "PINGRESP" "Lcom/example/mqtt_packet_codec/mqttpacketcodec/PacketType;" (.ref a_PINGRESP) := Sta.start ev_PINGRESP (Or.inr ⟨(hw _ (List.mem_of_getElem? (i := 2) rfl)), (hw _ (List.mem_of_getElem? (i := 26) rfl))⟩)
  obtain ⟨a_DISCONNECT, ev_DISCONNECT⟩ := exa_v hn16a
  have E_DISCONNECT : Exa s s.heap a_DISCONNECT "com/example/mqtt_packet_codec/mqttpacketcodec/PacketType" := Exa.start ev_DISCONNECT hn16a
  have S_DISCONNECT : Sta s s.heap "com/example/mqtt_packet_codec/mqttpacketcodec/PacketType" "DISCONNECT" "Lcom/example/mqtt_packet_codec/mqttpacketcodec/PacketType;" (.ref a_DISCONNECT) := Sta.start ev_DISCONNECT (Or.inr ⟨(hw _ (List.mem_of_getElem? (i := 2) rfl)), (hw _ (List.mem_of_getElem? (i := 27) rfl))⟩)
  obtain ⟨a_AUTH, ev_AUTH⟩ := exa_v hn20a
  have E_AUTH : Exa s s.heap a_AUTH "com/example/mqtt_packet_codec/mqttpacketcodec/PacketType" := Exa.start ev_AUTH hn20a
  have S_AUTH : Sta s s.heap "com/example/mqtt_packet_codec/mqttpacketcodec/PacketType" "AUTH" "Lcom/example/mqtt_packet_codec/mqttpacketcodec/PacketType;" (.ref a_AUTH) := Sta.start ev_AUTH (Or.inr ⟨(hw _ (List.mem_of_getElem? (i := 2) rfl)), (hw _ (List.mem_of_getElem? (i := 28) rfl))⟩)
  obtain ⟨a_UNSUBSCRIBE, ev_UNSUBSCRIBE⟩ := exa_v hn24a
  have E_UNSUBSCRIBE : Exa s s.heap a_UNSUBSCRIBE "com/example/mqtt_packet_codec/mqttpacketcodec/PacketType" := Exa.start ev_UNSUBSCRIBE hn24a
  have S_UNSUBSCRIBE : Sta s s.heap "com/example/mqtt_packet_codec/mqttpacketcodec/PacketType" "UNSUBSCRIBE" "Lcom/example/mqtt_packet_codec/mqttpacketcodec/PacketType;" (.ref a_UNSUBSCRIBE) := Sta.start ev_UNSUBSCRIBE (Or.inr ⟨(hw _ (List.mem_of_getElem? (i := 2) rfl)), (hw _ (List.mem_of_getElem? (i := 29) rfl))⟩)
  obtain ⟨a_PUBCOMP, ev_PUBCOMP⟩ := exa_v hn28a
  have E_PUBCOMP : Exa s s.heap a_PUBCOMP "com/example/mqtt_packet_codec/mqttpacketcodec/PacketType" := Exa.start ev_PUBCOMP hn28a
  have S_PUBCOMP : Sta s s.heap "com/example/mqtt_packet_codec/mqttpacketcodec/PacketType" "PUBCOMP" "Lcom/example/mqtt_packet_codec/mqttpacketcodec/PacketType;" (.ref a_PUBCOMP) := Sta.start ev_PUBCOMP (Or.inr ⟨(hw _ (List.mem_of_getElem? (i := 2) rfl)), (hw _ (List.mem_of_getElem? (i := 30) rfl))⟩)
  obtain ⟨a_SUBSCRIBE, ev_SUBSCRIBE⟩ := exa_v hn36a
  have E_SUBSCRIBE : Exa s s.heap a_SUBSCRIBE "com/example/mqtt_packet_codec/mqttpacketcodec/PacketType" := Exa.start ev_SUBSCRIBE hn36a
  have S_SUBSCRIBE : Sta s s.heap "com/example/mqtt_packet_codec/mqttpacketcodec/PacketType" "SUBSCRIBE" "Lcom/example/mqtt_packet_codec/mqttpacketcodec/PacketType;" (.ref a_SUBSCRIBE) := Sta.start ev_SUBSCRIBE (Or.inr ⟨(hw _ (List.mem_of_getElem? (i := 2) rfl)), (hw _ (List.mem_of_getElem? (i := 31) rfl))⟩)
  obtain ⟨a_CONNECT, ev_CONNECT⟩ := exa_v hn40a
  have E_CONNECT : Exa s s.heap a_CONNECT "com/example/mqtt_packet_codec/mqttpacketcodec/PacketType" := Exa.start ev_CONNECT hn40a
  have S_CONNECT : Sta s s.heap "com/example/mqtt_packet_codec/mqttpacketcodec/PacketType" "CONNECT" "Lcom/example/mqtt_packet_codec/mqttpacketcodec/PacketType;" (.ref a_CONNECT) := Sta.start ev_CONNECT (Or.inr ⟨(hw _ (List.mem_of_getElem? (i := 2) rfl)), (hw _ (List.mem_of_getElem? (i := 32) rfl))⟩)
  obtain ⟨a_PUBACK, ev_PUBACK⟩ := exa_v hn44a
  have E_PUBACK : Exa s s.heap a_PUBACK "com/example/mqtt_packet_codec/mqttpacketcodec/PacketType" := Exa.start ev_PUBACK hn44a
  have S_PUBACK : Sta s s.heap "com/example/mqtt_packet_codec/mqttpacketcodec/PacketType" "PUBACK" "Lcom/example/mqtt_packet_codec/mqttpacketcodec/PacketType;" (.ref a_PUBACK) := Sta.start ev_PUBACK (Or.inr ⟨(hw _ (List.mem_of_getElem? (i := 2) rfl)), (hw _ (List.mem_of_getElem? (i := 33) rfl))⟩)
  obtain ⟨a_PINGREQ, ev_PINGREQ⟩ := exa_v hn48a
  have E_PINGREQ : Exa s s.heap a_PINGREQ "com/example/mqtt_packet_codec/mqttpacketcodec/PacketType" := Exa.start ev_PINGREQ hn48a
  have S_PINGREQ : Sta s s.heap "com/example/mqtt_packet_codec/mqttpacketcodec/PacketType" "PINGREQ" "Lcom/example/mqtt_packet_codec/mqttpacketcodec/PacketType;" (.ref a_PINGREQ) := Sta.start ev_PINGREQ (Or.inr ⟨(hw _ (List.mem_of_getElem? (i := 2) rfl)), (hw _ (List.mem_of_getElem? (i := 34) rfl))⟩)
  obtain ⟨a_PUBREL, ev_PUBREL⟩ := exa_v hn54a
  have E_PUBREL : Exa s s.heap a_PUBREL "com/example/mqtt_packet_codec/mqttpacketcodec/PacketType" := Exa.start ev_PUBREL hn54a
  have S_PUBREL : Sta s s.heap "com/example/mqtt_packet_codec/mqttpacketcodec/PacketType" "PUBREL" "Lcom/example/mqtt_packet_codec/mqttpacketcodec/PacketType;" (.ref a_PUBREL) := Sta.start ev_PUBREL (Or.inr ⟨(hw _ (List.mem_of_getElem? (i := 2) rfl)), (hw _ (List.mem_of_getElem? (i := 35) rfl))⟩)
  obtain ⟨a_PUBREC, ev_PUBREC⟩ := exa_v hn60a
  have E_PUBREC : Exa s s.heap a_PUBREC "com/example/mqtt_packet_codec/mqttpacketcodec/PacketType" := Exa.start ev_PUBREC hn60a
  have S_PUBREC : Sta s s.heap "com/example/mqtt_packet_codec/mqttpacketcodec/PacketType" "PUBREC" "Lcom/example/mqtt_packet_codec/mqttpacketcodec/PacketType;" (.ref a_PUBREC) := Sta.start ev_PUBREC (Or.inr ⟨(hw _ (List.mem_of_getElem? (i := 2) rfl)), (hw _ (List.mem_of_getElem? (i := 36) rfl))⟩)
  have F_PUBLISH_code : Fld s s.heap a_PUBLISH "com/example/mqtt_packet_codec/mqttpacketcodec/PacketType" "code" "I" (.int (3 : Int32)) := Fld.start ((fld_at ev_PUBLISH).symm.trans (eqv_i (Term.int_eval _) hn6a))
  have F_PUBLISH_ordinal : Fld s s.heap a_PUBLISH "java/lang/Enum" "ordinal" "I" (.int (2 : Int32)) := Fld.start ((fld_at ev_PUBLISH).symm.trans (eqv_i (Term.int_eval _) hn8a))
  have F_CONNACK_ordinal : Fld s s.heap a_CONNACK "java/lang/Enum" "ordinal" "I" (.int (1 : Int32)) := Fld.start ((fld_at ev_CONNACK).symm.trans (eqv_i (Term.int_eval _) hn9a))
  have F_SUBACK_ordinal : Fld s s.heap a_SUBACK "java/lang/Enum" "ordinal" "I" (.int (8 : Int32)) := Fld.start ((fld_at ev_SUBACK).symm.trans (eqv_i (Term.int_eval _) hn11a))
  have F_UNSUBACK_ordinal : Fld s s.heap a_UNSUBACK "java/lang/Enum" "ordinal" "I" (.int (10 : Int32)) := Fld.start ((fld_at ev_UNSUBACK).symm.trans (eqv_i (Term.int_eval _) hn13a))
  have F_PINGRESP_ordinal : Fld s s.heap a_PINGRESP "java/lang/Enum" "ordinal" "I" (.int (12 : Int32)) := Fld.start ((fld_at ev_PINGRESP).symm.trans (eqv_i (Term.int_eval _) hn15a))
  have F_DISCONNECT_code : Fld s s.heap a_DISCONNECT "com/example/mqtt_packet_codec/mqttpacketcodec/PacketType" "code" "I" (.int (14 : Int32)) := Fld.start ((fld_at ev_DISCONNECT).symm.trans (eqv_i (Term.int_eval _) hn18a))
  have F_DISCONNECT_ordinal : Fld s s.heap a_DISCONNECT "java/lang/Enum" "ordinal" "I" (.int (13 : Int32)) := Fld.start ((fld_at ev_DISCONNECT).symm.trans (eqv_i (Term.int_eval _) hn19a))
  have F_AUTH_code : Fld s s.heap a_AUTH "com/example/mqtt_packet_codec/mqttpacketcodec/PacketType" "code" "I" (.int (15 : Int32)) := Fld.start ((fld_at ev_AUTH).symm.trans (eqv_i (Term.int_eval _) hn22a))
  have F_AUTH_ordinal : Fld s s.heap a_AUTH "java/lang/Enum" "ordinal" "I" (.int (14 : Int32)) := Fld.start ((fld_at ev_AUTH).symm.trans (eqv_i (Term.int_eval _) hn23a))
  have F_UNSUBSCRIBE_code : Fld s s.heap a_UNSUBSCRIBE "com/example/mqtt_packet_codec/mqttpacketcodec/PacketType" "code" "I" (.int (10 : Int32)) := Fld.start ((fld_at ev_UNSUBSCRIBE).symm.trans (eqv_i (Term.int_eval _) hn26a))
  have F_UNSUBSCRIBE_ordinal : Fld s s.heap a_UNSUBSCRIBE "java/lang/Enum" "ordinal" "I" (.int (9 : Int32)) := Fld.start ((fld_at ev_UNSUBSCRIBE).symm.trans (eqv_i (Term.int_eval _) hn27a))
  have F_PUBCOMP_code : Fld s s.heap a_PUBCOMP "com/example/mqtt_packet_codec/mqttpacketcodec/PacketType" "code" "I" (.int (7 : Int32)) := Fld.start ((fld_at ev_PUBCOMP).symm.trans (eqv_i (Term.int_eval _) hn30a))
  have F_PUBCOMP_ordinal : Fld s s.heap a_PUBCOMP "java/lang/Enum" "ordinal" "I" (.int (6 : Int32)) := Fld.start ((fld_at ev_PUBCOMP).symm.trans (eqv_i (Term.int_eval _) hn31a))
  have F_CONNACK_code : Fld s s.heap a_CONNACK "com/example/mqtt_packet_codec/mqttpacketcodec/PacketType" "code" "I" (.int (2 : Int32)) := Fld.start ((fld_at ev_CONNACK).symm.trans (eqv_i (Term.int_eval _) hn33a))
  have F_UNSUBACK_code : Fld s s.heap a_UNSUBACK "com/example/mqtt_packet_codec/mqttpacketcodec/PacketType" "code" "I" (.int (11 : Int32)) := Fld.start ((fld_at ev_UNSUBACK).symm.trans (eqv_i (Term.int_eval _) hn35a))
  have F_SUBSCRIBE_code : Fld s s.heap a_SUBSCRIBE "com/example/mqtt_packet_codec/mqttpacketcodec/PacketType" "code" "I" (.int (8 : Int32)) := Fld.start ((fld_at ev_SUBSCRIBE).symm.trans (eqv_i (Term.int_eval _) hn38a))
  have F_SUBSCRIBE_ordinal : Fld s s.heap a_SUBSCRIBE "java/lang/Enum" "ordinal" "I" (.int (7 : Int32)) := Fld.start ((fld_at ev_SUBSCRIBE).symm.trans (eqv_i (Term.int_eval _) hn39a))
  have F_CONNECT_code : Fld s s.heap a_CONNECT "com/example/mqtt_packet_codec/mqttpacketcodec/PacketType" "code" "I" (.int (1 : Int32)) := Fld.start ((fld_at ev_CONNECT).symm.trans (eqv_i (Term.int_eval _) hn42a))
  have F_CONNECT_ordinal : Fld s s.heap a_CONNECT "java/lang/Enum" "ordinal" "I" (.int (0 : Int32)) := Fld.start ((fld_at ev_CONNECT).symm.trans (eqv_i (Term.int_eval _) hn43a))
  have F_PUBACK_code : Fld s s.heap a_PUBACK "com/example/mqtt_packet_codec/mqttpacketcodec/PacketType" "code" "I" (.int (4 : Int32)) := Fld.start ((fld_at ev_PUBACK).symm.trans (eqv_i (Term.int_eval _) hn46a))
  have F_PUBACK_ordinal : Fld s s.heap a_PUBACK "java/lang/Enum" "ordinal" "I" (.int (3 : Int32)) := Fld.start ((fld_at ev_PUBACK).symm.trans (eqv_i (Term.int_eval _) hn47a))
  have F_PINGREQ_code : Fld s s.heap a_PINGREQ "com/example/mqtt_packet_codec/mqttpacketcodec/PacketType" "code" "I" (.int (12 : Int32)) := Fld.start ((fld_at ev_PINGREQ).symm.trans (eqv_i (Term.int_eval _) hn50a))
  have F_PINGREQ_ordinal : Fld s s.heap a_PINGREQ "java/lang/Enum" "ordinal" "I" (.int (11 : Int32)) := Fld.start ((fld_at ev_PINGREQ).symm.trans (eqv_i (Term.int_eval _) hn51a))
  have F_PINGRESP_code : Fld s s.heap a_PINGRESP "com/example/mqtt_packet_codec/mqttpacketcodec/PacketType" "code" "I" (.int (13 : Int32)) := Fld.start ((fld_at ev_PINGRESP).symm.trans (eqv_i (Term.int_eval _) hn53a))
  have F_PUBREL_code : Fld s s.heap a_PUBREL "com/example/mqtt_packet_codec/mqttpacketcodec/PacketType" "code" "I" (.int (6 : Int32)) := Fld.start ((fld_at ev_PUBREL).symm.trans (eqv_i (Term.int_eval _) hn56a))
  have F_PUBREL_ordinal : Fld s s.heap a_PUBREL "java/lang/Enum" "ordinal" "I" (.int (5 : Int32)) := Fld.start ((fld_at ev_PUBREL).symm.trans (eqv_i (Term.int_eval _) hn57a))
  have F_SUBACK_code : Fld s s.heap a_SUBACK "com/example/mqtt_packet_codec/mqttpacketcodec/PacketType" "code" "I" (.int (9 : Int32)) := Fld.start ((fld_at ev_SUBACK).symm.trans (eqv_i (Term.int_eval _) hn59a))
  have F_PUBREC_code : Fld s s.heap a_PUBREC "com/example/mqtt_packet_codec/mqttpacketcodec/PacketType" "code" "I" (.int (5 : Int32)) := Fld.start ((fld_at ev_PUBREC).symm.trans (eqv_i (Term.int_eval _) hn62a))
  have F_PUBREC_ordinal : Fld s s.heap a_PUBREC "java/lang/Enum" "ordinal" "I" (.int (4 : Int32)) := Fld.start ((fld_at ev_PUBREC).symm.trans (eqv_i (Term.int_eval _) hn62b))
  obtain ⟨a_BY_CODE, ev_BY_CODE⟩ := arr_v hn1a
  have S_BY_CODE : Sta s s.heap "com/example/mqtt_packet_codec/mqttpacketcodec/PacketType" "BY_CODE" "[Lcom/example/mqtt_packet_codec/mqttpacketcodec/PacketType;" (.ref a_BY_CODE) := Sta.start ev_BY_CODE (Or.inr ⟨(hw _ (List.mem_of_getElem? (i := 2) rfl)), (hw _ (List.mem_of_getElem? (i := 5) rfl))⟩)
  obtain ⟨cl_BY_CODE, A_BY_CODE⟩ := Arr.start ev_BY_CODE hn1a
  obtain ⟨lt_BY_CODE, sz_BY_CODE⟩ := own_len (eqv_i (Term.int_eval _) hn2a) ev_BY_CODE A_BY_CODE
  have V_BY_CODE : Arv s s.heap a_BY_CODE cl_BY_CODE.cls (Jvm.ClassFile.FieldType.object "com/example/mqtt_packet_codec/mqttpacketcodec/PacketType") (16 : Int32) [.null, (.ref a_CONNECT), (.ref a_CONNACK), (.ref a_PUBLISH), (.ref a_PUBACK), (.ref a_PUBREC), (.ref a_PUBREL), (.ref a_PUBCOMP), (.ref a_SUBSCRIBE), (.ref a_SUBACK), (.ref a_UNSUBSCRIBE), (.ref a_UNSUBACK), (.ref a_PINGREQ), (.ref a_PINGRESP), (.ref a_DISCONNECT), (.ref a_AUTH)] .null := Arv.start hfit A_BY_CODE lt_BY_CODE sz_BY_CODE (by decide) rfl ⟨(elem_in (null_v hn3a) ev_BY_CODE (Term.int_eval _) A_BY_CODE.1).2, (elem_in (own_eqvR ev_CONNECT hn41a) ev_BY_CODE (Term.int_eval _) A_BY_CODE.1).2, (elem_in (own_eqvR ev_CONNACK hn32a) ev_BY_CODE (Term.int_eval _) A_BY_CODE.1).2, (elem_in (own_eqvR ev_PUBLISH hn5a) ev_BY_CODE (Term.int_eval _) A_BY_CODE.1).2, (elem_in (own_eqvR ev_PUBACK hn45a) ev_BY_CODE (Term.int_eval _) A_BY_CODE.1).2, (elem_in (own_eqvR ev_PUBREC hn61a) ev_BY_CODE (Term.int_eval _) A_BY_CODE.1).2, (elem_in (own_eqvR ev_PUBREL hn55a) ev_BY_CODE (Term.int_eval _) A_BY_CODE.1).2, (elem_in (own_eqvR ev_PUBCOMP hn29a) ev_BY_CODE (Term.int_eval _) A_BY_CODE.1).2, (elem_in (own_eqvR ev_SUBSCRIBE hn37a) ev_BY_CODE (Term.int_eval _) A_BY_CODE.1).2, (elem_in (own_eqvR ev_SUBACK hn58a) ev_BY_CODE (Term.int_eval _) A_BY_CODE.1).2, (elem_in (own_eqvR ev_UNSUBSCRIBE hn25a) ev_BY_CODE (Term.int_eval _) A_BY_CODE.1).2, (elem_in (own_eqvR ev_UNSUBACK hn34a) ev_BY_CODE (Term.int_eval _) A_BY_CODE.1).2, (elem_in (own_eqvR ev_PINGREQ hn49a) ev_BY_CODE (Term.int_eval _) A_BY_CODE.1).2, (elem_in (own_eqvR ev_PINGRESP hn52a) ev_BY_CODE (Term.int_eval _) A_BY_CODE.1).2, (elem_in (own_eqvR ev_DISCONNECT hn17a) ev_BY_CODE (Term.int_eval _) A_BY_CODE.1).2, (elem_in (own_eqvR ev_AUTH hn21a) ev_BY_CODE (Term.int_eval _) A_BY_CODE.1).2, trivial⟩
  obtain ⟨n, o, h1, h2, h3, _, L, rfl, ⟨rfl, N⟩, hq⟩ := rm0 l s _ hw tables_1 a_PUBLISH a_CONNACK a_SUBACK a_UNSUBACK a_PINGRESP a_DISCONNECT a_AUTH a_UNSUBSCRIBE a_PUBCOMP a_SUBSCRIBE a_CONNECT a_PUBACK a_PINGREQ a_PUBREL a_PUBREC a_BY_CODE cl_BY_CODE.cls i0 s.heap s.heap.size (Nat.le_refl _) ⟨S_PUBLISH, E_PUBLISH, S_CONNACK, E_CONNACK, S_SUBACK, E_SUBACK, S_UNSUBACK, E_UNSUBACK, S_PINGRESP, E_PINGRESP, S_DISCONNECT, E_DISCONNECT, S_AUTH, E_AUTH, S_UNSUBSCRIBE, E_UNSUBSCRIBE, S_PUBCOMP, E_PUBCOMP, S_SUBSCRIBE, E_SUBSCRIBE, S_CONNECT, E_CONNECT, S_PUBACK, E_PUBACK, S_PINGREQ, E_PINGREQ, S_PUBREL, E_PUBREL, S_PUBREC, E_PUBREC, F_PUBLISH_code, F_PUBLISH_ordinal, F_CONNACK_ordinal, F_SUBACK_ordinal, F_UNSUBACK_ordinal, F_PINGRESP_ordinal, F_DISCONNECT_code, F_DISCONNECT_ordinal, F_AUTH_code, F_AUTH_ordinal, F_UNSUBSCRIBE_code, F_UNSUBSCRIBE_ordinal, F_PUBCOMP_code, F_PUBCOMP_ordinal, F_CONNACK_code, F_UNSUBACK_code, F_SUBSCRIBE_code, F_SUBSCRIBE_ordinal, F_CONNECT_code, F_CONNECT_ordinal, F_PUBACK_code, F_PUBACK_ordinal, F_PINGREQ_code, F_PINGREQ_ordinal, F_PINGRESP_code, F_PUBREL_code, F_PUBREL_ordinal, F_SUBACK_code, F_PUBREC_code, F_PUBREC_ordinal, S_BY_CODE, V_BY_CODE⟩ p e ha hc hk s m _ below hf ((Spec.applies_iff_loose hf).mp happ).1 ⟨rfl, State.Warmed39.refl s, rfl⟩ trivial
  refine ⟨n, _, h1, h2, h3, hpost _ _ _ _ _ _ ⟨Cond.after_iff.mpr rfl, Cond.after_iff.mpr (eq_i res_at (Term.int_eval (1)) rfl), trivial⟩ ⟨hq.1, hq.2.1, (hq.2.2.sift fun y hy => Or.inr (N y hy)).mono (by decide) (by decide)⟩⟩
theorem main_1_1 : Claimed_1_1 := comes_1 fun _ _ _ _ _ _ h hF => ⟨h.1, hF⟩
theorem main_1_2 : Claimed_1_2 := comes_1 fun _ _ _ _ _ _ h hF => ⟨h.2.1, hF⟩
end Jvm.Pilot.@@N@@
namespace Jvm.Pilot.@@N@@
open Jvm Jvm.ClassFile Sem Op Lib Jvm.Free Jvm.Stand Jvm.Pilot.@@N@@.Jvm.D
/-! MADE BY PROGRAM (witnessworld.py) out of the Statement's table words and the real class files: 13 classes; the members and pool entries that the words name. The judged class is class 1, her method 1. -/
namespace start1
open Jvm.ClassFile
def u (s : String) : CpInfo := .utf8 (stringToUtf16 s)
/-- a pool by its gaps: so many unusable entries, then the entry; so many at the end -/
def gap : Nat → List CpInfo → List CpInfo
  | 0, r => r
  | n + 1, r => .unusable :: gap n r
def poolList (es : List (Nat × CpInfo)) (last : Nat) : List CpInfo := es.foldr (fun e r => gap e.1 (e.2 :: r)) (gap last [])
def pool (es : List (Nat × CpInfo)) (last : Nat) : Array CpInfo := ⟨poolList es last⟩
def fileOf (pool : Array CpInfo) (this : Nat) (attrs : Array Attribute := #[]) (ms : Array MethodInfo := #[]) (fl : Nat := 33) (sup : Nat := 0) (ifs : Array Nat := #[]) (fds : Array FieldInfo := #[]) : ClassFile where
  minorVersion := 0
  majorVersion := 65
  constantPool := pool
  accessFlags := fl
  thisClass := this
  superClass := sup
  interfaces := ifs
  fields := fds
  methods := ms
  attributes := attrs
def plain (name : String) (sup : Option ClassId) : Class where
  name := name
  kind := .ordinary
  loader := none
  accessFlags := 33
  super := sup
  interfaces := #[]
  cf := none
  fields := #[]
  methods := #[]
  instanceTypes := #[]
  staticTypes := #[]
  resolved := #[]
  callSites := []
  init := .initialized
  statics := none
  mirror := none

def pool0 : Array CpInfo := pool [(5, u "<init>"), (0, u "()V"), (1, .class_ 10), (1, u "java/lang/Object")] 113

def k0m0 : Method := { name := "<init>", desc := "()V", sig := { parameters := [], returnType := none }, accessFlags := 1, code := none }
/-- java/lang/Object -/
def k0 : Class := { plain "java/lang/Object" none with
  accessFlags := 33
  interfaces := #[]
  cf := some (fileOf pool0 8 #[] #[{ accessFlags := 1, nameIndex := 5, descriptorIndex := 6, attributes := #[] }] 33 0 #[] #[])
  fields := #[]
  methods := #[k0m0]
  instanceTypes := #[]
  staticTypes := #[]
  resolved := Array.replicate 124 none
  statics := none }

def pool1 : Array CpInfo := pool [(2, .class_ 4), (1, u "java/lang/Object"), (0, u "<init>"), (0, u "()V"), (0, .methodref 8 9), (0, .class_ 10), (0, .nameAndType 11 12), (0, u "com/example/mqtt_packet_codec/mqttpacketcodec/PacketType"), (0, u "fromCode"), (0, u "(I)Lcom/example/mqtt_packet_codec/mqttpacketcodec/PacketType;"), (0, .methodref 8 14), (0, .nameAndType 15 16), (0, u "code"), (0, u "()I"), (0, .methodref 8 18), (0, .nameAndType 19 20), (0, u "sentByServerOnly"), (0, u "()Z"), (0, .class_ 22), (0, u "com/example/mqtt_packet_codec/mqttpacketcodec/PacketTypeSentByServerOnlyPinLaw"), (2, u "law"), (0, u "(I)Z")] 3

def k1m0 : Method := { name := "<init>", desc := "()V", sig := { parameters := [], returnType := none }, accessFlags := 2, code := none }
def k1c1 : Code := { maxStack := 2, maxLocals := 4, code := code, exceptionTable := #[], attributes := #[] }
def k1m1 : Method := { name := "law", desc := "(I)Z", sig := { parameters := [.int], returnType := some .boolean }, accessFlags := 9, code := some k1c1 }
/-- com/example/mqtt_packet_codec/mqttpacketcodec/PacketTypeSentByServerOnlyPinLaw -/
def k1 : Class := { plain "com/example/mqtt_packet_codec/mqttpacketcodec/PacketTypeSentByServerOnlyPinLaw" (some 0) with
  accessFlags := 49
  interfaces := #[]
  cf := some (fileOf pool1 21 #[] #[{ accessFlags := 2, nameIndex := 5, descriptorIndex := 6, attributes := #[] }, { accessFlags := 9, nameIndex := 25, descriptorIndex := 26, attributes := #[] }] 49 2 #[] #[])
  fields := #[]
  methods := #[k1m0, k1m1]
  instanceTypes := #[]
  staticTypes := #[]
  resolved := Array.replicate 30 none
  statics := none }

def pool2 : Array CpInfo := pool [(1, .class_ 2), (0, u "java/lang/constant/Constable"), (0, .class_ 4), (0, u "java/lang/Object")] 6

/-- java/lang/constant/Constable -/
def k2 : Class := { plain "java/lang/constant/Constable" (some 0) with
  accessFlags := 1537
  interfaces := #[]
  cf := some (fileOf pool2 1 #[] #[] 1537 3 #[] #[])
  fields := #[]
  methods := #[]
  instanceTypes := #[]
  staticTypes := #[]
  resolved := Array.replicate 11 none
  statics := none }

def pool3 : Array CpInfo := pool [(1, .class_ 2), (0, u "java/lang/Comparable"), (0, .class_ 4), (0, u "java/lang/Object")] 7

/-- java/lang/Comparable -/
def k3 : Class := { plain "java/lang/Comparable" (some 0) with
  accessFlags := 1537
  interfaces := #[]
  cf := some (fileOf pool3 1 #[] #[] 1537 3 #[] #[])
  fields := #[]
  methods := #[]
  instanceTypes := #[]
  staticTypes := #[]
  resolved := Array.replicate 12 none
  statics := none }

def pool4 : Array CpInfo := pool [(1, .class_ 2), (0, u "java/io/Serializable"), (0, .class_ 4), (0, u "java/lang/Object")] 2

/-- java/io/Serializable -/
def k4 : Class := { plain "java/io/Serializable" (some 0) with
  accessFlags := 1537
  interfaces := #[]
  cf := some (fileOf pool4 1 #[] #[] 1537 3 #[] #[])
  fields := #[]
  methods := #[]
  instanceTypes := #[]
  staticTypes := #[]
  resolved := Array.replicate 7 none
  statics := none }

def pool5 : Array CpInfo := pool [(2, .class_ 4), (1, u "java/lang/Enum"), (0, u "name"), (0, u "Ljava/lang/String;"), (2, u "ordinal"), (0, u "I"), (1, .class_ 14), (1, u "java/lang/Object"), (4, u "hash"), (86, .class_ 108), (1, u "java/lang/Enum$EnumDesc"), (2, .class_ 112), (0, u "java/lang/constant/Constable"), (0, .class_ 114), (0, u "java/lang/Comparable"), (0, .class_ 116), (0, u "java/io/Serializable")] 87

/-- java/lang/Enum -/
def k5 : Class := { plain "java/lang/Enum" (some 0) with
  accessFlags := 1057
  interfaces := #[2, 3, 4]
  cf := some (fileOf pool5 2 #[.nestMembers #[106]] #[] 1057 12 #[111, 113, 115] #[{ accessFlags := 18, nameIndex := 5, descriptorIndex := 6, attributes := #[] }, { accessFlags := 18, nameIndex := 9, descriptorIndex := 10, attributes := #[] }, { accessFlags := 2, nameIndex := 19, descriptorIndex := 10, attributes := #[] }])
  fields := #[{ name := "name", type := (.object "java/lang/String"), accessFlags := 18, slot := 0, constantValue := 0 }, { name := "ordinal", type := .int, accessFlags := 18, slot := 1, constantValue := 0 }, { name := "hash", type := .int, accessFlags := 2, slot := 2, constantValue := 0 }]
  methods := #[]
  instanceTypes := #[(.object "java/lang/String"), .int, .int]
  staticTypes := #[]
  resolved := Array.replicate 204 none
  statics := none }

def pool6 : Array CpInfo := pool [(1, .class_ 2), (0, u "com/example/mqtt_packet_codec/mqttpacketcodec/PacketType"), (2, u "CONNECT"), (0, u "Lcom/example/mqtt_packet_codec/mqttpacketcodec/PacketType;"), (0, .fieldref 1 8), (0, .nameAndType 9 6), (0, u "CONNACK"), (2, u "PUBLISH"), (2, u "PUBACK"), (2, u "PUBREC"), (2, u "PUBREL"), (2, u "PUBCOMP"), (2, u "SUBSCRIBE"), (0, .fieldref 1 29), (0, .nameAndType 30 6), (0, u "SUBACK"), (2, u "UNSUBSCRIBE"), (0, .fieldref 1 35), (0, .nameAndType 36 6), (0, u "UNSUBACK"), (2, u "PINGREQ"), (0, .fieldref 1 41), (0, .nameAndType 42 6), (0, u "PINGRESP"), (2, u "DISCONNECT"), (2, u "AUTH"), (2, u "$VALUES"), (0, u "[Lcom/example/mqtt_packet_codec/mqttpacketcodec/PacketType;"), (6, .class_ 61), (1, u "java/lang/Enum"), (6, .fieldref 1 69), (0, .nameAndType 70 71), (0, u "code"), (0, u "I"), (2, u "requiredFlags"), (2, u "firstVersion"), (0, u "Lcom/example/mqtt_packet_codec/mqttpacketcodec/MqttVersion;"), (0, .fieldref 1 80), (0, .nameAndType 81 52), (0, u "BY_CODE"), (70, u "MAX_FLAGS"), (2, u "DUP"), (1, u "QOS_SHIFT"), (1, u "QOS_MASK"), (1, u "RETAIN"), (0, u "MAX_QOS"), (1, u "QOS_1_FLAGS"), (6, u "fromCode"), (0, u "(I)Lcom/example/mqtt_packet_codec/mqttpacketcodec/PacketType;"), (1, u "()I"), (1, u "sentByServerOnly"), (0, u "()Z")] 28

def k6c0 : Code := { maxStack := 2, maxLocals := 2, code := prog_30_method_4_code, exceptionTable := #[], attributes := #[] }
def k6m0 : Method := { name := "fromCode", desc := "(I)Lcom/example/mqtt_packet_codec/mqttpacketcodec/PacketType;", sig := { parameters := [.int], returnType := some (.object "com/example/mqtt_packet_codec/mqttpacketcodec/PacketType") }, accessFlags := 8, code := some k6c0 }
def k6c1 : Code := { maxStack := 1, maxLocals := 1, code := prog_30_method_6_code, exceptionTable := #[], attributes := #[] }
def k6m1 : Method := { name := "code", desc := "()I", sig := { parameters := [], returnType := some .int }, accessFlags := 0, code := some k6c1 }
def k6c2 : Code := { maxStack := 2, maxLocals := 1, code := prog_30_method_9_code, exceptionTable := #[], attributes := #[] }
def k6m2 : Method := { name := "sentByServerOnly", desc := "()Z", sig := { parameters := [], returnType := some .boolean }, accessFlags := 0, code := some k6c2 }
/-- com/example/mqtt_packet_codec/mqttpacketcodec/PacketType -/
def k6 : Class := { plain "com/example/mqtt_packet_codec/mqttpacketcodec/PacketType" (some 5) with
  accessFlags := 16432
  interfaces := #[]
  cf := some (fileOf pool6 1 #[] #[{ accessFlags := 8, nameIndex := 171, descriptorIndex := 172, attributes := #[] }, { accessFlags := 0, nameIndex := 70, descriptorIndex := 174, attributes := #[] }, { accessFlags := 0, nameIndex := 176, descriptorIndex := 177, attributes := #[] }] 16432 59 #[] #[{ accessFlags := 16409, nameIndex := 5, descriptorIndex := 6, attributes := #[] }, { accessFlags := 16409, nameIndex := 9, descriptorIndex := 6, attributes := #[] }, { accessFlags := 16409, nameIndex := 12, descriptorIndex := 6, attributes := #[] }, { accessFlags := 16409, nameIndex := 15, descriptorIndex := 6, attributes := #[] }, { accessFlags := 16409, nameIndex := 18, descriptorIndex := 6, attributes := #[] }, { accessFlags := 16409, nameIndex := 21, descriptorIndex := 6, attributes := #[] }, { accessFlags := 16409, nameIndex := 24, descriptorIndex := 6, attributes := #[] }, { accessFlags := 16409, nameIndex := 27, descriptorIndex := 6, attributes := #[] }, { accessFlags := 16409, nameIndex := 30, descriptorIndex := 6, attributes := #[] }, { accessFlags := 16409, nameIndex := 33, descriptorIndex := 6, attributes := #[] }, { accessFlags := 16409, nameIndex := 36, descriptorIndex := 6, attributes := #[] }, { accessFlags := 16409, nameIndex := 39, descriptorIndex := 6, attributes := #[] }, { accessFlags := 16409, nameIndex := 42, descriptorIndex := 6, attributes := #[] }, { accessFlags := 16409, nameIndex := 45, descriptorIndex := 6, attributes := #[] }, { accessFlags := 16409, nameIndex := 48, descriptorIndex := 6, attributes := #[] }, { accessFlags := 24, nameIndex := 152, descriptorIndex := 71, attributes := #[] }, { accessFlags := 24, nameIndex := 155, descriptorIndex := 71, attributes := #[] }, { accessFlags := 24, nameIndex := 157, descriptorIndex := 71, attributes := #[] }, { accessFlags := 24, nameIndex := 159, descriptorIndex := 71, attributes := #[] }, { accessFlags := 24, nameIndex := 161, descriptorIndex := 71, attributes := #[] }, { accessFlags := 24, nameIndex := 162, descriptorIndex := 71, attributes := #[] }, { accessFlags := 26, nameIndex := 164, descriptorIndex := 71, attributes := #[] }, { accessFlags := 26, nameIndex := 81, descriptorIndex := 52, attributes := #[] }, { accessFlags := 18, nameIndex := 70, descriptorIndex := 71, attributes := #[] }, { accessFlags := 18, nameIndex := 74, descriptorIndex := 71, attributes := #[] }, { accessFlags := 18, nameIndex := 77, descriptorIndex := 78, attributes := #[] }, { accessFlags := 4122, nameIndex := 51, descriptorIndex := 52, attributes := #[] }])
  fields := #[{ name := "CONNECT", type := (.object "com/example/mqtt_packet_codec/mqttpacketcodec/PacketType"), accessFlags := 16409, slot := 0, constantValue := 0 }, { name := "CONNACK", type := (.object "com/example/mqtt_packet_codec/mqttpacketcodec/PacketType"), accessFlags := 16409, slot := 1, constantValue := 0 }, { name := "PUBLISH", type := (.object "com/example/mqtt_packet_codec/mqttpacketcodec/PacketType"), accessFlags := 16409, slot := 2, constantValue := 0 }, { name := "PUBACK", type := (.object "com/example/mqtt_packet_codec/mqttpacketcodec/PacketType"), accessFlags := 16409, slot := 3, constantValue := 0 }, { name := "PUBREC", type := (.object "com/example/mqtt_packet_codec/mqttpacketcodec/PacketType"), accessFlags := 16409, slot := 4, constantValue := 0 }, { name := "PUBREL", type := (.object "com/example/mqtt_packet_codec/mqttpacketcodec/PacketType"), accessFlags := 16409, slot := 5, constantValue := 0 }, { name := "PUBCOMP", type := (.object "com/example/mqtt_packet_codec/mqttpacketcodec/PacketType"), accessFlags := 16409, slot := 6, constantValue := 0 }, { name := "SUBSCRIBE", type := (.object "com/example/mqtt_packet_codec/mqttpacketcodec/PacketType"), accessFlags := 16409, slot := 7, constantValue := 0 }, { name := "SUBACK", type := (.object "com/example/mqtt_packet_codec/mqttpacketcodec/PacketType"), accessFlags := 16409, slot := 8, constantValue := 0 }, { name := "UNSUBSCRIBE", type := (.object "com/example/mqtt_packet_codec/mqttpacketcodec/PacketType"), accessFlags := 16409, slot := 9, constantValue := 0 }, { name := "UNSUBACK", type := (.object "com/example/mqtt_packet_codec/mqttpacketcodec/PacketType"), accessFlags := 16409, slot := 10, constantValue := 0 }, { name := "PINGREQ", type := (.object "com/example/mqtt_packet_codec/mqttpacketcodec/PacketType"), accessFlags := 16409, slot := 11, constantValue := 0 }, { name := "PINGRESP", type := (.object "com/example/mqtt_packet_codec/mqttpacketcodec/PacketType"), accessFlags := 16409, slot := 12, constantValue := 0 }, { name := "DISCONNECT", type := (.object "com/example/mqtt_packet_codec/mqttpacketcodec/PacketType"), accessFlags := 16409, slot := 13, constantValue := 0 }, { name := "AUTH", type := (.object "com/example/mqtt_packet_codec/mqttpacketcodec/PacketType"), accessFlags := 16409, slot := 14, constantValue := 0 }, { name := "MAX_FLAGS", type := .int, accessFlags := 24, slot := 15, constantValue := 0 }, { name := "DUP", type := .int, accessFlags := 24, slot := 16, constantValue := 0 }, { name := "QOS_SHIFT", type := .int, accessFlags := 24, slot := 17, constantValue := 0 }, { name := "QOS_MASK", type := .int, accessFlags := 24, slot := 18, constantValue := 0 }, { name := "RETAIN", type := .int, accessFlags := 24, slot := 19, constantValue := 0 }, { name := "MAX_QOS", type := .int, accessFlags := 24, slot := 20, constantValue := 0 }, { name := "QOS_1_FLAGS", type := .int, accessFlags := 26, slot := 21, constantValue := 0 }, { name := "BY_CODE", type := (.array (.object "com/example/mqtt_packet_codec/mqttpacketcodec/PacketType")), accessFlags := 26, slot := 22, constantValue := 0 }, { name := "code", type := .int, accessFlags := 18, slot := 3, constantValue := 0 }, { name := "requiredFlags", type := .int, accessFlags := 18, slot := 4, constantValue := 0 }, { name := "firstVersion", type := (.object "com/example/mqtt_packet_codec/mqttpacketcodec/MqttVersion"), accessFlags := 18, slot := 5, constantValue := 0 }, { name := "$VALUES", type := (.array (.object "com/example/mqtt_packet_codec/mqttpacketcodec/PacketType")), accessFlags := 4122, slot := 23, constantValue := 0 }]
  methods := #[k6m0, k6m1, k6m2]
  instanceTypes := #[(.object "java/lang/String"), .int, .int, .int, .int, (.object "com/example/mqtt_packet_codec/mqttpacketcodec/MqttVersion")]
  staticTypes := #[(.object "com/example/mqtt_packet_codec/mqttpacketcodec/PacketType"), (.object "com/example/mqtt_packet_codec/mqttpacketcodec/PacketType"), (.object "com/example/mqtt_packet_codec/mqttpacketcodec/PacketType"), (.object "com/example/mqtt_packet_codec/mqttpacketcodec/PacketType"), (.object "com/example/mqtt_packet_codec/mqttpacketcodec/PacketType"), (.object "com/example/mqtt_packet_codec/mqttpacketcodec/PacketType"), (.object "com/example/mqtt_packet_codec/mqttpacketcodec/PacketType"), (.object "com/example/mqtt_packet_codec/mqttpacketcodec/PacketType"), (.object "com/example/mqtt_packet_codec/mqttpacketcodec/PacketType"), (.object "com/example/mqtt_packet_codec/mqttpacketcodec/PacketType"), (.object "com/example/mqtt_packet_codec/mqttpacketcodec/PacketType"), (.object "com/example/mqtt_packet_codec/mqttpacketcodec/PacketType"), (.object "com/example/mqtt_packet_codec/mqttpacketcodec/PacketType"), (.object "com/example/mqtt_packet_codec/mqttpacketcodec/PacketType"), (.object "com/example/mqtt_packet_codec/mqttpacketcodec/PacketType"), .int, .int, .int, .int, .int, .int, .int, (.array (.object "com/example/mqtt_packet_codec/mqttpacketcodec/PacketType")), (.array (.object "com/example/mqtt_packet_codec/mqttpacketcodec/PacketType"))]
  resolved := Array.replicate 206 none
  statics := some 0 }

def pool7 : Array CpInfo := pool [(1, u "java/lang/Cloneable"), (0, .class_ 1), (0, u "java/lang/Object"), (0, .class_ 3)] 3

/-- java/lang/Cloneable -/
def k7 : Class := { plain "java/lang/Cloneable" (some 0) with
  accessFlags := 1537
  interfaces := #[]
  cf := some (fileOf pool7 2 #[] #[] 1537 4 #[] #[])
  fields := #[]
  methods := #[]
  instanceTypes := #[]
  staticTypes := #[]
  resolved := Array.replicate 8 none
  statics := none }

/-- the primitive byte -/
def k8 : Class := { plain "byte" none with kind := .primitive 'B', accessFlags := 0x411 }
/-- [B -/
def k9 : Class := { plain "[B" (some 0) with kind := .array 8 .byte, interfaces := #[7, 4], accessFlags := 1041 }

/-- the primitive int -/
def k10 : Class := { plain "int" none with kind := .primitive 'I', accessFlags := 0x411 }
/-- [I -/
def k11 : Class := { plain "[I" (some 0) with kind := .array 10 .int, interfaces := #[7, 4], accessFlags := 1041 }

/-- [Lcom/example/mqtt_packet_codec/mqttpacketcodec/PacketType; -/
def k12 : Class := { plain "[Lcom/example/mqtt_packet_codec/mqttpacketcodec/PacketType;" (some 0) with kind := .array 6 (.object "com/example/mqtt_packet_codec/mqttpacketcodec/PacketType"), interfaces := #[7, 4], accessFlags := 1041 }

def heap : Heap := #[{ cls := 6, slots := #[.ref 12, .ref 3, .ref 2, .ref 13, .ref 16, .ref 15, .ref 10, .ref 11, .ref 4, .ref 9, .ref 5, .ref 14, .ref 6, .ref 7, .ref 8, .int 0, .int 0, .int 0, .int 0, .int 0, .int 0, .int 0, .ref 1, .null], vm := .statics 6 },
  { cls := 12, slots := #[.null, .ref 12, .ref 3, .ref 2, .ref 13, .ref 16, .ref 15, .ref 10, .ref 11, .ref 4, .ref 9, .ref 5, .ref 14, .ref 6, .ref 7, .ref 8], vm := .none },
  { cls := 6, slots := #[.null, .int 2, .int 0, .int 3, .int 0, .null], vm := .none },
  { cls := 6, slots := #[.null, .int 1, .int 0, .int 2, .int 0, .null], vm := .none },
  { cls := 6, slots := #[.null, .int 8, .int 0, .int 9, .int 0, .null], vm := .none },
  { cls := 6, slots := #[.null, .int 10, .int 0, .int 11, .int 0, .null], vm := .none },
  { cls := 6, slots := #[.null, .int 12, .int 0, .int 13, .int 0, .null], vm := .none },
  { cls := 6, slots := #[.null, .int 13, .int 0, .int 14, .int 0, .null], vm := .none },
  { cls := 6, slots := #[.null, .int 14, .int 0, .int 15, .int 0, .null], vm := .none },
  { cls := 6, slots := #[.null, .int 9, .int 0, .int 10, .int 0, .null], vm := .none },
  { cls := 6, slots := #[.null, .int 6, .int 0, .int 7, .int 0, .null], vm := .none },
  { cls := 6, slots := #[.null, .int 7, .int 0, .int 8, .int 0, .null], vm := .none },
  { cls := 6, slots := #[.null, .int 0, .int 0, .int 1, .int 0, .null], vm := .none },
  { cls := 6, slots := #[.null, .int 3, .int 0, .int 4, .int 0, .null], vm := .none },
  { cls := 6, slots := #[.null, .int 11, .int 0, .int 12, .int 0, .null], vm := .none },
  { cls := 6, slots := #[.null, .int 5, .int 0, .int 6, .int 0, .null], vm := .none },
  { cls := 6, slots := #[.null, .int 4, .int 0, .int 5, .int 0, .null], vm := .none }]
def classes : Array Class := #[k0, k1, k2, k3, k4, k5, k6, k7, k8, k9, k10, k11, k12]
def interned : List (Array UInt16 × Addr) := []
def slotsUsed : Nat := 130
def theMethod : MethodId := ⟨1, 1⟩
def args0 : Array Value := #[.int 5]
def aboutOver (below : List Frame) : State where
  vm := { classes := classes, interned := interned.toArray }
  heap := heap
  slotsUsed := slotsUsed
  threads := #[{ frames := .invoking theMethod args0 :: below }]
def below0 : List Frame := [.native { method := ⟨0, 0⟩, args := #[] }]
def about1 : State := aboutOver below0
def p0 : Program := .bare "" "" ""
def e0 : Env := launch0.env 0 0 0
theorem w_frames : about1.frames = Frame.invoking theMethod args0 :: below0 := rfl
set_option maxRecDepth 65536 in
theorem w_args : argsFit about1.vm theMethod args0 = true := by decide +kernel
set_option maxRecDepth 65536 in
theorem w_heap : heapFits about1 = true := by decide +kernel
set_option maxRecDepth 65536 in
theorem w_runnable : about1.curStatus? = some .runnable := by decide +kernel
set_option maxRecDepth 65536 in
theorem w_alone : about1.alone = true := by decide +kernel
set_option maxRecDepth 65536 in
theorem w_named : about1.methodNamed? x = some theMethod := by decide +kernel
set_option maxRecDepth 65536 in
theorem w_hears : about1.hears theMethod below0 = true := by decide +kernel
set_option maxRecDepth 65536 in
theorem w_ripe : about1.ripe theMethod args0 below0 = true := by decide +kernel
theorem w_running : about1.status = .running := rfl
set_option maxRecDepth 65536 in
theorem w_room : about1.hasRoom e0.platform room_1 = true :=
  launch0.hasRoom_least _ room_1 (by decide +kernel) (by decide +kernel) (by decide +kernel) (by decide +kernel) (by decide +kernel) (by decide +kernel)
theorem allAtoms_all (ts : List Jvm.Cond) (a : Array Jvm.Value) (st : Jvm.State) : (allAtoms ts).before a st = ts.all (fun c => c.before a st) := by
  induction ts with
  | nil => rfl
  | cons c t ih =>
    show (Jvm.Cond.and c (allAtoms t)).before a st = _
    rw [Jvm.Cond.before_and, ih, List.all_cons]
def words1 : List Jvm.Cond := Jvm.Cond.code x code maxLocals ret :: tables_1
/-- a 'code' word, met by the world's own term for the bytes: nothing is compared byte by byte -/
theorem code_word {y : MethodName} {bytes : ByteArray} {mx : Nat} {rt : Option FieldType} {a : Array Value} {s : State} {m : MethodId} {meth : Method} {c : Code} (h1 : s.methodNamed? y = some m) (h2 : s.vm.method? m = some meth) (h3 : meth.code = some c) (h4 : c.code = bytes)
    (h5 : (c.maxLocals == mx && c.exceptionTable.isEmpty && decide (c.maxStack ≤ mostOperands) && decide (meth.sig.returnType = rt) && !meth.locks && decide (parseMethodDescriptor y.desc = some meth.sig)) = true) : (Jvm.Cond.code y bytes mx rt).before a s = true := by
  simp only [Bool.and_eq_true, beq_iff_eq, Bool.not_eq_true', decide_eq_true_eq] at h5
  obtain ⟨⟨⟨⟨⟨g1, g2⟩, g3⟩, g4⟩, g5⟩, g6⟩ := h5
  simp [Cond.before, Cond.holds, Cond.value, h1, h2, h3, h4, g1, g2, g3, g4, g5, g6]
def isCode : Jvm.Cond → Bool
  | .code _ _ _ _ => true
  | _ => false
theorem all_split {L : List Jvm.Cond} {P : Jvm.Cond → Bool} (h1 : L.all (fun c => isCode c || P c) = true) (h2 : ∀ c ∈ L.filter isCode, P c = true) : L.all P = true := by
  refine List.all_eq_true.mpr fun c hc => ?_
  have h := List.all_eq_true.mp h1 c hc
  rcases Bool.eq_false_or_eq_true (isCode c) with hi | hi
  · exact h2 c (List.mem_filter.mpr ⟨hc, hi⟩)
  · simpa [hi] using h
set_option maxRecDepth 65536 in
theorem w_c0 : (Jvm.Cond.code x code maxLocals ret).before args0 about1 = true := code_word (m := ⟨1, 1⟩) (meth := k1m1) (c := k1c1) (by decide +kernel) rfl rfl rfl (by decide +kernel)
set_option maxRecDepth 65536 in
theorem w_c1 : (Jvm.Cond.code ({ cls := "com/example/mqtt_packet_codec/mqttpacketcodec/PacketType", name := "fromCode", desc := "(I)Lcom/example/mqtt_packet_codec/mqttpacketcodec/PacketType;" } : Jvm.MethodName) prog_30_method_4_code (2 : Nat) (Option.some (Jvm.ClassFile.FieldType.object "com/example/mqtt_packet_codec/mqttpacketcodec/PacketType"))).before args0 about1 = true := code_word (m := ⟨6, 0⟩) (meth := k6m0) (c := k6c0) (by decide +kernel) rfl rfl rfl (by decide +kernel)
set_option maxRecDepth 65536 in
theorem w_c2 : (Jvm.Cond.code ({ cls := "com/example/mqtt_packet_codec/mqttpacketcodec/PacketType", name := "code", desc := "()I" } : Jvm.MethodName) prog_30_method_6_code (1 : Nat) (Option.some Jvm.ClassFile.FieldType.int)).before args0 about1 = true := code_word (m := ⟨6, 1⟩) (meth := k6m1) (c := k6c1) (by decide +kernel) rfl rfl rfl (by decide +kernel)
set_option maxRecDepth 65536 in
theorem w_c3 : (Jvm.Cond.code ({ cls := "com/example/mqtt_packet_codec/mqttpacketcodec/PacketType", name := "sentByServerOnly", desc := "()Z" } : Jvm.MethodName) prog_30_method_9_code (1 : Nat) (Option.some Jvm.ClassFile.FieldType.boolean)).before args0 about1 = true := code_word (m := ⟨6, 2⟩) (meth := k6m2) (c := k6c2) (by decide +kernel) rfl rfl rfl (by decide +kernel)
def codes1 : List Jvm.Cond := [Jvm.Cond.code x code maxLocals ret, Jvm.Cond.code ({ cls := "com/example/mqtt_packet_codec/mqttpacketcodec/PacketType", name := "fromCode", desc := "(I)Lcom/example/mqtt_packet_codec/mqttpacketcodec/PacketType;" } : Jvm.MethodName) prog_30_method_4_code (2 : Nat) (Option.some (Jvm.ClassFile.FieldType.object "com/example/mqtt_packet_codec/mqttpacketcodec/PacketType")), Jvm.Cond.code ({ cls := "com/example/mqtt_packet_codec/mqttpacketcodec/PacketType", name := "code", desc := "()I" } : Jvm.MethodName) prog_30_method_6_code (1 : Nat) (Option.some Jvm.ClassFile.FieldType.int), Jvm.Cond.code ({ cls := "com/example/mqtt_packet_codec/mqttpacketcodec/PacketType", name := "sentByServerOnly", desc := "()Z" } : Jvm.MethodName) prog_30_method_9_code (1 : Nat) (Option.some Jvm.ClassFile.FieldType.boolean)]
set_option maxRecDepth 65536 in
theorem codes_eq : words1.filter isCode = codes1 := rfl
theorem w_codes : ∀ c ∈ words1.filter isCode, c.before args0 about1 = true := by
  rw [codes_eq]
  intro c hc
  simp only [codes1, List.mem_cons, List.not_mem_nil, or_false] at hc
  rcases hc with rfl | rfl | rfl | rfl
  · exact w_c0
  · exact w_c1
  · exact w_c2
  · exact w_c3
set_option maxRecDepth 65536 in
theorem w_t1 : (words1.take 24).all (fun c => isCode c || c.before args0 about1) = true := by decide +kernel
set_option maxRecDepth 65536 in
theorem w_t2 : (words1.drop 24).all (fun c => isCode c || c.before args0 about1) = true := by decide +kernel
theorem w_tables : (allAtoms (Jvm.Cond.code x code maxLocals ret :: tables_1)).before args0 about1 = true := by
  rw [allAtoms_all]
  show words1.all (fun c => c.before args0 about1) = true
  refine all_split ?_ w_codes
  rw [← List.take_append_drop 24 words1, List.all_append, w_t1, w_t2]
  rfl
set_option maxRecDepth 65536 in
theorem w_case : (Jvm.Cond.and given_1 narrow_1).before args0 about1 = true := by decide +kernel
theorem w_applies : (headSpec (Jvm.Cond.code x code maxLocals ret :: tables_1) room_1).applies x e0.platform about1 = true :=
  (Spec.applies_iff w_frames).mpr ⟨w_running, w_runnable, w_alone, w_named, w_hears, w_ripe, w_room, w_tables⟩
theorem atStart : AtStart classFile x code maxLocals ret World_1 tables_1 room_1 Calls_1 rest_1 Pre_1 launch0 p0 e0 about1 theMethod args0 below0 :=
  ⟨lists_1, trivial, launch0.admits_env _ _ _, launch0.least_env, fairChoices_fair.cas, fairChoices_fair.clock, w_frames, w_args, w_heap, w_applies, trivial, trivial, w_case⟩
end start1
theorem witness_1 : WitnessClaimed_1 := ⟨start1.p0, start1.e0, start1.about1, start1.theMethod, start1.args0, start1.below0, start1.atStart⟩
end Jvm.Pilot.@@N@@
