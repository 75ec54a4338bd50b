import JvmDerived
import JvmDerived.Pilot.@@N@@Statement
import JvmDerived.Pilot.@@N@@Code
set_option linter.unusedVariables false
set_option linter.unusedSimpArgs false

namespace Jvm.Pilot.@@N@@
open Jvm Jvm.ClassFile Sem Op Lib Jvm.Free Jvm.Stand Jvm.LawKit Jvm.RoadKit Bundle Jvm.Pilot.@@N@@.Jvm.D
/-! continuation style: from A the run comes to a state of which K holds -/
def own_Go (tb : Tables) (e : Env) (below : List Frame) (K : State → Prop) (A : State) : Prop := ∃ U, Steps tb e below A U ∧ K U
theorem own_by {tb : Tables} {e : Env} {below : List Frame} {K : State → Prop} {A B : State} (h : ∀ t, Steps tb e below B t → Steps tb e below A t) (k : own_Go tb e below K B) : own_Go tb e below K A := by
  obtain ⟨U, s, q⟩ := k; exact ⟨U, h U s, q⟩
def own_K (s : State) (below : List Frame) (Q : Option Value → Heap → List Loc → Prop) (kc ks : Nat) (U : State) : Prop :=
  ∃ v L, U.status = .running ∧ Ended U below (.returned v) ∧ Q v U.heap L ∧ FrameEnd s (.returned v) U L kc ks
theorem own_done {tb : Tables} {e : Env} {below : List Frame} {s A B : State} {Q : Option Value → Heap → List Loc → Prop} {kc ks : Nat} (h : ∀ t, Steps tb e below B t → Steps tb e below A t) (k : own_Go tb e below (own_K s below Q kc ks) B) :
    ∃ s₂ o, Steps tb e below A s₂ ∧ s₂.status = .running ∧ Ended s₂ below o ∧ ∃ v L, o = .returned v ∧ Q v s₂.heap L ∧ FrameEnd s o s₂ L kc ks := by
  obtain ⟨U, st, v, L, h1, h2, h3, h4⟩ := k
  exact ⟨U, _, h U st, h1, h2, v, L, rfl, h3, h4⟩
theorem own_cat1 (x : Int32) : Value.category (.int x) = 1 := rfl
theorem own_cat2 (x : Addr) : Value.category (.ref x) = 1 := rfl
theorem own_cat3 : Value.category .null = 1 := rfl
theorem own_cat4 (x : Int64) : Value.category (.long x) = 2 := rfl
section OwnRet
variable {p : Program} {l : Launch} {e : Env} {R : Room} {s : State} {m : MethodId} {args : Array Value} {below : List Frame} {meth : Method} {c : Code} {T : State} {locs : List Loc} {cells slots : Nat} {Q : Option Value → Heap → List Loc → Prop} {kc ks : Nat}
theorem own_retW (X : Stand p l e R s m args below meth c T locs cells slots) (hx : p.tables.exec = Jvm.exec) {pc : Nat} {Ls : Array Slot} {w : Value} {t : FieldType} {i : Instr} {rest : List Value} (hrt : meth.sig.returnType = some t) (hlk : meth.locks = false) (hn : narrow t w = w)
    (hi : (i = .ireturn ∧ (t = .int ∨ t = .boolean ∨ t = .byte ∨ t = .char ∨ t = .short) ∧ ∃ z, w = .int z) ∨ (i = .lreturn ∧ t = .long ∧ ∃ z, w = .long z) ∨ (i = .dreturn ∧ t = .double ∧ ∃ z, w = .double z) ∨ (i = .freturn ∧ t = .float ∧ ∃ z, w = .float z) ∨ (i = .areturn ∧ t.isReference = true ∧ w.isRef = true))
    (hd : decode c.code pc = .ok (i, 1)) (hc : cells ≤ kc) (hs : slots ≤ ks) (hq : Q (some w) T.heap locs) :
    own_Go p.tables e below (own_K s below Q kc ks) (T.setTop (mkF m pc Ls (w :: rest))) := by
  obtain ⟨fs, hr, hrun, hended, hW, hsame⟩ := X.leave (v := some w) (fun h => by rw [hrt] at h; cases h) hlk
  exact ⟨_, retOut X hx hrt hn hi hd hr, some w, locs, hrun, hended, hq, ⟨_, rfl⟩, hW, hsame.mono hc hs⟩
theorem own_retI (X : Stand p l e R s m args below meth c T locs cells slots) (hx : p.tables.exec = Jvm.exec) {pc : Nat} {Ls : Array Slot} {z : Int32} {rest : List Value} (hrt : meth.sig.returnType = some .int) (hlk : meth.locks = false)
    (hd : decode c.code pc = .ok (.ireturn, 1)) (hc : cells ≤ kc) (hs : slots ≤ ks) (hq : Q (some (.int z)) T.heap locs) :
    own_Go p.tables e below (own_K s below Q kc ks) (T.setTop (mkF m pc Ls (.int z :: rest))) :=
  own_retW X hx hrt hlk rfl (Or.inl ⟨rfl, Or.inl rfl, _, rfl⟩) hd hc hs hq
theorem own_retZ (X : Stand p l e R s m args below meth c T locs cells slots) (hx : p.tables.exec = Jvm.exec) {pc : Nat} {Ls : Array Slot} {z : Int32} {rest : List Value} (hrt : meth.sig.returnType = some .boolean) (hlk : meth.locks = false) (hn : narrow .boolean (.int z) = .int z)
    (hd : decode c.code pc = .ok (.ireturn, 1)) (hc : cells ≤ kc) (hs : slots ≤ ks) (hq : Q (some (.int z)) T.heap locs) :
    own_Go p.tables e below (own_K s below Q kc ks) (T.setTop (mkF m pc Ls (.int z :: rest))) :=
  own_retW X hx hrt hlk hn (Or.inl ⟨rfl, Or.inr (Or.inl rfl), _, rfl⟩) hd hc hs hq
theorem own_retJ (X : Stand p l e R s m args below meth c T locs cells slots) (hx : p.tables.exec = Jvm.exec) {pc : Nat} {Ls : Array Slot} {z : Int64} {rest : List Value} (hrt : meth.sig.returnType = some .long) (hlk : meth.locks = false)
    (hd : decode c.code pc = .ok (.lreturn, 1)) (hc : cells ≤ kc) (hs : slots ≤ ks) (hq : Q (some (.long z)) T.heap locs) :
    own_Go p.tables e below (own_K s below Q kc ks) (T.setTop (mkF m pc Ls (.long z :: rest))) :=
  own_retW X hx hrt hlk rfl (Or.inr (Or.inl ⟨rfl, rfl, _, rfl⟩)) hd hc hs hq
theorem own_retA (X : Stand p l e R s m args below meth c T locs cells slots) (hx : p.tables.exec = Jvm.exec) {pc : Nat} {Ls : Array Slot} {w : Value} {t : FieldType} {rest : List Value} (hrt : meth.sig.returnType = some t) (ht : t.isReference = true) (hw : w.isRef = true) (hlk : meth.locks = false)
    (hd : decode c.code pc = .ok (.areturn, 1)) (hc : cells ≤ kc) (hs : slots ≤ ks) (hq : Q (some w) T.heap locs) :
    own_Go p.tables e below (own_K s below Q kc ks) (T.setTop (mkF m pc Ls (w :: rest))) :=
  own_retW X hx hrt hlk (by rcases ref_cases hw with rfl | ⟨a, rfl⟩ <;> cases t <;> first | rfl | (cases ht)) (Or.inr (Or.inr (Or.inr (Or.inr ⟨rfl, ht, hw⟩)))) hd hc hs hq
theorem own_retV (X : Stand p l e R s m args below meth c T locs cells slots) (hx : p.tables.exec = Jvm.exec) {pc : Nat} {Ls : Array Slot} (hrt : meth.sig.returnType = none) (hlk : meth.locks = false)
    (hd : decode c.code pc = .ok (.return_, 1)) (hc : cells ≤ kc) (hs : slots ≤ ks) (hq : Q none T.heap locs) :
    own_Go p.tables e below (own_K s below Q kc ks) (T.setTop (mkF m pc Ls [])) := by
  obtain ⟨fs, hr, hrun, hended, hW, hsame⟩ := X.leave (v := none) (fun _ => rfl) hlk
  exact ⟨_, X.returnOut hx hrt hd hr, none, locs, hrun, hended, hq, ⟨_, rfl⟩, hW, hsame.mono hc hs⟩
theorem own_retB (X : Stand p l e R s m args below meth c T locs cells slots) (hx : p.tables.exec = Jvm.exec) {pc : Nat} {Ls : Array Slot} {z : Int32} {rest : List Value} (hrt : meth.sig.returnType = some .boolean) (hlk : meth.locks = false)
    (hd : decode c.code pc = .ok (.ireturn, 1)) (hc : cells ≤ kc) (hs : slots ≤ ks) (hq : Q (some (.int (z &&& (1 : Int32)))) T.heap locs) :
    own_Go p.tables e below (own_K s below Q kc ks) (T.setTop (mkF m pc Ls (.int z :: rest))) := by
  obtain ⟨fs, hr, hrun, hended, hW, hsame⟩ := X.leave (v := some (.int (nar .boolean z))) (fun h => by rw [hrt] at h; cases h) hlk
  exact ⟨_, retN X hx (t := .boolean) hrt (Or.inl rfl) hd hr, some (.int (nar .boolean z)), locs, hrun, hended, hq, ⟨_, rfl⟩, hW, hsame.mono hc hs⟩
end OwnRet
def own_P (r : Value) (h0 : Heap) (n0 : Nat) (v : Option Value) (h : Heap) (L : List Loc) : Prop := v = some r ∧ Fr n0 L ∧ h = h0
theorem own_eqvR {Z : State} {args : Array Value} {X F : Term} {idx : List Nat} {a : Addr} (hF : F.eval args Z none idx Z = some (.ref a)) (h : (Cond.eq X F).value args Z none Z idx = some true) : X.eval args Z none idx Z = some (.ref a) := by
  simp only [Cond.value, hF] at h
  cases hX : X.eval args Z none idx Z with
  | none => simp [hX] at h
  | some x => cases x <;> simp [hX] at h ⊢; exact h
theorem own_len {Z : State} {args : Array Value} {t : Term} {a : Addr} {cl : Cell} {ty : FieldType} {z : Int32} (h : (Term.length t).eval args Z none [] Z = some (.int z)) (ht : t.eval args Z none [] Z = some (.ref a)) (A : Arr Z Z.heap a cl ty) : cl.slots.size < 2 ^ 31 ∧ cl.slots.size.toInt32 = z := by
  have e : Z.arrayAt? a = some cl := A.fin (U := Z) (Vm.Alike.refl _)
  simp only [Term.eval, ht, e, Option.bind_eq_bind, Option.bind_some] at h
  split at h
  · rename_i q; exact ⟨q, by simpa using h⟩
  · simp at h

def own_W (Z : State) (h : Heap) (a_PUBLISH a_DISCONNECT a_CONNECT a_SUBSCRIBE a_PUBACK a_PINGRESP a_PUBREL a_AUTH a_PUBCOMP a_PINGREQ a_PUBREC a_UNSUBACK a_CONNACK a_SUBACK a_UNSUBSCRIBE a_BY_CODE : Addr) (k_BY_CODE : ClassId) : Prop := Sta Z h "com/example/mqtt_packet_codec/mqttpacketcodec/PacketType" "PUBLISH" "Lcom/example/mqtt_packet_codec/mqttpacketcodec/PacketType;" (.ref a_PUBLISH) ∧ Exa Z h a_PUBLISH "com/example/mqtt_packet_codec/mqttpacketcodec/PacketType" ∧ Sta Z h "com/example/mqtt_packet_codec/mqttpacketcodec/PacketType" "DISCONNECT" "Lcom/example/mqtt_packet_codec/mqttpacketcodec/PacketType;" (.ref a_DISCONNECT) ∧ Exa Z h a_DISCONNECT "com/example/mqtt_packet_codec/mqttpacketcodec/PacketType" ∧ Sta Z h "com/example/mqtt_packet_codec/mqttpacketcodec/PacketType" "CONNECT" "Lcom/example/mqtt_packet_codec/mqttpacketcodec/PacketType;" (.ref a_CONNECT) ∧ Exa Z h a_CONNECT "com/example/mqtt_packet_codec/mqttpacketcodec/PacketType" ∧ Sta Z h "com/example/mqtt_packet_codec/mqttpacketcodec/PacketType" "SUBSCRIBE" "Lcom/example/mqtt_packet_codec/mqttpacketcodec/PacketType;" (.ref a_SUBSCRIBE) ∧ Exa Z h a_SUBSCRIBE "com/example/mqtt_packet_codec/mqttpacketcodec/PacketType" ∧ Sta Z h "com/example/mqtt_packet_codec/mqttpacketcodec/PacketType" "PUBACK" "Lcom/example/mqtt_packet_codec/mqttpacketcodec/PacketType;" (.ref a_PUBACK) ∧ Exa Z h a_PUBACK "com/example/mqtt_packet_codec/mqttpacketcodec/PacketType" ∧ Sta Z h "com/example/mqtt_packet_codec/mqttpacketcodec/PacketType" "PINGRESP" "Lcom/example/mqtt_packet_codec/mqttpacketcodec/PacketType;" (.ref a_PINGRESP) ∧ Exa Z h a_PINGRESP "com/example/mqtt_packet_codec/mqttpacketcodec/PacketType" ∧ Sta Z h "com/example/mqtt_packet_codec/mqttpacketcodec/PacketType" "PUBREL" "Lcom/example/mqtt_packet_codec/mqttpacketcodec/PacketType;" (.ref a_PUBREL) ∧ Exa Z h a_PUBREL "com/example/mqtt_packet_codec/mqttpacketcodec/PacketType" ∧ Sta Z h "com/example/mqtt_packet_codec/mqttpacketcodec/PacketType" "AUTH" "Lcom/example/mqtt_packet_codec/mqttpacketcodec/PacketType;" (.ref a_AUTH) ∧ Exa Z h a_AUTH "com/example/mqtt_packet_codec/mqttpacketcodec/PacketType" ∧ Sta Z h "com/example/mqtt_packet_codec/mqttpacketcodec/PacketType" "PUBCOMP" "Lcom/example/mqtt_packet_codec/mqttpacketcodec/PacketType;" (.ref a_PUBCOMP) ∧ Exa Z h a_PUBCOMP "com/example/mqtt_packet_codec/mqttpacketcodec/PacketType" ∧ Sta Z h "com/example/mqtt_packet_codec/mqttpacketcodec/PacketType" "PINGREQ" "Lcom/example/mqtt_packet_codec/mqttpacketcodec/PacketType;" (.ref a_PINGREQ) ∧ Exa Z h a_PINGREQ "com/example/mqtt_packet_codec/mqttpacketcodec/PacketType" ∧ Sta Z h "com/example/mqtt_packet_codec/mqttpacketcodec/PacketType" "PUBREC" "Lcom/example/mqtt_packet_codec/mqttpacketcodec/PacketType;" (.ref a_PUBREC) ∧ Exa Z h a_PUBREC "com/example/mqtt_packet_codec/mqttpacketcodec/PacketType" ∧ Sta Z h "com/example/mqtt_packet_codec/mqttpacketcodec/PacketType" "UNSUBACK" "Lcom/example/mqtt_packet_codec/mqttpacketcodec/PacketType;" (.ref a_UNSUBACK) ∧ Exa Z h a_UNSUBACK "com/example/mqtt_packet_codec/mqttpacketcodec/PacketType" ∧ Sta Z h "com/example/mqtt_packet_codec/mqttpacketcodec/PacketType" "CONNACK" "Lcom/example/mqtt_packet_codec/mqttpacketcodec/PacketType;" (.ref a_CONNACK) ∧ Exa Z h a_CONNACK "com/example/mqtt_packet_codec/mqttpacketcodec/PacketType" ∧ Sta Z h "com/example/mqtt_packet_codec/mqttpacketcodec/PacketType" "SUBACK" "Lcom/example/mqtt_packet_codec/mqttpacketcodec/PacketType;" (.ref a_SUBACK) ∧ Exa Z h a_SUBACK "com/example/mqtt_packet_codec/mqttpacketcodec/PacketType" ∧ Sta Z h "com/example/mqtt_packet_codec/mqttpacketcodec/PacketType" "UNSUBSCRIBE" "Lcom/example/mqtt_packet_codec/mqttpacketcodec/PacketType;" (.ref a_UNSUBSCRIBE) ∧ Exa Z h a_UNSUBSCRIBE "com/example/mqtt_packet_codec/mqttpacketcodec/PacketType" ∧ Sta Z h "com/example/mqtt_packet_codec/mqttpacketcodec/PacketType" "BY_CODE" "[Lcom/example/mqtt_packet_codec/mqttpacketcodec/PacketType;" (.ref a_BY_CODE) ∧ Arv Z h a_BY_CODE k_BY_CODE (Jvm.ClassFile.FieldType.object "com/example/mqtt_packet_codec/mqttpacketcodec/PacketType") (16 : Int32) [.null, (.ref a_CONNECT), (.ref a_CONNACK), (.ref a_PUBLISH), (.ref a_PUBACK), (.ref a_PUBREC), (.ref a_PUBREL), (.ref a_PUBCOMP), (.ref a_SUBSCRIBE), (.ref a_SUBACK), (.ref a_UNSUBSCRIBE), (.ref a_UNSUBACK), (.ref a_PINGREQ), (.ref a_PINGRESP), (.ref a_DISCONNECT), (.ref a_AUTH)] .null

def own_at (i : Nat) (a_CONNECT a_CONNACK a_PUBLISH a_PUBACK a_PUBREC a_PUBREL a_PUBCOMP a_SUBSCRIBE a_SUBACK a_UNSUBSCRIBE a_UNSUBACK a_PINGREQ a_PINGRESP a_DISCONNECT a_AUTH : Addr) : Value := List.getD [.null, (.ref a_CONNECT), (.ref a_CONNACK), (.ref a_PUBLISH), (.ref a_PUBACK), (.ref a_PUBREC), (.ref a_PUBREL), (.ref a_PUBCOMP), (.ref a_SUBSCRIBE), (.ref a_SUBACK), (.ref a_UNSUBSCRIBE), (.ref a_UNSUBACK), (.ref a_PINGREQ), (.ref a_PINGRESP), (.ref a_DISCONNECT), (.ref a_AUTH)] i .null

theorem own_at_ref (i : Nat) (a_CONNECT a_CONNACK a_PUBLISH a_PUBACK a_PUBREC a_PUBREL a_PUBCOMP a_SUBSCRIBE a_SUBACK a_UNSUBSCRIBE a_UNSUBACK a_PINGREQ a_PINGRESP a_DISCONNECT a_AUTH : Addr) : (own_at i a_CONNECT a_CONNACK a_PUBLISH a_PUBACK a_PUBREC a_PUBREL a_PUBCOMP a_SUBSCRIBE a_SUBACK a_UNSUBSCRIBE a_UNSUBACK a_PINGREQ a_PINGRESP a_DISCONNECT a_AUTH).isRef = true := by
  unfold own_at
  match i with
  | 0 => rfl
  | 1 => rfl
  | 2 => rfl
  | 3 => rfl
  | 4 => rfl
  | 5 => rfl
  | 6 => rfl
  | 7 => rfl
  | 8 => rfl
  | 9 => rfl
  | 10 => rfl
  | 11 => rfl
  | 12 => rfl
  | 13 => rfl
  | 14 => rfl
  | 15 => rfl
  | _ + 16 => rfl

def own_f1 (ua : Int32) (a_CONNECT : Addr) (a_CONNACK : Addr) (a_PUBLISH : Addr) (a_PUBACK : Addr) (a_PUBREC : Addr) (a_PUBREL : Addr) (a_PUBCOMP : Addr) (a_SUBSCRIBE : Addr) (a_SUBACK : Addr) (a_UNSUBSCRIBE : Addr) (a_UNSUBACK : Addr) (a_PINGREQ : Addr) (a_PINGRESP : Addr) (a_DISCONNECT : Addr) (a_AUTH : Addr) : Value := if ua < (0 : Int32) then .null else if ua < (16 : Int32) then (own_at (ua).toNatClampNeg a_CONNECT a_CONNACK a_PUBLISH a_PUBACK a_PUBREC a_PUBREL a_PUBCOMP a_SUBSCRIBE a_SUBACK a_UNSUBSCRIBE a_UNSUBACK a_PINGREQ a_PINGRESP a_DISCONNECT a_AUTH) else .null

theorem d1_0 : decode prog_30_method_4_code 0 = .ok (.aconst_null, 1) := by decide +kernel
theorem d1_1 : decode prog_30_method_4_code 1 = .ok (.astore_n 1, 1) := by decide +kernel
theorem d1_2 : decode prog_30_method_4_code 2 = .ok (.iload_n 0, 1) := by decide +kernel
theorem d1_3 : decode prog_30_method_4_code 3 = .ok (.ifCond .lt 17, 3) := by decide +kernel
theorem d1_6 : decode prog_30_method_4_code 6 = .ok (.iload_n 0, 1) := by decide +kernel
theorem d1_7 : decode prog_30_method_4_code 7 = .ok (.getstatic 79, 3) := by decide +kernel
theorem d1_10 : decode prog_30_method_4_code 10 = .ok (.arraylength, 1) := by decide +kernel
theorem d1_11 : decode prog_30_method_4_code 11 = .ok (.if_icmp .ge 9, 3) := by decide +kernel
theorem d1_14 : decode prog_30_method_4_code 14 = .ok (.getstatic 79, 3) := by decide +kernel
theorem d1_17 : decode prog_30_method_4_code 17 = .ok (.iload_n 0, 1) := by decide +kernel
theorem d1_18 : decode prog_30_method_4_code 18 = .ok (.aaload, 1) := by decide +kernel
theorem d1_19 : decode prog_30_method_4_code 19 = .ok (.astore_n 1, 1) := by decide +kernel
theorem d1_20 : decode prog_30_method_4_code 20 = .ok (.aload_n 1, 1) := by decide +kernel
theorem d1_21 : decode prog_30_method_4_code 21 = .ok (.areturn, 1) := by decide +kernel
theorem pn_rm1 : plainFor (⟨"com/example/mqtt_packet_codec/mqttpacketcodec/PacketType", "fromCode", "(I)Lcom/example/mqtt_packet_codec/mqttpacketcodec/PacketType;"⟩ : MethodName) = true := by first | exact plainFor_of_name (by first | (simp [plainName, overriddenIn]; done) | decide +kernel) | exact Jvm.Free.JP.mathPlain rfl (by decide +kernel) | decide +kernel
theorem ef_rm1 (m : MethodId) (x0 : Int32) : entryFrame m #[(.int x0)] 2 = mkF m 0 #[.val (.int x0), .unset] [] := by first | (simp [entryFrame, mkF, argsToLocals, Value.category]; done) | rfl
set_option maxRecDepth 65536 in
set_option maxHeartbeats 40000000 in
theorem rm1 (l : Launch) (Z : State) (a0 : Array Value) (hw : ∀ d ∈ tables_1, d.before a0 Z = true) (ws : List Jvm.Cond) (a_PUBLISH a_DISCONNECT a_CONNECT a_SUBSCRIBE a_PUBACK a_PINGRESP a_PUBREL a_AUTH a_PUBCOMP a_PINGREQ a_PUBREC a_UNSUBACK a_CONNACK a_SUBACK a_UNSUBSCRIBE a_BY_CODE : Addr) (k_BY_CODE : ClassId) (ua : Int32) (h0 : Heap) (n0 : Nat) (Z0 : n0 ≤ h0.size) (HW : own_W Z h0 a_PUBLISH a_DISCONNECT a_CONNECT a_SUBSCRIBE a_PUBACK a_PINGRESP a_PUBREL a_AUTH a_PUBCOMP a_PINGREQ a_PUBREC a_UNSUBACK a_CONNACK a_SUBACK a_UNSUBSCRIBE a_BY_CODE k_BY_CODE) :
    MetFree l (⟨"com/example/mqtt_packet_codec/mqttpacketcodec/PacketType", "fromCode", "(I)Lcom/example/mqtt_packet_codec/mqttpacketcodec/PacketType;"⟩ : MethodName) (head1 (Jvm.Cond.code (⟨"com/example/mqtt_packet_codec/mqttpacketcodec/PacketType", "fromCode", "(I)Lcom/example/mqtt_packet_codec/mqttpacketcodec/PacketType;"⟩ : MethodName) prog_30_method_4_code 2 (some (.object "com/example/mqtt_packet_codec/mqttpacketcodec/PacketType")) :: ws) ({ frames := 0, cells := 0, slots := 0, locals := 0 } : Room)) (fun a U => a = #[(.int ua)] ∧ Z.Warmed39 U.vm ∧ U.heap = h0) (fun _ _ _ _ _ => True) (fun _ U o U' => ∃ v L, o = .returned v ∧ (own_P (own_f1 ua a_CONNECT a_CONNACK a_PUBLISH a_PUBACK a_PUBREC a_PUBREL a_PUBCOMP a_SUBSCRIBE a_SUBACK a_UNSUBSCRIBE a_UNSUBACK a_PINGREQ a_PINGRESP a_DISCONNECT a_AUTH) h0 n0) v U'.heap L ∧ FrameEnd U o U' L 0 0) := by
  refine MetFree.of_bodySF pn_rm1 hisR ?_
  intro p e s m args below meth c s₁ Bd hml0 hP hK
  obtain ⟨rfl, hZ, hh⟩ := hP
  have hx := Bd.exec
  have hby := Bd.bytes
  have hml : c.maxLocals = 2 := hml0
  have hown : s.vm.findClass "com/example/mqtt_packet_codec/mqttpacketcodec/PacketType" = some m.cls := findClass_of_methodNamed Bd.named
  have hnm := (name_of_methodNamed Bd.named Bd.method).1
  have hrt := Bd.returns
  have hlk := Bd.notSynchronized
  have X0 : Stand p l e ({ frames := 0, cells := 0, slots := 0, locals := 0 } : Room) s m #[(.int ua)] below meth c s₁ [] 0 0 := Stand.of_body Bd
  have e0 : s₁.heap = h0 := by rw [← hh, Bd.state]; rfl
  have N0 := Fr.nil n0
  obtain ⟨S_PUBLISH, E_PUBLISH, S_DISCONNECT, E_DISCONNECT, S_CONNECT, E_CONNECT, S_SUBSCRIBE, E_SUBSCRIBE, S_PUBACK, E_PUBACK, S_PINGRESP, E_PINGRESP, S_PUBREL, E_PUBREL, S_AUTH, E_AUTH, S_PUBCOMP, E_PUBCOMP, S_PINGREQ, E_PINGREQ, S_PUBREC, E_PUBREC, S_UNSUBACK, E_UNSUBACK, S_CONNACK, E_CONNACK, S_SUBACK, E_SUBACK, S_UNSUBSCRIBE, E_UNSUBSCRIBE, S_BY_CODE, V_BY_CODE⟩ := HW
  refine own_done (B := s₁.setTop (mkF m 0 #[.val (.int ua), .unset] [])) (fun t k => castTop (ef_rm1 m ua) k) ?_
  refine own_by (B := s₁.setTop (mkF m 1 #[.val (.int ua), .unset] [.null])) (fun _ k => XS.aconstNull X0.here hx rfl (hb hby d1_0) k) ?_
  refine own_by (B := s₁.setTop (mkF m 2 #[.val (.int ua), .val .null] [])) (fun _ k => XS.astoreN X0.here hx rfl (hb hby d1_1) rfl rfl (l' := #[.val (.int ua), .val .null]) rfl k) ?_
  refine own_by (B := s₁.setTop (mkF m 3 #[.val (.int ua), .val .null] [(.int ua)])) (fun _ k => XS.iloadN X0.here hx rfl (hb hby d1_2) rfl  k) ?_
  by_cases hc1 : ua < (0 : Int32)
  · refine own_by (B := s₁.setTop (mkF m 20 #[.val (.int ua), .val .null] [])) (fun _ k => XS.ifYes X0.here hx rfl (pc0 := 3) (pc' := 20) rfl (hb hby d1_3) rfl (XT.i0_lt_t hc1) (by decide) (by decide) k) ?_
    refine own_by (B := s₁.setTop (mkF m 21 #[.val (.int ua), .val .null] [.null])) (fun _ k => XS.aloadN X0.here hx rfl (hb hby d1_20) rfl rfl  k) ?_
    exact own_retA X0 hx hrt rfl rfl hlk (hb hby d1_21) (by decide) (by decide) ⟨(by unfold own_f1; rw [if_pos hc1]), N0, e0⟩
  · refine own_by (B := s₁.setTop (mkF m 6 #[.val (.int ua), .val .null] [])) (fun _ k => XS.ifNo X0.here hx rfl (hb hby d1_3) rfl (XT.i0_lt_f hc1) k) ?_
    refine own_by (B := s₁.setTop (mkF m 7 #[.val (.int ua), .val .null] [(.int ua)])) (fun _ k => XS.iloadN X0.here hx rfl (hb hby d1_6) rfl  k) ?_
    obtain ⟨T2, X2, e2, st2⟩ := getS2 X0 hx hZ hown (host := "") (Or.inl (hw _ (List.mem_of_getElem? (i := 4) rfl))) Via.refl e0 S_BY_CODE (g := (mkF m 7 #[.val (.int ua), .val .null] [(.int ua)])) rfl (hb hby d1_7)
    refine own_by (B := T2.setTop (mkF m 10 #[.val (.int ua), .val .null] [(.ref a_BY_CODE), (.int ua)])) st2 ?_
    obtain ⟨cl3, Ar3, qq3, Sz3, Nn3, Hh3, Gg3⟩ := id (V_BY_CODE)
    refine own_by (B := T2.setTop (mkF m 11 #[.val (.int ua), .val .null] [(.int (16 : Int32)), (.int ua)])) (fun t k => X2.arraylength hx (by rw [e2]; exact Ar3.1) (State.isArrayOf_alike hZ.alike Ar3.2.1) (g := (mkF m 10 #[.val (.int ua), .val .null] [(.ref a_BY_CODE), (.int ua)])) rfl rfl (hb hby d1_10) t (by rw [len_of Sz3 Nn3]; exact k)) ?_
    by_cases hc4 : ua < (16 : Int32)
    · refine own_by (B := T2.setTop (mkF m 14 #[.val (.int ua), .val .null] [])) (fun _ k => XS.icmpNo X2.here hx rfl (hb hby d1_11) rfl (XT.ii_ge_f hc4) k) ?_
      obtain ⟨T5, X5, e5, st5⟩ := getS2 X2 hx hZ hown (host := "") (Or.inl (hw _ (List.mem_of_getElem? (i := 4) rfl))) Via.refl e2 S_BY_CODE (g := (mkF m 14 #[.val (.int ua), .val .null] [])) rfl (hb hby d1_14)
      refine own_by (B := T5.setTop (mkF m 17 #[.val (.int ua), .val .null] [(.ref a_BY_CODE)])) st5 ?_
      refine own_by (B := T5.setTop (mkF m 18 #[.val (.int ua), .val .null] [(.int ua), (.ref a_BY_CODE)])) (fun _ k => XS.iloadN X5.here hx rfl (hb hby d1_17) rfl  k) ?_
      obtain ⟨cl6, Ar6, qq6, Sz6, Nn6, Hh6, Gg6⟩ := id (V_BY_CODE)
      have hin6 : ¬ (ua < 0 ∨ cl6.slots.size ≤ (ua).toNatClampNeg) := inb_of Sz6 ⟨hc1, hc4⟩
      refine own_by (B := T5.setTop (mkF m 19 #[.val (.int ua), .val .null] [(own_at (ua).toNatClampNeg a_CONNECT a_CONNACK a_PUBLISH a_PUBACK a_PUBREC a_PUBREL a_PUBCOMP a_SUBSCRIBE a_SUBACK a_UNSUBSCRIBE a_UNSUBACK a_PINGREQ a_PINGRESP a_DISCONNECT a_AUTH)])) (fun t k => X5.aaload hx (j := ua) (v := (own_at (ua).toNatClampNeg a_CONNECT a_CONNACK a_PUBLISH a_PUBACK a_PUBREC a_PUBREL a_PUBCOMP a_SUBSCRIBE a_SUBACK a_UNSUBSCRIBE a_UNSUBACK a_PINGREQ a_PINGRESP a_DISCONNECT a_AUTH)) (by rw [e5]; exact Ar6.1) (State.isArrayOf_alike hZ.alike Ar6.2.1) rfl Ar6.2.2 hin6 (Hh6.at hin6 rfl) (g := (mkF m 18 #[.val (.int ua), .val .null] [(.int ua), (.ref a_BY_CODE)])) rfl rfl (hb hby d1_18) t k) ?_
      refine own_by (B := T5.setTop (mkF m 20 #[.val (.int ua), .val (own_at (ua).toNatClampNeg a_CONNECT a_CONNACK a_PUBLISH a_PUBACK a_PUBREC a_PUBREL a_PUBCOMP a_SUBSCRIBE a_SUBACK a_UNSUBSCRIBE a_UNSUBACK a_PINGREQ a_PINGRESP a_DISCONNECT a_AUTH)] [])) (fun _ k => XS.astoreN X5.here hx rfl (hb hby d1_19) rfl (own_at_ref _ a_CONNECT a_CONNACK a_PUBLISH a_PUBACK a_PUBREC a_PUBREL a_PUBCOMP a_SUBSCRIBE a_SUBACK a_UNSUBSCRIBE a_UNSUBACK a_PINGREQ a_PINGRESP a_DISCONNECT a_AUTH) (l' := #[.val (.int ua), .val (own_at (ua).toNatClampNeg a_CONNECT a_CONNACK a_PUBLISH a_PUBACK a_PUBREC a_PUBREL a_PUBCOMP a_SUBSCRIBE a_SUBACK a_UNSUBSCRIBE a_UNSUBACK a_PINGREQ a_PINGRESP a_DISCONNECT a_AUTH)]) ((by have q : ∀ own_v : Value, own_v.isRef = true → storeLocals #[.val (.int ua), .val .null] 1 own_v = some #[.val (.int ua), .val own_v] := (fun own_v hv => by rcases XT.refc hv with rfl | ⟨r, rfl⟩ <;> rfl); exact q _ (own_at_ref _ a_CONNECT a_CONNACK a_PUBLISH a_PUBACK a_PUBREC a_PUBREL a_PUBCOMP a_SUBSCRIBE a_SUBACK a_UNSUBSCRIBE a_UNSUBACK a_PINGREQ a_PINGRESP a_DISCONNECT a_AUTH))) k) ?_
      refine own_by (B := T5.setTop (mkF m 21 #[.val (.int ua), .val (own_at (ua).toNatClampNeg a_CONNECT a_CONNACK a_PUBLISH a_PUBACK a_PUBREC a_PUBREL a_PUBCOMP a_SUBSCRIBE a_SUBACK a_UNSUBSCRIBE a_UNSUBACK a_PINGREQ a_PINGRESP a_DISCONNECT a_AUTH)] [(own_at (ua).toNatClampNeg a_CONNECT a_CONNACK a_PUBLISH a_PUBACK a_PUBREC a_PUBREL a_PUBCOMP a_SUBSCRIBE a_SUBACK a_UNSUBSCRIBE a_UNSUBACK a_PINGREQ a_PINGRESP a_DISCONNECT a_AUTH)])) (fun _ k => XS.aloadN X5.here hx rfl (hb hby d1_20) rfl (own_at_ref _ a_CONNECT a_CONNACK a_PUBLISH a_PUBACK a_PUBREC a_PUBREL a_PUBCOMP a_SUBSCRIBE a_SUBACK a_UNSUBSCRIBE a_UNSUBACK a_PINGREQ a_PINGRESP a_DISCONNECT a_AUTH)  k) ?_
      exact own_retA X5 hx hrt rfl (own_at_ref _ a_CONNECT a_CONNACK a_PUBLISH a_PUBACK a_PUBREC a_PUBREL a_PUBCOMP a_SUBSCRIBE a_SUBACK a_UNSUBSCRIBE a_UNSUBACK a_PINGREQ a_PINGRESP a_DISCONNECT a_AUTH) hlk (hb hby d1_21) (by decide) (by decide) ⟨(by unfold own_f1; rw [if_neg hc1, if_pos hc4]), N0, e5⟩
    · refine own_by (B := T2.setTop (mkF m 20 #[.val (.int ua), .val .null] [])) (fun _ k => XS.icmpYes X2.here hx rfl (pc0 := 11) (pc' := 20) rfl (hb hby d1_11) rfl (XT.ii_ge_t hc4) (by decide) (by decide) k) ?_
      refine own_by (B := T2.setTop (mkF m 21 #[.val (.int ua), .val .null] [.null])) (fun _ k => XS.aloadN X2.here hx rfl (hb hby d1_20) rfl rfl  k) ?_
      exact own_retA X2 hx hrt rfl rfl hlk (hb hby d1_21) (by decide) (by decide) ⟨(by unfold own_f1; rw [if_neg hc1, if_neg hc4]), N0, e2⟩

def own_f2 (ua : Int32) (a_CONNECT : Addr) (a_CONNACK : Addr) (a_PUBLISH : Addr) (a_PUBACK : Addr) (a_PUBREC : Addr) (a_PUBREL : Addr) (a_PUBCOMP : Addr) (a_SUBSCRIBE : Addr) (a_SUBACK : Addr) (a_UNSUBSCRIBE : Addr) (a_UNSUBACK : Addr) (a_PINGREQ : Addr) (a_PINGRESP : Addr) (a_DISCONNECT : Addr) (a_AUTH : Addr) : Value := if ua = (1 : Int32) then (.ref a_CONNECT) else if ua = (2 : Int32) then (.ref a_CONNACK) else if ua = (3 : Int32) then (.ref a_PUBLISH) else if ua = (4 : Int32) then (.ref a_PUBACK) else if ua = (5 : Int32) then (.ref a_PUBREC) else if ua = (6 : Int32) then (.ref a_PUBREL) else if ua = (7 : Int32) then (.ref a_PUBCOMP) else if ua = (8 : Int32) then (.ref a_SUBSCRIBE) else if ua = (9 : Int32) then (.ref a_SUBACK) else if ua = (10 : Int32) then (.ref a_UNSUBSCRIBE) else if ua = (11 : Int32) then (.ref a_UNSUBACK) else if ua = (12 : Int32) then (.ref a_PINGREQ) else if ua = (13 : Int32) then (.ref a_PINGRESP) else if ua = (14 : Int32) then (.ref a_DISCONNECT) else if ua = (15 : Int32) then (.ref a_AUTH) else .null

theorem d2_0 : decode method_2_code 0 = .ok (.iload_n 0, 1) := by decide +kernel
theorem d2_1 : decode method_2_code 1 = .ok (.iconst 1, 1) := by decide +kernel
theorem d2_2 : decode method_2_code 2 = .ok (.if_icmp .ne 7, 3) := by decide +kernel
theorem d2_5 : decode method_2_code 5 = .ok (.getstatic 7, 3) := by decide +kernel
theorem d2_8 : decode method_2_code 8 = .ok (.areturn, 1) := by decide +kernel
theorem d2_9 : decode method_2_code 9 = .ok (.iload_n 0, 1) := by decide +kernel
theorem d2_10 : decode method_2_code 10 = .ok (.iconst 2, 1) := by decide +kernel
theorem d2_11 : decode method_2_code 11 = .ok (.if_icmp .ne 7, 3) := by decide +kernel
theorem d2_14 : decode method_2_code 14 = .ok (.getstatic 13, 3) := by decide +kernel
theorem d2_17 : decode method_2_code 17 = .ok (.areturn, 1) := by decide +kernel
theorem d2_18 : decode method_2_code 18 = .ok (.iload_n 0, 1) := by decide +kernel
theorem d2_19 : decode method_2_code 19 = .ok (.iconst 3, 1) := by decide +kernel
theorem d2_20 : decode method_2_code 20 = .ok (.if_icmp .ne 7, 3) := by decide +kernel
theorem d2_23 : decode method_2_code 23 = .ok (.getstatic 16, 3) := by decide +kernel
theorem d2_26 : decode method_2_code 26 = .ok (.areturn, 1) := by decide +kernel
theorem d2_27 : decode method_2_code 27 = .ok (.iload_n 0, 1) := by decide +kernel
theorem d2_28 : decode method_2_code 28 = .ok (.iconst 4, 1) := by decide +kernel
theorem d2_29 : decode method_2_code 29 = .ok (.if_icmp .ne 7, 3) := by decide +kernel
theorem d2_32 : decode method_2_code 32 = .ok (.getstatic 19, 3) := by decide +kernel
theorem d2_35 : decode method_2_code 35 = .ok (.areturn, 1) := by decide +kernel
theorem d2_36 : decode method_2_code 36 = .ok (.iload_n 0, 1) := by decide +kernel
theorem d2_37 : decode method_2_code 37 = .ok (.iconst 5, 1) := by decide +kernel
theorem d2_38 : decode method_2_code 38 = .ok (.if_icmp .ne 7, 3) := by decide +kernel
theorem d2_41 : decode method_2_code 41 = .ok (.getstatic 22, 3) := by decide +kernel
theorem d2_44 : decode method_2_code 44 = .ok (.areturn, 1) := by decide +kernel
theorem d2_45 : decode method_2_code 45 = .ok (.iload_n 0, 1) := by decide +kernel
theorem d2_46 : decode method_2_code 46 = .ok (.bipush 6, 2) := by decide +kernel
theorem d2_48 : decode method_2_code 48 = .ok (.if_icmp .ne 7, 3) := by decide +kernel
theorem d2_51 : decode method_2_code 51 = .ok (.getstatic 25, 3) := by decide +kernel
theorem d2_54 : decode method_2_code 54 = .ok (.areturn, 1) := by decide +kernel
theorem d2_55 : decode method_2_code 55 = .ok (.iload_n 0, 1) := by decide +kernel
theorem d2_56 : decode method_2_code 56 = .ok (.bipush 7, 2) := by decide +kernel
theorem d2_58 : decode method_2_code 58 = .ok (.if_icmp .ne 7, 3) := by decide +kernel
theorem d2_61 : decode method_2_code 61 = .ok (.getstatic 28, 3) := by decide +kernel
theorem d2_64 : decode method_2_code 64 = .ok (.areturn, 1) := by decide +kernel
theorem d2_65 : decode method_2_code 65 = .ok (.iload_n 0, 1) := by decide +kernel
theorem d2_66 : decode method_2_code 66 = .ok (.bipush 8, 2) := by decide +kernel
theorem d2_68 : decode method_2_code 68 = .ok (.if_icmp .ne 7, 3) := by decide +kernel
theorem d2_71 : decode method_2_code 71 = .ok (.getstatic 31, 3) := by decide +kernel
theorem d2_74 : decode method_2_code 74 = .ok (.areturn, 1) := by decide +kernel
theorem d2_75 : decode method_2_code 75 = .ok (.iload_n 0, 1) := by decide +kernel
theorem d2_76 : decode method_2_code 76 = .ok (.bipush 9, 2) := by decide +kernel
theorem d2_78 : decode method_2_code 78 = .ok (.if_icmp .ne 7, 3) := by decide +kernel
theorem d2_81 : decode method_2_code 81 = .ok (.getstatic 34, 3) := by decide +kernel
theorem d2_84 : decode method_2_code 84 = .ok (.areturn, 1) := by decide +kernel
theorem d2_85 : decode method_2_code 85 = .ok (.iload_n 0, 1) := by decide +kernel
theorem d2_86 : decode method_2_code 86 = .ok (.bipush 10, 2) := by decide +kernel
theorem d2_88 : decode method_2_code 88 = .ok (.if_icmp .ne 7, 3) := by decide +kernel
theorem d2_91 : decode method_2_code 91 = .ok (.getstatic 37, 3) := by decide +kernel
theorem d2_94 : decode method_2_code 94 = .ok (.areturn, 1) := by decide +kernel
theorem d2_95 : decode method_2_code 95 = .ok (.iload_n 0, 1) := by decide +kernel
theorem d2_96 : decode method_2_code 96 = .ok (.bipush 11, 2) := by decide +kernel
theorem d2_98 : decode method_2_code 98 = .ok (.if_icmp .ne 7, 3) := by decide +kernel
theorem d2_101 : decode method_2_code 101 = .ok (.getstatic 40, 3) := by decide +kernel
theorem d2_104 : decode method_2_code 104 = .ok (.areturn, 1) := by decide +kernel
theorem d2_105 : decode method_2_code 105 = .ok (.iload_n 0, 1) := by decide +kernel
theorem d2_106 : decode method_2_code 106 = .ok (.bipush 12, 2) := by decide +kernel
theorem d2_108 : decode method_2_code 108 = .ok (.if_icmp .ne 7, 3) := by decide +kernel
theorem d2_111 : decode method_2_code 111 = .ok (.getstatic 43, 3) := by decide +kernel
theorem d2_114 : decode method_2_code 114 = .ok (.areturn, 1) := by decide +kernel
theorem d2_115 : decode method_2_code 115 = .ok (.iload_n 0, 1) := by decide +kernel
theorem d2_116 : decode method_2_code 116 = .ok (.bipush 13, 2) := by decide +kernel
theorem d2_118 : decode method_2_code 118 = .ok (.if_icmp .ne 7, 3) := by decide +kernel
theorem d2_121 : decode method_2_code 121 = .ok (.getstatic 46, 3) := by decide +kernel
theorem d2_124 : decode method_2_code 124 = .ok (.areturn, 1) := by decide +kernel
theorem d2_125 : decode method_2_code 125 = .ok (.iload_n 0, 1) := by decide +kernel
theorem d2_126 : decode method_2_code 126 = .ok (.bipush 14, 2) := by decide +kernel
theorem d2_128 : decode method_2_code 128 = .ok (.if_icmp .ne 7, 3) := by decide +kernel
theorem d2_131 : decode method_2_code 131 = .ok (.getstatic 49, 3) := by decide +kernel
theorem d2_134 : decode method_2_code 134 = .ok (.areturn, 1) := by decide +kernel
theorem d2_135 : decode method_2_code 135 = .ok (.iload_n 0, 1) := by decide +kernel
theorem d2_136 : decode method_2_code 136 = .ok (.bipush 15, 2) := by decide +kernel
theorem d2_138 : decode method_2_code 138 = .ok (.if_icmp .ne 7, 3) := by decide +kernel
theorem d2_141 : decode method_2_code 141 = .ok (.getstatic 52, 3) := by decide +kernel
theorem d2_144 : decode method_2_code 144 = .ok (.areturn, 1) := by decide +kernel
theorem d2_145 : decode method_2_code 145 = .ok (.aconst_null, 1) := by decide +kernel
theorem d2_146 : decode method_2_code 146 = .ok (.areturn, 1) := by decide +kernel
theorem pn_rm2 : plainFor (⟨"com/example/mqtt_packet_codec/mqttpacketcodec/PacketTypeFromCodePinLaw", "expected", "(I)Lcom/example/mqtt_packet_codec/mqttpacketcodec/PacketType;"⟩ : MethodName) = true := by first | exact plainFor_of_name (by first | (simp [plainName, overriddenIn]; done) | decide +kernel) | exact Jvm.Free.JP.mathPlain rfl (by decide +kernel) | decide +kernel
theorem ef_rm2 (m : MethodId) (x0 : Int32) : entryFrame m #[(.int x0)] 1 = mkF m 0 #[.val (.int x0)] [] := by first | (simp [entryFrame, mkF, argsToLocals, Value.category]; done) | rfl
set_option maxRecDepth 65536 in
set_option maxHeartbeats 40000000 in
theorem rm2 (l : Launch) (Z : State) (a0 : Array Value) (hw : ∀ d ∈ tables_1, d.before a0 Z = true) (ws : List Jvm.Cond) (a_PUBLISH a_DISCONNECT a_CONNECT a_SUBSCRIBE a_PUBACK a_PINGRESP a_PUBREL a_AUTH a_PUBCOMP a_PINGREQ a_PUBREC a_UNSUBACK a_CONNACK a_SUBACK a_UNSUBSCRIBE a_BY_CODE : Addr) (k_BY_CODE : ClassId) (ua : Int32) (h0 : Heap) (n0 : Nat) (Z0 : n0 ≤ h0.size) (HW : own_W Z h0 a_PUBLISH a_DISCONNECT a_CONNECT a_SUBSCRIBE a_PUBACK a_PINGRESP a_PUBREL a_AUTH a_PUBCOMP a_PINGREQ a_PUBREC a_UNSUBACK a_CONNACK a_SUBACK a_UNSUBSCRIBE a_BY_CODE k_BY_CODE) :
    MetFree l (⟨"com/example/mqtt_packet_codec/mqttpacketcodec/PacketTypeFromCodePinLaw", "expected", "(I)Lcom/example/mqtt_packet_codec/mqttpacketcodec/PacketType;"⟩ : MethodName) (head1 (Jvm.Cond.code (⟨"com/example/mqtt_packet_codec/mqttpacketcodec/PacketTypeFromCodePinLaw", "expected", "(I)Lcom/example/mqtt_packet_codec/mqttpacketcodec/PacketType;"⟩ : MethodName) method_2_code 1 (some (.object "com/example/mqtt_packet_codec/mqttpacketcodec/PacketType")) :: ws) ({ frames := 0, cells := 0, slots := 0, locals := 0 } : Room)) (fun a U => a = #[(.int ua)] ∧ Z.Warmed39 U.vm ∧ U.heap = h0) (fun _ _ _ _ _ => True) (fun _ U o U' => ∃ v L, o = .returned v ∧ (own_P (own_f2 ua a_CONNECT a_CONNACK a_PUBLISH a_PUBACK a_PUBREC a_PUBREL a_PUBCOMP a_SUBSCRIBE a_SUBACK a_UNSUBSCRIBE a_UNSUBACK a_PINGREQ a_PINGRESP a_DISCONNECT a_AUTH) h0 n0) v U'.heap L ∧ FrameEnd U o U' L 0 0) := by
  refine MetFree.of_bodySF pn_rm2 hisR ?_
  intro p e s m args below meth c s₁ Bd hml0 hP hK
  obtain ⟨rfl, hZ, hh⟩ := hP
  have hx := Bd.exec
  have hby := Bd.bytes
  have hml : c.maxLocals = 1 := hml0
  have hown : s.vm.findClass "com/example/mqtt_packet_codec/mqttpacketcodec/PacketTypeFromCodePinLaw" = some m.cls := findClass_of_methodNamed Bd.named
  have hnm := (name_of_methodNamed Bd.named Bd.method).1
  have hrt := Bd.returns
  have hlk := Bd.notSynchronized
  have X0 : Stand p l e ({ frames := 0, cells := 0, slots := 0, locals := 0 } : Room) s m #[(.int ua)] below meth c s₁ [] 0 0 := Stand.of_body Bd
  have e0 : s₁.heap = h0 := by rw [← hh, Bd.state]; rfl
  have N0 := Fr.nil n0
  obtain ⟨S_PUBLISH, E_PUBLISH, S_DISCONNECT, E_DISCONNECT, S_CONNECT, E_CONNECT, S_SUBSCRIBE, E_SUBSCRIBE, S_PUBACK, E_PUBACK, S_PINGRESP, E_PINGRESP, S_PUBREL, E_PUBREL, S_AUTH, E_AUTH, S_PUBCOMP, E_PUBCOMP, S_PINGREQ, E_PINGREQ, S_PUBREC, E_PUBREC, S_UNSUBACK, E_UNSUBACK, S_CONNACK, E_CONNACK, S_SUBACK, E_SUBACK, S_UNSUBSCRIBE, E_UNSUBSCRIBE, S_BY_CODE, V_BY_CODE⟩ := HW
  refine own_done (B := s₁.setTop (mkF m 0 #[.val (.int ua)] [])) (fun t k => castTop (ef_rm2 m ua) k) ?_
  refine own_by (B := s₁.setTop (mkF m 1 #[.val (.int ua)] [(.int ua)])) (fun _ k => XS.iloadN X0.here hx rfl (hb hby d2_0) rfl  k) ?_
  refine own_by (B := s₁.setTop (mkF m 2 #[.val (.int ua)] [(.int (1 : Int32)), (.int ua)])) (fun _ k => XS.iconst X0.here hx rfl (hb hby d2_1) k) ?_
  by_cases hc1 : ua = (1 : Int32)
  · refine own_by (B := s₁.setTop (mkF m 5 #[.val (.int ua)] [])) (fun _ k => XS.icmpNo X0.here hx rfl (hb hby d2_2) rfl (XT.ii_ne_f hc1) k) ?_
    obtain ⟨T2, X2, e2, st2⟩ := getS2 X0 hx hZ hown (host := "") (Or.inl (hw _ (List.mem_of_getElem? (i := 15) rfl))) Via.refl e0 S_CONNECT (g := (mkF m 5 #[.val (.int ua)] [])) rfl (hb hby d2_5)
    refine own_by (B := T2.setTop (mkF m 8 #[.val (.int ua)] [(.ref a_CONNECT)])) st2 ?_
    exact own_retA X2 hx hrt rfl rfl hlk (hb hby d2_8) (by decide) (by decide) ⟨(by unfold own_f2; rw [if_pos hc1]), N0, e2⟩
  · refine own_by (B := s₁.setTop (mkF m 9 #[.val (.int ua)] [])) (fun _ k => XS.icmpYes X0.here hx rfl (pc0 := 2) (pc' := 9) rfl (hb hby d2_2) rfl (XT.ii_ne_t hc1) (by decide) (by decide) k) ?_
    refine own_by (B := s₁.setTop (mkF m 10 #[.val (.int ua)] [(.int ua)])) (fun _ k => XS.iloadN X0.here hx rfl (hb hby d2_9) rfl  k) ?_
    refine own_by (B := s₁.setTop (mkF m 11 #[.val (.int ua)] [(.int (2 : Int32)), (.int ua)])) (fun _ k => XS.iconst X0.here hx rfl (hb hby d2_10) k) ?_
    by_cases hc3 : ua = (2 : Int32)
    · refine own_by (B := s₁.setTop (mkF m 14 #[.val (.int ua)] [])) (fun _ k => XS.icmpNo X0.here hx rfl (hb hby d2_11) rfl (XT.ii_ne_f hc3) k) ?_
      obtain ⟨T4, X4, e4, st4⟩ := getS2 X0 hx hZ hown (host := "") (Or.inl (hw _ (List.mem_of_getElem? (i := 35) rfl))) Via.refl e0 S_CONNACK (g := (mkF m 14 #[.val (.int ua)] [])) rfl (hb hby d2_14)
      refine own_by (B := T4.setTop (mkF m 17 #[.val (.int ua)] [(.ref a_CONNACK)])) st4 ?_
      exact own_retA X4 hx hrt rfl rfl hlk (hb hby d2_17) (by decide) (by decide) ⟨(by unfold own_f2; rw [if_neg hc1, if_pos hc3]), N0, e4⟩
    · refine own_by (B := s₁.setTop (mkF m 18 #[.val (.int ua)] [])) (fun _ k => XS.icmpYes X0.here hx rfl (pc0 := 11) (pc' := 18) rfl (hb hby d2_11) rfl (XT.ii_ne_t hc3) (by decide) (by decide) k) ?_
      refine own_by (B := s₁.setTop (mkF m 19 #[.val (.int ua)] [(.int ua)])) (fun _ k => XS.iloadN X0.here hx rfl (hb hby d2_18) rfl  k) ?_
      refine own_by (B := s₁.setTop (mkF m 20 #[.val (.int ua)] [(.int (3 : Int32)), (.int ua)])) (fun _ k => XS.iconst X0.here hx rfl (hb hby d2_19) k) ?_
      by_cases hc5 : ua = (3 : Int32)
      · refine own_by (B := s₁.setTop (mkF m 23 #[.val (.int ua)] [])) (fun _ k => XS.icmpNo X0.here hx rfl (hb hby d2_20) rfl (XT.ii_ne_f hc5) k) ?_
        obtain ⟨T6, X6, e6, st6⟩ := getS2 X0 hx hZ hown (host := "") (Or.inl (hw _ (List.mem_of_getElem? (i := 11) rfl))) Via.refl e0 S_PUBLISH (g := (mkF m 23 #[.val (.int ua)] [])) rfl (hb hby d2_23)
        refine own_by (B := T6.setTop (mkF m 26 #[.val (.int ua)] [(.ref a_PUBLISH)])) st6 ?_
        exact own_retA X6 hx hrt rfl rfl hlk (hb hby d2_26) (by decide) (by decide) ⟨(by unfold own_f2; rw [if_neg hc1, if_neg hc3, if_pos hc5]), N0, e6⟩
      · refine own_by (B := s₁.setTop (mkF m 27 #[.val (.int ua)] [])) (fun _ k => XS.icmpYes X0.here hx rfl (pc0 := 20) (pc' := 27) rfl (hb hby d2_20) rfl (XT.ii_ne_t hc5) (by decide) (by decide) k) ?_
        refine own_by (B := s₁.setTop (mkF m 28 #[.val (.int ua)] [(.int ua)])) (fun _ k => XS.iloadN X0.here hx rfl (hb hby d2_27) rfl  k) ?_
        refine own_by (B := s₁.setTop (mkF m 29 #[.val (.int ua)] [(.int (4 : Int32)), (.int ua)])) (fun _ k => XS.iconst X0.here hx rfl (hb hby d2_28) k) ?_
        by_cases hc7 : ua = (4 : Int32)
        · refine own_by (B := s₁.setTop (mkF m 32 #[.val (.int ua)] [])) (fun _ k => XS.icmpNo X0.here hx rfl (hb hby d2_29) rfl (XT.ii_ne_f hc7) k) ?_
          obtain ⟨T8, X8, e8, st8⟩ := getS2 X0 hx hZ hown (host := "") (Or.inl (hw _ (List.mem_of_getElem? (i := 19) rfl))) Via.refl e0 S_PUBACK (g := (mkF m 32 #[.val (.int ua)] [])) rfl (hb hby d2_32)
          refine own_by (B := T8.setTop (mkF m 35 #[.val (.int ua)] [(.ref a_PUBACK)])) st8 ?_
          exact own_retA X8 hx hrt rfl rfl hlk (hb hby d2_35) (by decide) (by decide) ⟨(by unfold own_f2; rw [if_neg hc1, if_neg hc3, if_neg hc5, if_pos hc7]), N0, e8⟩
        · refine own_by (B := s₁.setTop (mkF m 36 #[.val (.int ua)] [])) (fun _ k => XS.icmpYes X0.here hx rfl (pc0 := 29) (pc' := 36) rfl (hb hby d2_29) rfl (XT.ii_ne_t hc7) (by decide) (by decide) k) ?_
          refine own_by (B := s₁.setTop (mkF m 37 #[.val (.int ua)] [(.int ua)])) (fun _ k => XS.iloadN X0.here hx rfl (hb hby d2_36) rfl  k) ?_
          refine own_by (B := s₁.setTop (mkF m 38 #[.val (.int ua)] [(.int (5 : Int32)), (.int ua)])) (fun _ k => XS.iconst X0.here hx rfl (hb hby d2_37) k) ?_
          by_cases hc9 : ua = (5 : Int32)
          · refine own_by (B := s₁.setTop (mkF m 41 #[.val (.int ua)] [])) (fun _ k => XS.icmpNo X0.here hx rfl (hb hby d2_38) rfl (XT.ii_ne_f hc9) k) ?_
            obtain ⟨T10, X10, e10, st10⟩ := getS2 X0 hx hZ hown (host := "") (Or.inl (hw _ (List.mem_of_getElem? (i := 31) rfl))) Via.refl e0 S_PUBREC (g := (mkF m 41 #[.val (.int ua)] [])) rfl (hb hby d2_41)
            refine own_by (B := T10.setTop (mkF m 44 #[.val (.int ua)] [(.ref a_PUBREC)])) st10 ?_
            exact own_retA X10 hx hrt rfl rfl hlk (hb hby d2_44) (by decide) (by decide) ⟨(by unfold own_f2; rw [if_neg hc1, if_neg hc3, if_neg hc5, if_neg hc7, if_pos hc9]), N0, e10⟩
          · refine own_by (B := s₁.setTop (mkF m 45 #[.val (.int ua)] [])) (fun _ k => XS.icmpYes X0.here hx rfl (pc0 := 38) (pc' := 45) rfl (hb hby d2_38) rfl (XT.ii_ne_t hc9) (by decide) (by decide) k) ?_
            refine own_by (B := s₁.setTop (mkF m 46 #[.val (.int ua)] [(.int ua)])) (fun _ k => XS.iloadN X0.here hx rfl (hb hby d2_45) rfl  k) ?_
            refine own_by (B := s₁.setTop (mkF m 48 #[.val (.int ua)] [(.int (6 : Int32)), (.int ua)])) (fun _ k => XS.bipush X0.here hx rfl (hb hby d2_46) k) ?_
            by_cases hc11 : ua = (6 : Int32)
            · refine own_by (B := s₁.setTop (mkF m 51 #[.val (.int ua)] [])) (fun _ k => XS.icmpNo X0.here hx rfl (hb hby d2_48) rfl (XT.ii_ne_f hc11) k) ?_
              obtain ⟨T12, X12, e12, st12⟩ := getS2 X0 hx hZ hown (host := "") (Or.inl (hw _ (List.mem_of_getElem? (i := 23) rfl))) Via.refl e0 S_PUBREL (g := (mkF m 51 #[.val (.int ua)] [])) rfl (hb hby d2_51)
              refine own_by (B := T12.setTop (mkF m 54 #[.val (.int ua)] [(.ref a_PUBREL)])) st12 ?_
              exact own_retA X12 hx hrt rfl rfl hlk (hb hby d2_54) (by decide) (by decide) ⟨(by unfold own_f2; rw [if_neg hc1, if_neg hc3, if_neg hc5, if_neg hc7, if_neg hc9, if_pos hc11]), N0, e12⟩
            · refine own_by (B := s₁.setTop (mkF m 55 #[.val (.int ua)] [])) (fun _ k => XS.icmpYes X0.here hx rfl (pc0 := 48) (pc' := 55) rfl (hb hby d2_48) rfl (XT.ii_ne_t hc11) (by decide) (by decide) k) ?_
              refine own_by (B := s₁.setTop (mkF m 56 #[.val (.int ua)] [(.int ua)])) (fun _ k => XS.iloadN X0.here hx rfl (hb hby d2_55) rfl  k) ?_
              refine own_by (B := s₁.setTop (mkF m 58 #[.val (.int ua)] [(.int (7 : Int32)), (.int ua)])) (fun _ k => XS.bipush X0.here hx rfl (hb hby d2_56) k) ?_
              by_cases hc13 : ua = (7 : Int32)
              · refine own_by (B := s₁.setTop (mkF m 61 #[.val (.int ua)] [])) (fun _ k => XS.icmpNo X0.here hx rfl (hb hby d2_58) rfl (XT.ii_ne_f hc13) k) ?_
                obtain ⟨T14, X14, e14, st14⟩ := getS2 X0 hx hZ hown (host := "") (Or.inl (hw _ (List.mem_of_getElem? (i := 27) rfl))) Via.refl e0 S_PUBCOMP (g := (mkF m 61 #[.val (.int ua)] [])) rfl (hb hby d2_61)
                refine own_by (B := T14.setTop (mkF m 64 #[.val (.int ua)] [(.ref a_PUBCOMP)])) st14 ?_
                exact own_retA X14 hx hrt rfl rfl hlk (hb hby d2_64) (by decide) (by decide) ⟨(by unfold own_f2; rw [if_neg hc1, if_neg hc3, if_neg hc5, if_neg hc7, if_neg hc9, if_neg hc11, if_pos hc13]), N0, e14⟩
              · refine own_by (B := s₁.setTop (mkF m 65 #[.val (.int ua)] [])) (fun _ k => XS.icmpYes X0.here hx rfl (pc0 := 58) (pc' := 65) rfl (hb hby d2_58) rfl (XT.ii_ne_t hc13) (by decide) (by decide) k) ?_
                refine own_by (B := s₁.setTop (mkF m 66 #[.val (.int ua)] [(.int ua)])) (fun _ k => XS.iloadN X0.here hx rfl (hb hby d2_65) rfl  k) ?_
                refine own_by (B := s₁.setTop (mkF m 68 #[.val (.int ua)] [(.int (8 : Int32)), (.int ua)])) (fun _ k => XS.bipush X0.here hx rfl (hb hby d2_66) k) ?_
                by_cases hc15 : ua = (8 : Int32)
                · refine own_by (B := s₁.setTop (mkF m 71 #[.val (.int ua)] [])) (fun _ k => XS.icmpNo X0.here hx rfl (hb hby d2_68) rfl (XT.ii_ne_f hc15) k) ?_
                  obtain ⟨T16, X16, e16, st16⟩ := getS2 X0 hx hZ hown (host := "") (Or.inl (hw _ (List.mem_of_getElem? (i := 17) rfl))) Via.refl e0 S_SUBSCRIBE (g := (mkF m 71 #[.val (.int ua)] [])) rfl (hb hby d2_71)
                  refine own_by (B := T16.setTop (mkF m 74 #[.val (.int ua)] [(.ref a_SUBSCRIBE)])) st16 ?_
                  exact own_retA X16 hx hrt rfl rfl hlk (hb hby d2_74) (by decide) (by decide) ⟨(by unfold own_f2; rw [if_neg hc1, if_neg hc3, if_neg hc5, if_neg hc7, if_neg hc9, if_neg hc11, if_neg hc13, if_pos hc15]), N0, e16⟩
                · refine own_by (B := s₁.setTop (mkF m 75 #[.val (.int ua)] [])) (fun _ k => XS.icmpYes X0.here hx rfl (pc0 := 68) (pc' := 75) rfl (hb hby d2_68) rfl (XT.ii_ne_t hc15) (by decide) (by decide) k) ?_
                  refine own_by (B := s₁.setTop (mkF m 76 #[.val (.int ua)] [(.int ua)])) (fun _ k => XS.iloadN X0.here hx rfl (hb hby d2_75) rfl  k) ?_
                  refine own_by (B := s₁.setTop (mkF m 78 #[.val (.int ua)] [(.int (9 : Int32)), (.int ua)])) (fun _ k => XS.bipush X0.here hx rfl (hb hby d2_76) k) ?_
                  by_cases hc17 : ua = (9 : Int32)
                  · refine own_by (B := s₁.setTop (mkF m 81 #[.val (.int ua)] [])) (fun _ k => XS.icmpNo X0.here hx rfl (hb hby d2_78) rfl (XT.ii_ne_f hc17) k) ?_
                    obtain ⟨T18, X18, e18, st18⟩ := getS2 X0 hx hZ hown (host := "") (Or.inl (hw _ (List.mem_of_getElem? (i := 37) rfl))) Via.refl e0 S_SUBACK (g := (mkF m 81 #[.val (.int ua)] [])) rfl (hb hby d2_81)
                    refine own_by (B := T18.setTop (mkF m 84 #[.val (.int ua)] [(.ref a_SUBACK)])) st18 ?_
                    exact own_retA X18 hx hrt rfl rfl hlk (hb hby d2_84) (by decide) (by decide) ⟨(by unfold own_f2; rw [if_neg hc1, if_neg hc3, if_neg hc5, if_neg hc7, if_neg hc9, if_neg hc11, if_neg hc13, if_neg hc15, if_pos hc17]), N0, e18⟩
                  · refine own_by (B := s₁.setTop (mkF m 85 #[.val (.int ua)] [])) (fun _ k => XS.icmpYes X0.here hx rfl (pc0 := 78) (pc' := 85) rfl (hb hby d2_78) rfl (XT.ii_ne_t hc17) (by decide) (by decide) k) ?_
                    refine own_by (B := s₁.setTop (mkF m 86 #[.val (.int ua)] [(.int ua)])) (fun _ k => XS.iloadN X0.here hx rfl (hb hby d2_85) rfl  k) ?_
                    refine own_by (B := s₁.setTop (mkF m 88 #[.val (.int ua)] [(.int (10 : Int32)), (.int ua)])) (fun _ k => XS.bipush X0.here hx rfl (hb hby d2_86) k) ?_
                    by_cases hc19 : ua = (10 : Int32)
                    · refine own_by (B := s₁.setTop (mkF m 91 #[.val (.int ua)] [])) (fun _ k => XS.icmpNo X0.here hx rfl (hb hby d2_88) rfl (XT.ii_ne_f hc19) k) ?_
                      obtain ⟨T20, X20, e20, st20⟩ := getS2 X0 hx hZ hown (host := "") (Or.inl (hw _ (List.mem_of_getElem? (i := 39) rfl))) Via.refl e0 S_UNSUBSCRIBE (g := (mkF m 91 #[.val (.int ua)] [])) rfl (hb hby d2_91)
                      refine own_by (B := T20.setTop (mkF m 94 #[.val (.int ua)] [(.ref a_UNSUBSCRIBE)])) st20 ?_
                      exact own_retA X20 hx hrt rfl rfl hlk (hb hby d2_94) (by decide) (by decide) ⟨(by unfold own_f2; rw [if_neg hc1, if_neg hc3, if_neg hc5, if_neg hc7, if_neg hc9, if_neg hc11, if_neg hc13, if_neg hc15, if_neg hc17, if_pos hc19]), N0, e20⟩
                    · refine own_by (B := s₁.setTop (mkF m 95 #[.val (.int ua)] [])) (fun _ k => XS.icmpYes X0.here hx rfl (pc0 := 88) (pc' := 95) rfl (hb hby d2_88) rfl (XT.ii_ne_t hc19) (by decide) (by decide) k) ?_
                      refine own_by (B := s₁.setTop (mkF m 96 #[.val (.int ua)] [(.int ua)])) (fun _ k => XS.iloadN X0.here hx rfl (hb hby d2_95) rfl  k) ?_
                      refine own_by (B := s₁.setTop (mkF m 98 #[.val (.int ua)] [(.int (11 : Int32)), (.int ua)])) (fun _ k => XS.bipush X0.here hx rfl (hb hby d2_96) k) ?_
                      by_cases hc21 : ua = (11 : Int32)
                      · refine own_by (B := s₁.setTop (mkF m 101 #[.val (.int ua)] [])) (fun _ k => XS.icmpNo X0.here hx rfl (hb hby d2_98) rfl (XT.ii_ne_f hc21) k) ?_
                        obtain ⟨T22, X22, e22, st22⟩ := getS2 X0 hx hZ hown (host := "") (Or.inl (hw _ (List.mem_of_getElem? (i := 33) rfl))) Via.refl e0 S_UNSUBACK (g := (mkF m 101 #[.val (.int ua)] [])) rfl (hb hby d2_101)
                        refine own_by (B := T22.setTop (mkF m 104 #[.val (.int ua)] [(.ref a_UNSUBACK)])) st22 ?_
                        exact own_retA X22 hx hrt rfl rfl hlk (hb hby d2_104) (by decide) (by decide) ⟨(by unfold own_f2; rw [if_neg hc1, if_neg hc3, if_neg hc5, if_neg hc7, if_neg hc9, if_neg hc11, if_neg hc13, if_neg hc15, if_neg hc17, if_neg hc19, if_pos hc21]), N0, e22⟩
                      · refine own_by (B := s₁.setTop (mkF m 105 #[.val (.int ua)] [])) (fun _ k => XS.icmpYes X0.here hx rfl (pc0 := 98) (pc' := 105) rfl (hb hby d2_98) rfl (XT.ii_ne_t hc21) (by decide) (by decide) k) ?_
                        refine own_by (B := s₁.setTop (mkF m 106 #[.val (.int ua)] [(.int ua)])) (fun _ k => XS.iloadN X0.here hx rfl (hb hby d2_105) rfl  k) ?_
                        refine own_by (B := s₁.setTop (mkF m 108 #[.val (.int ua)] [(.int (12 : Int32)), (.int ua)])) (fun _ k => XS.bipush X0.here hx rfl (hb hby d2_106) k) ?_
                        by_cases hc23 : ua = (12 : Int32)
                        · refine own_by (B := s₁.setTop (mkF m 111 #[.val (.int ua)] [])) (fun _ k => XS.icmpNo X0.here hx rfl (hb hby d2_108) rfl (XT.ii_ne_f hc23) k) ?_
                          obtain ⟨T24, X24, e24, st24⟩ := getS2 X0 hx hZ hown (host := "") (Or.inl (hw _ (List.mem_of_getElem? (i := 29) rfl))) Via.refl e0 S_PINGREQ (g := (mkF m 111 #[.val (.int ua)] [])) rfl (hb hby d2_111)
                          refine own_by (B := T24.setTop (mkF m 114 #[.val (.int ua)] [(.ref a_PINGREQ)])) st24 ?_
                          exact own_retA X24 hx hrt rfl rfl hlk (hb hby d2_114) (by decide) (by decide) ⟨(by unfold own_f2; rw [if_neg hc1, if_neg hc3, if_neg hc5, if_neg hc7, if_neg hc9, if_neg hc11, if_neg hc13, if_neg hc15, if_neg hc17, if_neg hc19, if_neg hc21, if_pos hc23]), N0, e24⟩
                        · refine own_by (B := s₁.setTop (mkF m 115 #[.val (.int ua)] [])) (fun _ k => XS.icmpYes X0.here hx rfl (pc0 := 108) (pc' := 115) rfl (hb hby d2_108) rfl (XT.ii_ne_t hc23) (by decide) (by decide) k) ?_
                          refine own_by (B := s₁.setTop (mkF m 116 #[.val (.int ua)] [(.int ua)])) (fun _ k => XS.iloadN X0.here hx rfl (hb hby d2_115) rfl  k) ?_
                          refine own_by (B := s₁.setTop (mkF m 118 #[.val (.int ua)] [(.int (13 : Int32)), (.int ua)])) (fun _ k => XS.bipush X0.here hx rfl (hb hby d2_116) k) ?_
                          by_cases hc25 : ua = (13 : Int32)
                          · refine own_by (B := s₁.setTop (mkF m 121 #[.val (.int ua)] [])) (fun _ k => XS.icmpNo X0.here hx rfl (hb hby d2_118) rfl (XT.ii_ne_f hc25) k) ?_
                            obtain ⟨T26, X26, e26, st26⟩ := getS2 X0 hx hZ hown (host := "") (Or.inl (hw _ (List.mem_of_getElem? (i := 21) rfl))) Via.refl e0 S_PINGRESP (g := (mkF m 121 #[.val (.int ua)] [])) rfl (hb hby d2_121)
                            refine own_by (B := T26.setTop (mkF m 124 #[.val (.int ua)] [(.ref a_PINGRESP)])) st26 ?_
                            exact own_retA X26 hx hrt rfl rfl hlk (hb hby d2_124) (by decide) (by decide) ⟨(by unfold own_f2; rw [if_neg hc1, if_neg hc3, if_neg hc5, if_neg hc7, if_neg hc9, if_neg hc11, if_neg hc13, if_neg hc15, if_neg hc17, if_neg hc19, if_neg hc21, if_neg hc23, if_pos hc25]), N0, e26⟩
                          · refine own_by (B := s₁.setTop (mkF m 125 #[.val (.int ua)] [])) (fun _ k => XS.icmpYes X0.here hx rfl (pc0 := 118) (pc' := 125) rfl (hb hby d2_118) rfl (XT.ii_ne_t hc25) (by decide) (by decide) k) ?_
                            refine own_by (B := s₁.setTop (mkF m 126 #[.val (.int ua)] [(.int ua)])) (fun _ k => XS.iloadN X0.here hx rfl (hb hby d2_125) rfl  k) ?_
                            refine own_by (B := s₁.setTop (mkF m 128 #[.val (.int ua)] [(.int (14 : Int32)), (.int ua)])) (fun _ k => XS.bipush X0.here hx rfl (hb hby d2_126) k) ?_
                            by_cases hc27 : ua = (14 : Int32)
                            · refine own_by (B := s₁.setTop (mkF m 131 #[.val (.int ua)] [])) (fun _ k => XS.icmpNo X0.here hx rfl (hb hby d2_128) rfl (XT.ii_ne_f hc27) k) ?_
                              obtain ⟨T28, X28, e28, st28⟩ := getS2 X0 hx hZ hown (host := "") (Or.inl (hw _ (List.mem_of_getElem? (i := 13) rfl))) Via.refl e0 S_DISCONNECT (g := (mkF m 131 #[.val (.int ua)] [])) rfl (hb hby d2_131)
                              refine own_by (B := T28.setTop (mkF m 134 #[.val (.int ua)] [(.ref a_DISCONNECT)])) st28 ?_
                              exact own_retA X28 hx hrt rfl rfl hlk (hb hby d2_134) (by decide) (by decide) ⟨(by unfold own_f2; rw [if_neg hc1, if_neg hc3, if_neg hc5, if_neg hc7, if_neg hc9, if_neg hc11, if_neg hc13, if_neg hc15, if_neg hc17, if_neg hc19, if_neg hc21, if_neg hc23, if_neg hc25, if_pos hc27]), N0, e28⟩
                            · refine own_by (B := s₁.setTop (mkF m 135 #[.val (.int ua)] [])) (fun _ k => XS.icmpYes X0.here hx rfl (pc0 := 128) (pc' := 135) rfl (hb hby d2_128) rfl (XT.ii_ne_t hc27) (by decide) (by decide) k) ?_
                              refine own_by (B := s₁.setTop (mkF m 136 #[.val (.int ua)] [(.int ua)])) (fun _ k => XS.iloadN X0.here hx rfl (hb hby d2_135) rfl  k) ?_
                              refine own_by (B := s₁.setTop (mkF m 138 #[.val (.int ua)] [(.int (15 : Int32)), (.int ua)])) (fun _ k => XS.bipush X0.here hx rfl (hb hby d2_136) k) ?_
                              by_cases hc29 : ua = (15 : Int32)
                              · refine own_by (B := s₁.setTop (mkF m 141 #[.val (.int ua)] [])) (fun _ k => XS.icmpNo X0.here hx rfl (hb hby d2_138) rfl (XT.ii_ne_f hc29) k) ?_
                                obtain ⟨T30, X30, e30, st30⟩ := getS2 X0 hx hZ hown (host := "") (Or.inl (hw _ (List.mem_of_getElem? (i := 25) rfl))) Via.refl e0 S_AUTH (g := (mkF m 141 #[.val (.int ua)] [])) rfl (hb hby d2_141)
                                refine own_by (B := T30.setTop (mkF m 144 #[.val (.int ua)] [(.ref a_AUTH)])) st30 ?_
                                exact own_retA X30 hx hrt rfl rfl hlk (hb hby d2_144) (by decide) (by decide) ⟨(by unfold own_f2; rw [if_neg hc1, if_neg hc3, if_neg hc5, if_neg hc7, if_neg hc9, if_neg hc11, if_neg hc13, if_neg hc15, if_neg hc17, if_neg hc19, if_neg hc21, if_neg hc23, if_neg hc25, if_neg hc27, if_pos hc29]), N0, e30⟩
                              · refine own_by (B := s₁.setTop (mkF m 145 #[.val (.int ua)] [])) (fun _ k => XS.icmpYes X0.here hx rfl (pc0 := 138) (pc' := 145) rfl (hb hby d2_138) rfl (XT.ii_ne_t hc29) (by decide) (by decide) k) ?_
                                refine own_by (B := s₁.setTop (mkF m 146 #[.val (.int ua)] [.null])) (fun _ k => XS.aconstNull X0.here hx rfl (hb hby d2_145) k) ?_
                                exact own_retA X0 hx hrt rfl rfl hlk (hb hby d2_146) (by decide) (by decide) ⟨(by unfold own_f2; rw [if_neg hc1, if_neg hc3, if_neg hc5, if_neg hc7, if_neg hc9, if_neg hc11, if_neg hc13, if_neg hc15, if_neg hc17, if_neg hc19, if_neg hc21, if_neg hc23, if_neg hc25, if_neg hc27, if_neg hc29]), N0, e0⟩

theorem own_enum16 {z : Int32} (h0 : 0 ≤ z.toInt) (h1 : z.toInt < 16) : z = (0 : Int32) ∨ z = (1 : Int32) ∨ z = (2 : Int32) ∨ z = (3 : Int32) ∨ z = (4 : Int32) ∨ z = (5 : Int32) ∨ z = (6 : Int32) ∨ z = (7 : Int32) ∨ z = (8 : Int32) ∨ z = (9 : Int32) ∨ z = (10 : Int32) ∨ z = (11 : Int32) ∨ z = (12 : Int32) ∨ z = (13 : Int32) ∨ z = (14 : Int32) ∨ z = (15 : Int32) := by
  have h : z.toInt = 0 ∨ z.toInt = 1 ∨ z.toInt = 2 ∨ z.toInt = 3 ∨ z.toInt = 4 ∨ z.toInt = 5 ∨ z.toInt = 6 ∨ z.toInt = 7 ∨ z.toInt = 8 ∨ z.toInt = 9 ∨ z.toInt = 10 ∨ z.toInt = 11 ∨ z.toInt = 12 ∨ z.toInt = 13 ∨ z.toInt = 14 ∨ z.toInt = 15 := by omega
  rcases h with h | h | h | h | h | h | h | h | h | h | h | h | h | h | h | h
  · exact Or.inl (Int32.toInt_inj.mp (h.trans (by decide)))
  · exact Or.inr (Or.inl (Int32.toInt_inj.mp (h.trans (by decide))))
  · exact Or.inr (Or.inr (Or.inl (Int32.toInt_inj.mp (h.trans (by decide)))))
  · exact Or.inr (Or.inr (Or.inr (Or.inl (Int32.toInt_inj.mp (h.trans (by decide))))))
  · exact Or.inr (Or.inr (Or.inr (Or.inr (Or.inl (Int32.toInt_inj.mp (h.trans (by decide)))))))
  · exact Or.inr (Or.inr (Or.inr (Or.inr (Or.inr (Or.inl (Int32.toInt_inj.mp (h.trans (by decide))))))))
  · exact Or.inr (Or.inr (Or.inr (Or.inr (Or.inr (Or.inr (Or.inl (Int32.toInt_inj.mp (h.trans (by decide)))))))))
  · exact Or.inr (Or.inr (Or.inr (Or.inr (Or.inr (Or.inr (Or.inr (Or.inl (Int32.toInt_inj.mp (h.trans (by decide))))))))))
  · exact Or.inr (Or.inr (Or.inr (Or.inr (Or.inr (Or.inr (Or.inr (Or.inr (Or.inl (Int32.toInt_inj.mp (h.trans (by decide)))))))))))
  · exact Or.inr (Or.inr (Or.inr (Or.inr (Or.inr (Or.inr (Or.inr (Or.inr (Or.inr (Or.inl (Int32.toInt_inj.mp (h.trans (by decide))))))))))))
  · exact Or.inr (Or.inr (Or.inr (Or.inr (Or.inr (Or.inr (Or.inr (Or.inr (Or.inr (Or.inr (Or.inl (Int32.toInt_inj.mp (h.trans (by decide)))))))))))))
  · exact Or.inr (Or.inr (Or.inr (Or.inr (Or.inr (Or.inr (Or.inr (Or.inr (Or.inr (Or.inr (Or.inr (Or.inl (Int32.toInt_inj.mp (h.trans (by decide))))))))))))))
  · exact Or.inr (Or.inr (Or.inr (Or.inr (Or.inr (Or.inr (Or.inr (Or.inr (Or.inr (Or.inr (Or.inr (Or.inr (Or.inl (Int32.toInt_inj.mp (h.trans (by decide)))))))))))))))
  · exact Or.inr (Or.inr (Or.inr (Or.inr (Or.inr (Or.inr (Or.inr (Or.inr (Or.inr (Or.inr (Or.inr (Or.inr (Or.inr (Or.inl (Int32.toInt_inj.mp (h.trans (by decide))))))))))))))))
  · exact Or.inr (Or.inr (Or.inr (Or.inr (Or.inr (Or.inr (Or.inr (Or.inr (Or.inr (Or.inr (Or.inr (Or.inr (Or.inr (Or.inr (Or.inl (Int32.toInt_inj.mp (h.trans (by decide)))))))))))))))))
  · exact Or.inr (Or.inr (Or.inr (Or.inr (Or.inr (Or.inr (Or.inr (Or.inr (Or.inr (Or.inr (Or.inr (Or.inr (Or.inr (Or.inr (Or.inr ((Int32.toInt_inj.mp (h.trans (by decide))))))))))))))))))

theorem own_same (ua : Int32) (a_CONNECT a_CONNACK a_PUBLISH a_PUBACK a_PUBREC a_PUBREL a_PUBCOMP a_SUBSCRIBE a_SUBACK a_UNSUBSCRIBE a_UNSUBACK a_PINGREQ a_PINGRESP a_DISCONNECT a_AUTH : Addr) : own_f1 ua a_CONNECT a_CONNACK a_PUBLISH a_PUBACK a_PUBREC a_PUBREL a_PUBCOMP a_SUBSCRIBE a_SUBACK a_UNSUBSCRIBE a_UNSUBACK a_PINGREQ a_PINGRESP a_DISCONNECT a_AUTH = own_f2 ua a_CONNECT a_CONNACK a_PUBLISH a_PUBACK a_PUBREC a_PUBREL a_PUBCOMP a_SUBSCRIBE a_SUBACK a_UNSUBSCRIBE a_UNSUBACK a_PINGREQ a_PINGRESP a_DISCONNECT a_AUTH := by
  have e0 : (0 : Int32).toInt = 0 := rfl
  have e16 : (16 : Int32).toInt = 16 := rfl
  unfold own_f1
  by_cases h1 : ua < 0
  · have n : ∀ k : Int32, 0 ≤ k.toInt → ¬ ua = k := fun k hk q => by rw [Int32.lt_iff_toInt_lt, e0, q] at h1; omega
    rw [if_pos h1]; unfold own_f2
    rw [if_neg (n _ (by decide)), if_neg (n _ (by decide)), if_neg (n _ (by decide)), if_neg (n _ (by decide)), if_neg (n _ (by decide)), if_neg (n _ (by decide)), if_neg (n _ (by decide)), if_neg (n _ (by decide)), if_neg (n _ (by decide)), if_neg (n _ (by decide)), if_neg (n _ (by decide)), if_neg (n _ (by decide)), if_neg (n _ (by decide)), if_neg (n _ (by decide)), if_neg (n _ (by decide))]
  · rw [if_neg h1]
    by_cases h2 : ua < 16
    · rw [if_pos h2]
      have g0 : 0 ≤ ua.toInt := by rw [Int32.lt_iff_toInt_lt, e0] at h1; omega
      have g1 : ua.toInt < 16 := by rw [Int32.lt_iff_toInt_lt, e16] at h2; exact h2
      rcases own_enum16 g0 g1 with rfl | rfl | rfl | rfl | rfl | rfl | rfl | rfl | rfl | rfl | rfl | rfl | rfl | rfl | rfl | rfl <;> rfl
    · have n : ∀ k : Int32, k.toInt < 16 → ¬ ua = k := fun k hk q => by rw [Int32.lt_iff_toInt_lt, e16, q] at h2; omega
      rw [if_neg h2]; unfold own_f2
      rw [if_neg (n _ (by decide)), if_neg (n _ (by decide)), if_neg (n _ (by decide)), if_neg (n _ (by decide)), if_neg (n _ (by decide)), if_neg (n _ (by decide)), if_neg (n _ (by decide)), if_neg (n _ (by decide)), if_neg (n _ (by decide)), if_neg (n _ (by decide)), if_neg (n _ (by decide)), if_neg (n _ (by decide)), if_neg (n _ (by decide)), if_neg (n _ (by decide)), if_neg (n _ (by decide))]

theorem own_f2_ref (ua : Int32) (a_CONNECT a_CONNACK a_PUBLISH a_PUBACK a_PUBREC a_PUBREL a_PUBCOMP a_SUBSCRIBE a_SUBACK a_UNSUBSCRIBE a_UNSUBACK a_PINGREQ a_PINGRESP a_DISCONNECT a_AUTH : Addr) : (own_f2 ua a_CONNECT a_CONNACK a_PUBLISH a_PUBACK a_PUBREC a_PUBREL a_PUBCOMP a_SUBSCRIBE a_SUBACK a_UNSUBSCRIBE a_UNSUBACK a_PINGREQ a_PINGRESP a_DISCONNECT a_AUTH).isRef = true := by
  unfold own_f2
  by_cases h1 : ua = (1 : Int32)
  · rw [if_pos h1]; rfl
  rw [if_neg h1]
  by_cases h2 : ua = (2 : Int32)
  · rw [if_pos h2]; rfl
  rw [if_neg h2]
  by_cases h3 : ua = (3 : Int32)
  · rw [if_pos h3]; rfl
  rw [if_neg h3]
  by_cases h4 : ua = (4 : Int32)
  · rw [if_pos h4]; rfl
  rw [if_neg h4]
  by_cases h5 : ua = (5 : Int32)
  · rw [if_pos h5]; rfl
  rw [if_neg h5]
  by_cases h6 : ua = (6 : Int32)
  · rw [if_pos h6]; rfl
  rw [if_neg h6]
  by_cases h7 : ua = (7 : Int32)
  · rw [if_pos h7]; rfl
  rw [if_neg h7]
  by_cases h8 : ua = (8 : Int32)
  · rw [if_pos h8]; rfl
  rw [if_neg h8]
  by_cases h9 : ua = (9 : Int32)
  · rw [if_pos h9]; rfl
  rw [if_neg h9]
  by_cases h10 : ua = (10 : Int32)
  · rw [if_pos h10]; rfl
  rw [if_neg h10]
  by_cases h11 : ua = (11 : Int32)
  · rw [if_pos h11]; rfl
  rw [if_neg h11]
  by_cases h12 : ua = (12 : Int32)
  · rw [if_pos h12]; rfl
  rw [if_neg h12]
  by_cases h13 : ua = (13 : Int32)
  · rw [if_pos h13]; rfl
  rw [if_neg h13]
  by_cases h14 : ua = (14 : Int32)
  · rw [if_pos h14]; rfl
  rw [if_neg h14]
  by_cases h15 : ua = (15 : Int32)
  · rw [if_pos h15]; rfl
  rw [if_neg h15]
  rfl

theorem own_f1_ref (ua : Int32) (a_CONNECT a_CONNACK a_PUBLISH a_PUBACK a_PUBREC a_PUBREL a_PUBCOMP a_SUBSCRIBE a_SUBACK a_UNSUBSCRIBE a_UNSUBACK a_PINGREQ a_PINGRESP a_DISCONNECT a_AUTH : Addr) : (own_f1 ua a_CONNECT a_CONNACK a_PUBLISH a_PUBACK a_PUBREC a_PUBREL a_PUBCOMP a_SUBSCRIBE a_SUBACK a_UNSUBSCRIBE a_UNSUBACK a_PINGREQ a_PINGRESP a_DISCONNECT a_AUTH).isRef = true := by rw [own_same]; exact own_f2_ref _ a_CONNECT a_CONNACK a_PUBLISH a_PUBACK a_PUBREC a_PUBREL a_PUBCOMP a_SUBSCRIBE a_SUBACK a_UNSUBSCRIBE a_UNSUBACK a_PINGREQ a_PINGRESP a_DISCONNECT a_AUTH

def own_Q0 (n0 : Nat) (v : Option Value) (h : Heap) (L : List Loc) : Prop := v = some (.int 1) ∧ Fr n0 L

theorem pd_0__I_Lcom_example_mqtt_packet_codec_mqttpacketcodec_PacketType_ : parseMethodDescriptor "(I)Lcom/example/mqtt_packet_codec/mqttpacketcodec/PacketType;" = some ⟨[.int], some (.object "com/example/mqtt_packet_codec/mqttpacketcodec/PacketType")⟩ := by decide +kernel
theorem pn_rm0 : plainFor (⟨"com/example/mqtt_packet_codec/mqttpacketcodec/PacketTypeFromCodePinLaw", "law", "(II)Z"⟩ : MethodName) = true := by first | exact plainFor_of_name (by first | (simp [plainName, overriddenIn]; done) | decide +kernel) | exact Jvm.Free.JP.mathPlain rfl (by decide +kernel) | decide +kernel
theorem ef_rm0 (m : MethodId) (x0 : Int32) (x1 : Int32) : entryFrame m #[(.int x0), (.int x1)] maxLocals = mkF m 0 #[.val (.int x0), .val (.int x1), .unset, .unset, .unset, .unset, .unset, .unset] [] := by first | (simp [entryFrame, mkF, argsToLocals, Value.category, maxLocals]; done) | rfl
set_option maxRecDepth 65536 in
set_option maxHeartbeats 40000000 in
theorem rm0 (l : Launch) (Z : State) (a0 : Array Value) (hw : ∀ d ∈ tables_1, d.before a0 Z = true) (ws : List Jvm.Cond) (a_PUBLISH a_DISCONNECT a_CONNECT a_SUBSCRIBE a_PUBACK a_PINGRESP a_PUBREL a_AUTH a_PUBCOMP a_PINGREQ a_PUBREC a_UNSUBACK a_CONNACK a_SUBACK a_UNSUBSCRIBE a_BY_CODE : Addr) (k_BY_CODE : ClassId) (ua ub : Int32) (h0 : Heap) (n0 : Nat) (Z0 : n0 ≤ h0.size) (HW : own_W Z h0 a_PUBLISH a_DISCONNECT a_CONNECT a_SUBSCRIBE a_PUBACK a_PINGRESP a_PUBREL a_AUTH a_PUBCOMP a_PINGREQ a_PUBREC a_UNSUBACK a_CONNACK a_SUBACK a_UNSUBSCRIBE a_BY_CODE k_BY_CODE) :
    MetFree l x (head1 (Jvm.Cond.code x code maxLocals ret :: ws) room_1) (fun a U => a = #[(.int ua), (.int ub)] ∧ Z.Warmed39 U.vm ∧ U.heap = h0) (fun _ _ _ _ _ => True) (fun _ U o U' => ∃ v L, o = .returned v ∧ (own_Q0 n0) v U'.heap L ∧ FrameEnd U o U' L 0 0) := by
  refine MetFree.of_bodySF pn_rm0 hisR ?_
  intro p e s m args below meth c s₁ Bd hml0 hP hK
  obtain ⟨rfl, hZ, hh⟩ := hP
  have hx := Bd.exec
  have hby := Bd.bytes
  have hml : c.maxLocals = 8 := hml0
  have hown : s.vm.findClass "com/example/mqtt_packet_codec/mqttpacketcodec/PacketTypeFromCodePinLaw" = some m.cls := findClass_of_methodNamed Bd.named
  have hnm := (name_of_methodNamed Bd.named Bd.method).1
  have hrt := Bd.returns
  have hlk := Bd.notSynchronized
  have X0 : Stand p l e room_1 s m #[(.int ua), (.int ub)] below meth c s₁ [] 0 0 := Stand.of_body Bd
  have e0 : s₁.heap = h0 := by rw [← hh, Bd.state]; rfl
  have N0 := Fr.nil n0
  refine own_done (B := s₁.setTop (mkF m 0 #[.val (.int ua), .val (.int ub), .unset, .unset, .unset, .unset, .unset, .unset] [])) (fun t k => castTop (ef_rm0 m ua ub) k) ?_
  refine own_by (B := s₁.setTop (mkF m 1 #[.val (.int ua), .val (.int ub), .unset, .unset, .unset, .unset, .unset, .unset] [(.int ua)])) (fun _ k => XS.iloadN X0.here hx rfl (hb hby at_0) rfl  k) ?_
  refine own_by (B := s₁.setTop (mkF m 2 #[.val (.int ua), .val (.int ub), .val (.int ua), .unset, .unset, .unset, .unset, .unset] [])) (fun _ k => XS.istoreN X0.here hx rfl (hb hby at_1) rfl (l' := #[.val (.int ua), .val (.int ub), .val (.int ua), .unset, .unset, .unset, .unset, .unset]) rfl k) ?_
  refine own_by (B := s₁.setTop (mkF m 3 #[.val (.int ua), .val (.int ub), .val (.int ua), .unset, .unset, .unset, .unset, .unset] [(.int ub)])) (fun _ k => XS.iloadN X0.here hx rfl (hb hby at_2) rfl  k) ?_
  refine own_by (B := s₁.setTop (mkF m 5 #[.val (.int ua), .val (.int ub), .val (.int ua), .unset, .unset, .unset, .unset, .unset] [(.int (15 : Int32)), (.int ub)])) (fun _ k => XS.bipush X0.here hx rfl (hb hby at_3) k) ?_
  refine own_by (B := s₁.setTop (mkF m 6 #[.val (.int ua), .val (.int ub), .val (.int ua), .unset, .unset, .unset, .unset, .unset] [(.int (ub &&& (15 : Int32)))])) (fun _ k => XS.iand X0.here hx rfl (hb hby at_5) rfl k) ?_
  refine own_by (B := s₁.setTop (mkF m 7 #[.val (.int ua), .val (.int ub), .val (.int ua), .val (.int (ub &&& (15 : Int32))), .unset, .unset, .unset, .unset] [])) (fun _ k => XS.istoreN X0.here hx rfl (hb hby at_6) rfl (l' := #[.val (.int ua), .val (.int ub), .val (.int ua), .val (.int (ub &&& (15 : Int32))), .unset, .unset, .unset, .unset]) rfl k) ?_
  refine own_by (B := s₁.setTop (mkF m 8 #[.val (.int ua), .val (.int ub), .val (.int ua), .val (.int (ub &&& (15 : Int32))), .unset, .unset, .unset, .unset] [(.int ub)])) (fun _ k => XS.iloadN X0.here hx rfl (hb hby at_7) rfl  k) ?_
  refine own_by (B := s₁.setTop (mkF m 9 #[.val (.int ua), .val (.int ub), .val (.int ua), .val (.int (ub &&& (15 : Int32))), .unset, .unset, .unset, .unset] [(.int (4 : Int32)), (.int ub)])) (fun _ k => XS.iconst X0.here hx rfl (hb hby at_8) k) ?_
  refine own_by (B := s₁.setTop (mkF m 10 #[.val (.int ua), .val (.int ub), .val (.int ua), .val (.int (ub &&& (15 : Int32))), .unset, .unset, .unset, .unset] [(.int (ub >>> ((4 : Int32) &&& 31)))])) (fun _ k => XT.ishr X0.here hx rfl (hb hby at_9) rfl k) ?_
  refine own_by (B := s₁.setTop (mkF m 12 #[.val (.int ua), .val (.int ub), .val (.int ua), .val (.int (ub &&& (15 : Int32))), .unset, .unset, .unset, .unset] [(.int (20 : Int32)), (.int (ub >>> ((4 : Int32) &&& 31)))])) (fun _ k => XS.bipush X0.here hx rfl (hb hby at_10) k) ?_
  refine own_by (B := s₁.setTop (mkF m 13 #[.val (.int ua), .val (.int ub), .val (.int ua), .val (.int (ub &&& (15 : Int32))), .unset, .unset, .unset, .unset] [(.int ((ub >>> ((4 : Int32) &&& 31)) % (20 : Int32)))])) (fun _ k => iremM (g := (mkF m 12 #[.val (.int ua), .val (.int ub), .val (.int ua), .val (.int (ub &&& (15 : Int32))), .unset, .unset, .unset, .unset] [(.int (20 : Int32)), (.int (ub >>> ((4 : Int32) &&& 31)))])) X0 hx rfl (hb hby at_12) rfl (by decide) k) ?_
  refine own_by (B := s₁.setTop (mkF m 15 #[.val (.int ua), .val (.int ub), .val (.int ua), .val (.int (ub &&& (15 : Int32))), .val (.int ((ub >>> ((4 : Int32) &&& 31)) % (20 : Int32))), .unset, .unset, .unset] [])) (fun _ k => XS.istore X0.here hx rfl (hb hby at_13) rfl (l' := #[.val (.int ua), .val (.int ub), .val (.int ua), .val (.int (ub &&& (15 : Int32))), .val (.int ((ub >>> ((4 : Int32) &&& 31)) % (20 : Int32))), .unset, .unset, .unset]) rfl k) ?_
  refine own_by (B := s₁.setTop (mkF m 16 #[.val (.int ua), .val (.int ub), .val (.int ua), .val (.int (ub &&& (15 : Int32))), .val (.int ((ub >>> ((4 : Int32) &&& 31)) % (20 : Int32))), .unset, .unset, .unset] [(.int ua)])) (fun _ k => XS.iloadN X0.here hx rfl (hb hby at_15) rfl  k) ?_
  obtain ⟨_, _, ⟨T1, L1, k1, n1⟩, -, X1, ⟨Lc1, hQ1, l1, y1, z1⟩, st1⟩ := Jvm.LawKit.callS X0 hx (y := (⟨"com/example/mqtt_packet_codec/mqttpacketcodec/PacketType", "fromCode", "(I)Lcom/example/mqtt_packet_codec/mqttpacketcodec/PacketType;"⟩ : MethodName)) hown (mvT hZ (hw _ (List.mem_of_getElem? (i := 0) rfl))) (mvT hZ (hw _ (List.mem_of_getElem? (i := 1) rfl))) (mvT hZ (hw _ (List.mem_of_getElem? (i := 2) rfl))) (mvT hZ (hw _ (List.mem_of_getElem? (i := 3) rfl))) (by decide) (backOf (W := 0) (rm1 l Z a0 hw [] a_PUBLISH a_DISCONNECT a_CONNECT a_SUBSCRIBE a_PUBACK a_PINGRESP a_PUBREL a_AUTH a_PUBCOMP a_PINGREQ a_PUBREC a_UNSUBACK a_CONNACK a_SUBACK a_UNSUBSCRIBE a_BY_CODE k_BY_CODE ua h0 n0 Z0 HW) hZ (hw _ (List.mem_of_getElem? (i := 3) rfl)) (hw _ (List.mem_of_getElem? (i := 2) rfl)) (by decide) (by decide)) (g := (mkF m 16 #[.val (.int ua), .val (.int ub), .val (.int ua), .val (.int (ub &&& (15 : Int32))), .val (.int ((ub >>> ((4 : Int32) &&& 31)) % (20 : Int32))), .unset, .unset, .unset] [(.int ua)])) rfl (by rw [hml]; rfl) (argsL := [(.int ua)]) (rest := []) (lenOf pd_0__I_Lcom_example_mqtt_packet_codec_mqttpacketcodec_PacketType_ rfl) rfl (by show 2 * 0 + _ ≤ _; exact Nat.le_of_eq rfl) (hb hby at_16) (fun _ _ => ⟨rfl, e0, (by decide : 0 + 0 ≤ _), (by decide : 0 + 0 ≤ _)⟩)
  dsimp only [Pt.U, Pt.locs, Pt.cells, Pt.slots] at X1 l1 y1 z1 st1 hQ1
  subst l1 y1 z1
  obtain ⟨rfl, N1, e1⟩ := hQ1
  refine own_by (B := T1.setTop (mkF m 19 #[.val (.int ua), .val (.int ub), .val (.int ua), .val (.int (ub &&& (15 : Int32))), .val (.int ((ub >>> ((4 : Int32) &&& 31)) % (20 : Int32))), .unset, .unset, .unset] [(own_f1 ua a_CONNECT a_CONNACK a_PUBLISH a_PUBACK a_PUBREC a_PUBREL a_PUBCOMP a_SUBSCRIBE a_SUBACK a_UNSUBSCRIBE a_UNSUBACK a_PINGREQ a_PINGRESP a_DISCONNECT a_AUTH)])) st1 ?_
  have M1 := Fr.app N0 N1
  refine own_by (B := T1.setTop (mkF m 20 #[.val (.int ua), .val (.int ub), .val (.int ua), .val (.int (ub &&& (15 : Int32))), .val (.int ((ub >>> ((4 : Int32) &&& 31)) % (20 : Int32))), .unset, .unset, .unset] [(.int ua), (own_f1 ua a_CONNECT a_CONNACK a_PUBLISH a_PUBACK a_PUBREC a_PUBREL a_PUBCOMP a_SUBSCRIBE a_SUBACK a_UNSUBSCRIBE a_UNSUBACK a_PINGREQ a_PINGRESP a_DISCONNECT a_AUTH)])) (fun _ k => XS.iloadN X1.here hx rfl (hb hby at_19) rfl  k) ?_
  obtain ⟨_, _, ⟨T2, L2, k2, n2⟩, -, X2, ⟨Lc2, hQ2, l2, y2, z2⟩, st2⟩ := Jvm.LawKit.callS X1 hx (y := (⟨"com/example/mqtt_packet_codec/mqttpacketcodec/PacketTypeFromCodePinLaw", "expected", "(I)Lcom/example/mqtt_packet_codec/mqttpacketcodec/PacketType;"⟩ : MethodName)) hown (mvT hZ (hw _ (List.mem_of_getElem? (i := 6) rfl))) (mvT hZ (hw _ (List.mem_of_getElem? (i := 7) rfl))) (mvT hZ (hw _ (List.mem_of_getElem? (i := 8) rfl))) (mvT hZ (hw _ (List.mem_of_getElem? (i := 9) rfl))) (by decide) (backOf (W := 1) (rm2 l Z a0 hw [] a_PUBLISH a_DISCONNECT a_CONNECT a_SUBSCRIBE a_PUBACK a_PINGRESP a_PUBREL a_AUTH a_PUBCOMP a_PINGREQ a_PUBREC a_UNSUBACK a_CONNACK a_SUBACK a_UNSUBSCRIBE a_BY_CODE k_BY_CODE ua h0 n0 Z0 HW) hZ (hw _ (List.mem_of_getElem? (i := 9) rfl)) (hw _ (List.mem_of_getElem? (i := 8) rfl)) (by decide) (by decide)) (g := (mkF m 20 #[.val (.int ua), .val (.int ub), .val (.int ua), .val (.int (ub &&& (15 : Int32))), .val (.int ((ub >>> ((4 : Int32) &&& 31)) % (20 : Int32))), .unset, .unset, .unset] [(.int ua), (own_f1 ua a_CONNECT a_CONNACK a_PUBLISH a_PUBACK a_PUBREC a_PUBREL a_PUBCOMP a_SUBSCRIBE a_SUBACK a_UNSUBSCRIBE a_UNSUBACK a_PINGREQ a_PINGRESP a_DISCONNECT a_AUTH)])) rfl (by rw [hml]; rfl) (argsL := [(.int ua)]) (rest := [(own_f1 ua a_CONNECT a_CONNACK a_PUBLISH a_PUBACK a_PUBREC a_PUBREL a_PUBCOMP a_SUBSCRIBE a_SUBACK a_UNSUBSCRIBE a_UNSUBACK a_PINGREQ a_PINGRESP a_DISCONNECT a_AUTH)]) (lenOf pd_0__I_Lcom_example_mqtt_packet_codec_mqttpacketcodec_PacketType_ rfl) rfl (by show 2 * 0 + _ ≤ _; simp only [List.map_cons, List.map_nil, List.sum_cons, List.sum_nil, XT.cat1 (own_f1_ref _ a_CONNECT a_CONNACK a_PUBLISH a_PUBACK a_PUBREC a_PUBREL a_PUBCOMP a_SUBSCRIBE a_SUBACK a_UNSUBSCRIBE a_UNSUBACK a_PINGREQ a_PINGRESP a_DISCONNECT a_AUTH), own_cat1, own_cat2, own_cat3, own_cat4]; exact Nat.le_refl _) (hb hby at_20) (fun _ _ => ⟨rfl, e1, (by decide : 0 + 0 ≤ _), (by decide : 0 + 0 ≤ _)⟩)
  dsimp only [Pt.U, Pt.locs, Pt.cells, Pt.slots] at X2 l2 y2 z2 st2 hQ2
  subst l2 y2 z2
  obtain ⟨rfl, N2, e2⟩ := hQ2
  refine own_by (B := T2.setTop (mkF m 23 #[.val (.int ua), .val (.int ub), .val (.int ua), .val (.int (ub &&& (15 : Int32))), .val (.int ((ub >>> ((4 : Int32) &&& 31)) % (20 : Int32))), .unset, .unset, .unset] [(own_f2 ua a_CONNECT a_CONNACK a_PUBLISH a_PUBACK a_PUBREC a_PUBREL a_PUBCOMP a_SUBSCRIBE a_SUBACK a_UNSUBSCRIBE a_UNSUBACK a_PINGREQ a_PINGRESP a_DISCONNECT a_AUTH), (own_f1 ua a_CONNECT a_CONNACK a_PUBLISH a_PUBACK a_PUBREC a_PUBREL a_PUBCOMP a_SUBSCRIBE a_SUBACK a_UNSUBSCRIBE a_UNSUBACK a_PINGREQ a_PINGRESP a_DISCONNECT a_AUTH)])) st2 ?_
  have M2 := Fr.app M1 N2
  rw [own_same]
  refine own_by (B := T2.setTop (mkF m 26 #[.val (.int ua), .val (.int ub), .val (.int ua), .val (.int (ub &&& (15 : Int32))), .val (.int ((ub >>> ((4 : Int32) &&& 31)) % (20 : Int32))), .unset, .unset, .unset] [])) (fun _ k => XT.acmpNo X2.here hx rfl (hb hby at_23) rfl (own_f2_ref _ a_CONNECT a_CONNACK a_PUBLISH a_PUBACK a_PUBREC a_PUBREL a_PUBCOMP a_SUBSCRIBE a_SUBACK a_UNSUBSCRIBE a_UNSUBACK a_PINGREQ a_PINGRESP a_DISCONNECT a_AUTH) (own_f2_ref _ a_CONNECT a_CONNACK a_PUBLISH a_PUBACK a_PUBREC a_PUBREL a_PUBCOMP a_SUBSCRIBE a_SUBACK a_UNSUBSCRIBE a_UNSUBACK a_PINGREQ a_PINGRESP a_DISCONNECT a_AUTH) (XT.aa_ne_f rfl) k) ?_
  refine own_by (B := T2.setTop (mkF m 27 #[.val (.int ua), .val (.int ub), .val (.int ua), .val (.int (ub &&& (15 : Int32))), .val (.int ((ub >>> ((4 : Int32) &&& 31)) % (20 : Int32))), .unset, .unset, .unset] [(.int (1 : Int32))])) (fun _ k => XS.iconst X2.here hx rfl (hb hby at_26) k) ?_
  refine own_by (B := T2.setTop (mkF m 31 #[.val (.int ua), .val (.int ub), .val (.int ua), .val (.int (ub &&& (15 : Int32))), .val (.int ((ub >>> ((4 : Int32) &&& 31)) % (20 : Int32))), .unset, .unset, .unset] [(.int (1 : Int32))])) (fun _ k => XS.goto X2.here hx rfl (pc0 := 27) (pc' := 31) rfl (hb hby at_27) (by decide) (by decide) k) ?_
  refine own_by (B := T2.setTop (mkF m 33 #[.val (.int ua), .val (.int ub), .val (.int ua), .val (.int (ub &&& (15 : Int32))), .val (.int ((ub >>> ((4 : Int32) &&& 31)) % (20 : Int32))), .val (.int (1 : Int32)), .unset, .unset] [])) (fun _ k => XS.istore X2.here hx rfl (hb hby at_31) rfl (l' := #[.val (.int ua), .val (.int ub), .val (.int ua), .val (.int (ub &&& (15 : Int32))), .val (.int ((ub >>> ((4 : Int32) &&& 31)) % (20 : Int32))), .val (.int (1 : Int32)), .unset, .unset]) rfl k) ?_
  refine own_by (B := T2.setTop (mkF m 34 #[.val (.int ua), .val (.int ub), .val (.int ua), .val (.int (ub &&& (15 : Int32))), .val (.int ((ub >>> ((4 : Int32) &&& 31)) % (20 : Int32))), .val (.int (1 : Int32)), .unset, .unset] [(.int (ub &&& (15 : Int32)))])) (fun _ k => XS.iloadN X2.here hx rfl (hb hby at_33) rfl  k) ?_
  obtain ⟨_, _, ⟨T3, L3, k3, n3⟩, -, X3, ⟨Lc3, hQ3, l3, y3, z3⟩, st3⟩ := Jvm.LawKit.callS X2 hx (y := (⟨"com/example/mqtt_packet_codec/mqttpacketcodec/PacketType", "fromCode", "(I)Lcom/example/mqtt_packet_codec/mqttpacketcodec/PacketType;"⟩ : MethodName)) hown (mvT hZ (hw _ (List.mem_of_getElem? (i := 0) rfl))) (mvT hZ (hw _ (List.mem_of_getElem? (i := 1) rfl))) (mvT hZ (hw _ (List.mem_of_getElem? (i := 2) rfl))) (mvT hZ (hw _ (List.mem_of_getElem? (i := 3) rfl))) (by decide) (backOf (W := 0) (rm1 l Z a0 hw [] a_PUBLISH a_DISCONNECT a_CONNECT a_SUBSCRIBE a_PUBACK a_PINGRESP a_PUBREL a_AUTH a_PUBCOMP a_PINGREQ a_PUBREC a_UNSUBACK a_CONNACK a_SUBACK a_UNSUBSCRIBE a_BY_CODE k_BY_CODE (ub &&& (15 : Int32)) h0 n0 Z0 HW) hZ (hw _ (List.mem_of_getElem? (i := 3) rfl)) (hw _ (List.mem_of_getElem? (i := 2) rfl)) (by decide) (by decide)) (g := (mkF m 34 #[.val (.int ua), .val (.int ub), .val (.int ua), .val (.int (ub &&& (15 : Int32))), .val (.int ((ub >>> ((4 : Int32) &&& 31)) % (20 : Int32))), .val (.int (1 : Int32)), .unset, .unset] [(.int (ub &&& (15 : Int32)))])) rfl (by rw [hml]; rfl) (argsL := [(.int (ub &&& (15 : Int32)))]) (rest := []) (lenOf pd_0__I_Lcom_example_mqtt_packet_codec_mqttpacketcodec_PacketType_ rfl) rfl (by show 2 * 0 + _ ≤ _; exact Nat.le_of_eq rfl) (hb hby at_34) (fun _ _ => ⟨rfl, e2, (by decide : 0 + 0 ≤ _), (by decide : 0 + 0 ≤ _)⟩)
  dsimp only [Pt.U, Pt.locs, Pt.cells, Pt.slots] at X3 l3 y3 z3 st3 hQ3
  subst l3 y3 z3
  obtain ⟨rfl, N3, e3⟩ := hQ3
  refine own_by (B := T3.setTop (mkF m 37 #[.val (.int ua), .val (.int ub), .val (.int ua), .val (.int (ub &&& (15 : Int32))), .val (.int ((ub >>> ((4 : Int32) &&& 31)) % (20 : Int32))), .val (.int (1 : Int32)), .unset, .unset] [(own_f1 (ub &&& (15 : Int32)) a_CONNECT a_CONNACK a_PUBLISH a_PUBACK a_PUBREC a_PUBREL a_PUBCOMP a_SUBSCRIBE a_SUBACK a_UNSUBSCRIBE a_UNSUBACK a_PINGREQ a_PINGRESP a_DISCONNECT a_AUTH)])) st3 ?_
  have M3 := Fr.app M2 N3
  refine own_by (B := T3.setTop (mkF m 38 #[.val (.int ua), .val (.int ub), .val (.int ua), .val (.int (ub &&& (15 : Int32))), .val (.int ((ub >>> ((4 : Int32) &&& 31)) % (20 : Int32))), .val (.int (1 : Int32)), .unset, .unset] [(.int (ub &&& (15 : Int32))), (own_f1 (ub &&& (15 : Int32)) a_CONNECT a_CONNACK a_PUBLISH a_PUBACK a_PUBREC a_PUBREL a_PUBCOMP a_SUBSCRIBE a_SUBACK a_UNSUBSCRIBE a_UNSUBACK a_PINGREQ a_PINGRESP a_DISCONNECT a_AUTH)])) (fun _ k => XS.iloadN X3.here hx rfl (hb hby at_37) rfl  k) ?_
  obtain ⟨_, _, ⟨T4, L4, k4, n4⟩, -, X4, ⟨Lc4, hQ4, l4, y4, z4⟩, st4⟩ := Jvm.LawKit.callS X3 hx (y := (⟨"com/example/mqtt_packet_codec/mqttpacketcodec/PacketTypeFromCodePinLaw", "expected", "(I)Lcom/example/mqtt_packet_codec/mqttpacketcodec/PacketType;"⟩ : MethodName)) hown (mvT hZ (hw _ (List.mem_of_getElem? (i := 6) rfl))) (mvT hZ (hw _ (List.mem_of_getElem? (i := 7) rfl))) (mvT hZ (hw _ (List.mem_of_getElem? (i := 8) rfl))) (mvT hZ (hw _ (List.mem_of_getElem? (i := 9) rfl))) (by decide) (backOf (W := 1) (rm2 l Z a0 hw [] a_PUBLISH a_DISCONNECT a_CONNECT a_SUBSCRIBE a_PUBACK a_PINGRESP a_PUBREL a_AUTH a_PUBCOMP a_PINGREQ a_PUBREC a_UNSUBACK a_CONNACK a_SUBACK a_UNSUBSCRIBE a_BY_CODE k_BY_CODE (ub &&& (15 : Int32)) h0 n0 Z0 HW) hZ (hw _ (List.mem_of_getElem? (i := 9) rfl)) (hw _ (List.mem_of_getElem? (i := 8) rfl)) (by decide) (by decide)) (g := (mkF m 38 #[.val (.int ua), .val (.int ub), .val (.int ua), .val (.int (ub &&& (15 : Int32))), .val (.int ((ub >>> ((4 : Int32) &&& 31)) % (20 : Int32))), .val (.int (1 : Int32)), .unset, .unset] [(.int (ub &&& (15 : Int32))), (own_f1 (ub &&& (15 : Int32)) a_CONNECT a_CONNACK a_PUBLISH a_PUBACK a_PUBREC a_PUBREL a_PUBCOMP a_SUBSCRIBE a_SUBACK a_UNSUBSCRIBE a_UNSUBACK a_PINGREQ a_PINGRESP a_DISCONNECT a_AUTH)])) rfl (by rw [hml]; rfl) (argsL := [(.int (ub &&& (15 : Int32)))]) (rest := [(own_f1 (ub &&& (15 : Int32)) a_CONNECT a_CONNACK a_PUBLISH a_PUBACK a_PUBREC a_PUBREL a_PUBCOMP a_SUBSCRIBE a_SUBACK a_UNSUBSCRIBE a_UNSUBACK a_PINGREQ a_PINGRESP a_DISCONNECT a_AUTH)]) (lenOf pd_0__I_Lcom_example_mqtt_packet_codec_mqttpacketcodec_PacketType_ rfl) rfl (by show 2 * 0 + _ ≤ _; simp only [List.map_cons, List.map_nil, List.sum_cons, List.sum_nil, XT.cat1 (own_f1_ref _ a_CONNECT a_CONNACK a_PUBLISH a_PUBACK a_PUBREC a_PUBREL a_PUBCOMP a_SUBSCRIBE a_SUBACK a_UNSUBSCRIBE a_UNSUBACK a_PINGREQ a_PINGRESP a_DISCONNECT a_AUTH), own_cat1, own_cat2, own_cat3, own_cat4]; exact Nat.le_refl _) (hb hby at_38) (fun _ _ => ⟨rfl, e3, (by decide : 0 + 0 ≤ _), (by decide : 0 + 0 ≤ _)⟩)
  dsimp only [Pt.U, Pt.locs, Pt.cells, Pt.slots] at X4 l4 y4 z4 st4 hQ4
  subst l4 y4 z4
  obtain ⟨rfl, N4, e4⟩ := hQ4
  refine own_by (B := T4.setTop (mkF m 41 #[.val (.int ua), .val (.int ub), .val (.int ua), .val (.int (ub &&& (15 : Int32))), .val (.int ((ub >>> ((4 : Int32) &&& 31)) % (20 : Int32))), .val (.int (1 : Int32)), .unset, .unset] [(own_f2 (ub &&& (15 : Int32)) a_CONNECT a_CONNACK a_PUBLISH a_PUBACK a_PUBREC a_PUBREL a_PUBCOMP a_SUBSCRIBE a_SUBACK a_UNSUBSCRIBE a_UNSUBACK a_PINGREQ a_PINGRESP a_DISCONNECT a_AUTH), (own_f1 (ub &&& (15 : Int32)) a_CONNECT a_CONNACK a_PUBLISH a_PUBACK a_PUBREC a_PUBREL a_PUBCOMP a_SUBSCRIBE a_SUBACK a_UNSUBSCRIBE a_UNSUBACK a_PINGREQ a_PINGRESP a_DISCONNECT a_AUTH)])) st4 ?_
  have M4 := Fr.app M3 N4
  rw [own_same]
  refine own_by (B := T4.setTop (mkF m 44 #[.val (.int ua), .val (.int ub), .val (.int ua), .val (.int (ub &&& (15 : Int32))), .val (.int ((ub >>> ((4 : Int32) &&& 31)) % (20 : Int32))), .val (.int (1 : Int32)), .unset, .unset] [])) (fun _ k => XT.acmpNo X4.here hx rfl (hb hby at_41) rfl (own_f2_ref _ a_CONNECT a_CONNACK a_PUBLISH a_PUBACK a_PUBREC a_PUBREL a_PUBCOMP a_SUBSCRIBE a_SUBACK a_UNSUBSCRIBE a_UNSUBACK a_PINGREQ a_PINGRESP a_DISCONNECT a_AUTH) (own_f2_ref _ a_CONNECT a_CONNACK a_PUBLISH a_PUBACK a_PUBREC a_PUBREL a_PUBCOMP a_SUBSCRIBE a_SUBACK a_UNSUBSCRIBE a_UNSUBACK a_PINGREQ a_PINGRESP a_DISCONNECT a_AUTH) (XT.aa_ne_f rfl) k) ?_
  refine own_by (B := T4.setTop (mkF m 45 #[.val (.int ua), .val (.int ub), .val (.int ua), .val (.int (ub &&& (15 : Int32))), .val (.int ((ub >>> ((4 : Int32) &&& 31)) % (20 : Int32))), .val (.int (1 : Int32)), .unset, .unset] [(.int (1 : Int32))])) (fun _ k => XS.iconst X4.here hx rfl (hb hby at_44) k) ?_
  refine own_by (B := T4.setTop (mkF m 49 #[.val (.int ua), .val (.int ub), .val (.int ua), .val (.int (ub &&& (15 : Int32))), .val (.int ((ub >>> ((4 : Int32) &&& 31)) % (20 : Int32))), .val (.int (1 : Int32)), .unset, .unset] [(.int (1 : Int32))])) (fun _ k => XS.goto X4.here hx rfl (pc0 := 45) (pc' := 49) rfl (hb hby at_45) (by decide) (by decide) k) ?_
  refine own_by (B := T4.setTop (mkF m 51 #[.val (.int ua), .val (.int ub), .val (.int ua), .val (.int (ub &&& (15 : Int32))), .val (.int ((ub >>> ((4 : Int32) &&& 31)) % (20 : Int32))), .val (.int (1 : Int32)), .val (.int (1 : Int32)), .unset] [])) (fun _ k => XS.istore X4.here hx rfl (hb hby at_49) rfl (l' := #[.val (.int ua), .val (.int ub), .val (.int ua), .val (.int (ub &&& (15 : Int32))), .val (.int ((ub >>> ((4 : Int32) &&& 31)) % (20 : Int32))), .val (.int (1 : Int32)), .val (.int (1 : Int32)), .unset]) rfl k) ?_
  refine own_by (B := T4.setTop (mkF m 53 #[.val (.int ua), .val (.int ub), .val (.int ua), .val (.int (ub &&& (15 : Int32))), .val (.int ((ub >>> ((4 : Int32) &&& 31)) % (20 : Int32))), .val (.int (1 : Int32)), .val (.int (1 : Int32)), .unset] [(.int ((ub >>> ((4 : Int32) &&& 31)) % (20 : Int32)))])) (fun _ k => XS.iload X4.here hx rfl (hb hby at_51) rfl  k) ?_
  obtain ⟨_, _, ⟨T5, L5, k5, n5⟩, -, X5, ⟨Lc5, hQ5, l5, y5, z5⟩, st5⟩ := Jvm.LawKit.callS X4 hx (y := (⟨"com/example/mqtt_packet_codec/mqttpacketcodec/PacketType", "fromCode", "(I)Lcom/example/mqtt_packet_codec/mqttpacketcodec/PacketType;"⟩ : MethodName)) hown (mvT hZ (hw _ (List.mem_of_getElem? (i := 0) rfl))) (mvT hZ (hw _ (List.mem_of_getElem? (i := 1) rfl))) (mvT hZ (hw _ (List.mem_of_getElem? (i := 2) rfl))) (mvT hZ (hw _ (List.mem_of_getElem? (i := 3) rfl))) (by decide) (backOf (W := 0) (rm1 l Z a0 hw [] a_PUBLISH a_DISCONNECT a_CONNECT a_SUBSCRIBE a_PUBACK a_PINGRESP a_PUBREL a_AUTH a_PUBCOMP a_PINGREQ a_PUBREC a_UNSUBACK a_CONNACK a_SUBACK a_UNSUBSCRIBE a_BY_CODE k_BY_CODE ((ub >>> ((4 : Int32) &&& 31)) % (20 : Int32)) h0 n0 Z0 HW) hZ (hw _ (List.mem_of_getElem? (i := 3) rfl)) (hw _ (List.mem_of_getElem? (i := 2) rfl)) (by decide) (by decide)) (g := (mkF m 53 #[.val (.int ua), .val (.int ub), .val (.int ua), .val (.int (ub &&& (15 : Int32))), .val (.int ((ub >>> ((4 : Int32) &&& 31)) % (20 : Int32))), .val (.int (1 : Int32)), .val (.int (1 : Int32)), .unset] [(.int ((ub >>> ((4 : Int32) &&& 31)) % (20 : Int32)))])) rfl (by rw [hml]; rfl) (argsL := [(.int ((ub >>> ((4 : Int32) &&& 31)) % (20 : Int32)))]) (rest := []) (lenOf pd_0__I_Lcom_example_mqtt_packet_codec_mqttpacketcodec_PacketType_ rfl) rfl (by show 2 * 0 + _ ≤ _; exact Nat.le_of_eq rfl) (hb hby at_53) (fun _ _ => ⟨rfl, e4, (by decide : 0 + 0 ≤ _), (by decide : 0 + 0 ≤ _)⟩)
  dsimp only [Pt.U, Pt.locs, Pt.cells, Pt.slots] at X5 l5 y5 z5 st5 hQ5
  subst l5 y5 z5
  obtain ⟨rfl, N5, e5⟩ := hQ5
  refine own_by (B := T5.setTop (mkF m 56 #[.val (.int ua), .val (.int ub), .val (.int ua), .val (.int (ub &&& (15 : Int32))), .val (.int ((ub >>> ((4 : Int32) &&& 31)) % (20 : Int32))), .val (.int (1 : Int32)), .val (.int (1 : Int32)), .unset] [(own_f1 ((ub >>> ((4 : Int32) &&& 31)) % (20 : Int32)) a_CONNECT a_CONNACK a_PUBLISH a_PUBACK a_PUBREC a_PUBREL a_PUBCOMP a_SUBSCRIBE a_SUBACK a_UNSUBSCRIBE a_UNSUBACK a_PINGREQ a_PINGRESP a_DISCONNECT a_AUTH)])) st5 ?_
  have M5 := Fr.app M4 N5
  refine own_by (B := T5.setTop (mkF m 58 #[.val (.int ua), .val (.int ub), .val (.int ua), .val (.int (ub &&& (15 : Int32))), .val (.int ((ub >>> ((4 : Int32) &&& 31)) % (20 : Int32))), .val (.int (1 : Int32)), .val (.int (1 : Int32)), .unset] [(.int ((ub >>> ((4 : Int32) &&& 31)) % (20 : Int32))), (own_f1 ((ub >>> ((4 : Int32) &&& 31)) % (20 : Int32)) a_CONNECT a_CONNACK a_PUBLISH a_PUBACK a_PUBREC a_PUBREL a_PUBCOMP a_SUBSCRIBE a_SUBACK a_UNSUBSCRIBE a_UNSUBACK a_PINGREQ a_PINGRESP a_DISCONNECT a_AUTH)])) (fun _ k => XS.iload X5.here hx rfl (hb hby at_56) rfl  k) ?_
  obtain ⟨_, _, ⟨T6, L6, k6, n6⟩, -, X6, ⟨Lc6, hQ6, l6, y6, z6⟩, st6⟩ := Jvm.LawKit.callS X5 hx (y := (⟨"com/example/mqtt_packet_codec/mqttpacketcodec/PacketTypeFromCodePinLaw", "expected", "(I)Lcom/example/mqtt_packet_codec/mqttpacketcodec/PacketType;"⟩ : MethodName)) hown (mvT hZ (hw _ (List.mem_of_getElem? (i := 6) rfl))) (mvT hZ (hw _ (List.mem_of_getElem? (i := 7) rfl))) (mvT hZ (hw _ (List.mem_of_getElem? (i := 8) rfl))) (mvT hZ (hw _ (List.mem_of_getElem? (i := 9) rfl))) (by decide) (backOf (W := 1) (rm2 l Z a0 hw [] a_PUBLISH a_DISCONNECT a_CONNECT a_SUBSCRIBE a_PUBACK a_PINGRESP a_PUBREL a_AUTH a_PUBCOMP a_PINGREQ a_PUBREC a_UNSUBACK a_CONNACK a_SUBACK a_UNSUBSCRIBE a_BY_CODE k_BY_CODE ((ub >>> ((4 : Int32) &&& 31)) % (20 : Int32)) h0 n0 Z0 HW) hZ (hw _ (List.mem_of_getElem? (i := 9) rfl)) (hw _ (List.mem_of_getElem? (i := 8) rfl)) (by decide) (by decide)) (g := (mkF m 58 #[.val (.int ua), .val (.int ub), .val (.int ua), .val (.int (ub &&& (15 : Int32))), .val (.int ((ub >>> ((4 : Int32) &&& 31)) % (20 : Int32))), .val (.int (1 : Int32)), .val (.int (1 : Int32)), .unset] [(.int ((ub >>> ((4 : Int32) &&& 31)) % (20 : Int32))), (own_f1 ((ub >>> ((4 : Int32) &&& 31)) % (20 : Int32)) a_CONNECT a_CONNACK a_PUBLISH a_PUBACK a_PUBREC a_PUBREL a_PUBCOMP a_SUBSCRIBE a_SUBACK a_UNSUBSCRIBE a_UNSUBACK a_PINGREQ a_PINGRESP a_DISCONNECT a_AUTH)])) rfl (by rw [hml]; rfl) (argsL := [(.int ((ub >>> ((4 : Int32) &&& 31)) % (20 : Int32)))]) (rest := [(own_f1 ((ub >>> ((4 : Int32) &&& 31)) % (20 : Int32)) a_CONNECT a_CONNACK a_PUBLISH a_PUBACK a_PUBREC a_PUBREL a_PUBCOMP a_SUBSCRIBE a_SUBACK a_UNSUBSCRIBE a_UNSUBACK a_PINGREQ a_PINGRESP a_DISCONNECT a_AUTH)]) (lenOf pd_0__I_Lcom_example_mqtt_packet_codec_mqttpacketcodec_PacketType_ rfl) rfl (by show 2 * 0 + _ ≤ _; simp only [List.map_cons, List.map_nil, List.sum_cons, List.sum_nil, XT.cat1 (own_f1_ref _ a_CONNECT a_CONNACK a_PUBLISH a_PUBACK a_PUBREC a_PUBREL a_PUBCOMP a_SUBSCRIBE a_SUBACK a_UNSUBSCRIBE a_UNSUBACK a_PINGREQ a_PINGRESP a_DISCONNECT a_AUTH), own_cat1, own_cat2, own_cat3, own_cat4]; exact Nat.le_refl _) (hb hby at_58) (fun _ _ => ⟨rfl, e5, (by decide : 0 + 0 ≤ _), (by decide : 0 + 0 ≤ _)⟩)
  dsimp only [Pt.U, Pt.locs, Pt.cells, Pt.slots] at X6 l6 y6 z6 st6 hQ6
  subst l6 y6 z6
  obtain ⟨rfl, N6, e6⟩ := hQ6
  refine own_by (B := T6.setTop (mkF m 61 #[.val (.int ua), .val (.int ub), .val (.int ua), .val (.int (ub &&& (15 : Int32))), .val (.int ((ub >>> ((4 : Int32) &&& 31)) % (20 : Int32))), .val (.int (1 : Int32)), .val (.int (1 : Int32)), .unset] [(own_f2 ((ub >>> ((4 : Int32) &&& 31)) % (20 : Int32)) a_CONNECT a_CONNACK a_PUBLISH a_PUBACK a_PUBREC a_PUBREL a_PUBCOMP a_SUBSCRIBE a_SUBACK a_UNSUBSCRIBE a_UNSUBACK a_PINGREQ a_PINGRESP a_DISCONNECT a_AUTH), (own_f1 ((ub >>> ((4 : Int32) &&& 31)) % (20 : Int32)) a_CONNECT a_CONNACK a_PUBLISH a_PUBACK a_PUBREC a_PUBREL a_PUBCOMP a_SUBSCRIBE a_SUBACK a_UNSUBSCRIBE a_UNSUBACK a_PINGREQ a_PINGRESP a_DISCONNECT a_AUTH)])) st6 ?_
  have M6 := Fr.app M5 N6
  rw [own_same]
  refine own_by (B := T6.setTop (mkF m 64 #[.val (.int ua), .val (.int ub), .val (.int ua), .val (.int (ub &&& (15 : Int32))), .val (.int ((ub >>> ((4 : Int32) &&& 31)) % (20 : Int32))), .val (.int (1 : Int32)), .val (.int (1 : Int32)), .unset] [])) (fun _ k => XT.acmpNo X6.here hx rfl (hb hby at_61) rfl (own_f2_ref _ a_CONNECT a_CONNACK a_PUBLISH a_PUBACK a_PUBREC a_PUBREL a_PUBCOMP a_SUBSCRIBE a_SUBACK a_UNSUBSCRIBE a_UNSUBACK a_PINGREQ a_PINGRESP a_DISCONNECT a_AUTH) (own_f2_ref _ a_CONNECT a_CONNACK a_PUBLISH a_PUBACK a_PUBREC a_PUBREL a_PUBCOMP a_SUBSCRIBE a_SUBACK a_UNSUBSCRIBE a_UNSUBACK a_PINGREQ a_PINGRESP a_DISCONNECT a_AUTH) (XT.aa_ne_f rfl) k) ?_
  refine own_by (B := T6.setTop (mkF m 65 #[.val (.int ua), .val (.int ub), .val (.int ua), .val (.int (ub &&& (15 : Int32))), .val (.int ((ub >>> ((4 : Int32) &&& 31)) % (20 : Int32))), .val (.int (1 : Int32)), .val (.int (1 : Int32)), .unset] [(.int (1 : Int32))])) (fun _ k => XS.iconst X6.here hx rfl (hb hby at_64) k) ?_
  refine own_by (B := T6.setTop (mkF m 69 #[.val (.int ua), .val (.int ub), .val (.int ua), .val (.int (ub &&& (15 : Int32))), .val (.int ((ub >>> ((4 : Int32) &&& 31)) % (20 : Int32))), .val (.int (1 : Int32)), .val (.int (1 : Int32)), .unset] [(.int (1 : Int32))])) (fun _ k => XS.goto X6.here hx rfl (pc0 := 65) (pc' := 69) rfl (hb hby at_65) (by decide) (by decide) k) ?_
  refine own_by (B := T6.setTop (mkF m 71 #[.val (.int ua), .val (.int ub), .val (.int ua), .val (.int (ub &&& (15 : Int32))), .val (.int ((ub >>> ((4 : Int32) &&& 31)) % (20 : Int32))), .val (.int (1 : Int32)), .val (.int (1 : Int32)), .val (.int (1 : Int32))] [])) (fun _ k => XS.istore X6.here hx rfl (hb hby at_69) rfl (l' := #[.val (.int ua), .val (.int ub), .val (.int ua), .val (.int (ub &&& (15 : Int32))), .val (.int ((ub >>> ((4 : Int32) &&& 31)) % (20 : Int32))), .val (.int (1 : Int32)), .val (.int (1 : Int32)), .val (.int (1 : Int32))]) rfl k) ?_
  refine own_by (B := T6.setTop (mkF m 73 #[.val (.int ua), .val (.int ub), .val (.int ua), .val (.int (ub &&& (15 : Int32))), .val (.int ((ub >>> ((4 : Int32) &&& 31)) % (20 : Int32))), .val (.int (1 : Int32)), .val (.int (1 : Int32)), .val (.int (1 : Int32))] [(.int (1 : Int32))])) (fun _ k => XS.iload X6.here hx rfl (hb hby at_71) rfl  k) ?_
  refine own_by (B := T6.setTop (mkF m 76 #[.val (.int ua), .val (.int ub), .val (.int ua), .val (.int (ub &&& (15 : Int32))), .val (.int ((ub >>> ((4 : Int32) &&& 31)) % (20 : Int32))), .val (.int (1 : Int32)), .val (.int (1 : Int32)), .val (.int (1 : Int32))] [])) (fun _ k => XS.ifNo X6.here hx rfl (hb hby at_73) rfl (XT.i0_eq_f (by decide)) k) ?_
  refine own_by (B := T6.setTop (mkF m 78 #[.val (.int ua), .val (.int ub), .val (.int ua), .val (.int (ub &&& (15 : Int32))), .val (.int ((ub >>> ((4 : Int32) &&& 31)) % (20 : Int32))), .val (.int (1 : Int32)), .val (.int (1 : Int32)), .val (.int (1 : Int32))] [(.int (1 : Int32))])) (fun _ k => XS.iload X6.here hx rfl (hb hby at_76) rfl  k) ?_
  refine own_by (B := T6.setTop (mkF m 81 #[.val (.int ua), .val (.int ub), .val (.int ua), .val (.int (ub &&& (15 : Int32))), .val (.int ((ub >>> ((4 : Int32) &&& 31)) % (20 : Int32))), .val (.int (1 : Int32)), .val (.int (1 : Int32)), .val (.int (1 : Int32))] [])) (fun _ k => XS.ifNo X6.here hx rfl (hb hby at_78) rfl (XT.i0_eq_f (by decide)) k) ?_
  refine own_by (B := T6.setTop (mkF m 83 #[.val (.int ua), .val (.int ub), .val (.int ua), .val (.int (ub &&& (15 : Int32))), .val (.int ((ub >>> ((4 : Int32) &&& 31)) % (20 : Int32))), .val (.int (1 : Int32)), .val (.int (1 : Int32)), .val (.int (1 : Int32))] [(.int (1 : Int32))])) (fun _ k => XS.iload X6.here hx rfl (hb hby at_81) rfl  k) ?_
  refine own_by (B := T6.setTop (mkF m 86 #[.val (.int ua), .val (.int ub), .val (.int ua), .val (.int (ub &&& (15 : Int32))), .val (.int ((ub >>> ((4 : Int32) &&& 31)) % (20 : Int32))), .val (.int (1 : Int32)), .val (.int (1 : Int32)), .val (.int (1 : Int32))] [])) (fun _ k => XS.ifNo X6.here hx rfl (hb hby at_83) rfl (XT.i0_eq_f (by decide)) k) ?_
  refine own_by (B := T6.setTop (mkF m 87 #[.val (.int ua), .val (.int ub), .val (.int ua), .val (.int (ub &&& (15 : Int32))), .val (.int ((ub >>> ((4 : Int32) &&& 31)) % (20 : Int32))), .val (.int (1 : Int32)), .val (.int (1 : Int32)), .val (.int (1 : Int32))] [(.int (1 : Int32))])) (fun _ k => XS.iconst X6.here hx rfl (hb hby at_86) k) ?_
  refine own_by (B := T6.setTop (mkF m 91 #[.val (.int ua), .val (.int ub), .val (.int ua), .val (.int (ub &&& (15 : Int32))), .val (.int ((ub >>> ((4 : Int32) &&& 31)) % (20 : Int32))), .val (.int (1 : Int32)), .val (.int (1 : Int32)), .val (.int (1 : Int32))] [(.int (1 : Int32))])) (fun _ k => XS.goto X6.here hx rfl (pc0 := 87) (pc' := 91) rfl (hb hby at_87) (by decide) (by decide) k) ?_
  exact own_retZ X6 hx hrt hlk rfl (hb hby at_91) (by decide) (by decide) ⟨rfl, M6⟩

set_option maxRecDepth 65536 in
set_option maxHeartbeats 40000000 in
theorem comes_1 {Post : Tables → Env → Array Value → State → Outcome → State → Prop} (hpost : ∀ tb e args s v u, (limb_1_1.after args s (.returned v) u = true ∧ limb_1_2.after args s (.returned v) u = true ∧ True) → FrameEnd s (.returned v) u (Jvm.fieldLocs frame_1_writes args s ++ Jvm.arrayLocs frame_1_arrays args s ++ Jvm.staticLocs frame_1_statics s) 0 0 → Post tb e args s (.returned v) u) :
    ArmFor flags0 classFile x code maxLocals ret World_1 tables_1 room_1 Calls_1 rest_1 Pre_1 Post := by
  intro l hfl _ _ p e ha hc hk s m args below hf hA hF happ hP
  obtain ⟨hcalls, hrest, hpre⟩ := hP
  obtain ⟨-, -, -, hnamed, -, -, -, hat⟩ := (Spec.applies_iff hf).mp happ
  obtain ⟨hg, hn⟩ := and_e (Cond.before_iff.mp (show (Jvm.Cond.and given_1 narrow_1).before args s = true from hpre))
  obtain ⟨hg1a, hg1b⟩ := and_e hg
  obtain ⟨hg2a, hg2b⟩ := and_e hg1b
  obtain ⟨w0, w1, rfl⟩ : ∃ w0 w1 : Value, args = #[w0, w1] := by
    have hs : args.size = 2 := by simpa [Cond.value, given_1] using hg1a
    obtain ⟨L⟩ := args
    match L, hs with
    | [w0, w1], _ => exact ⟨w0, w1, rfl⟩
  have hw := fun d (hd : d ∈ tables_1) => atoms_spec (ws := Jvm.Cond.code x code maxLocals ret :: tables_1) hat d (List.mem_cons_of_mem _ hd)
  have hfit : Fit s := fun {y c} hc i hi => by
    obtain ⟨ha, rfl⟩ := Array.getElem?_eq_some_iff.mp hc
    have q := List.all_eq_true.mp ((Array.all_eq_true_iff_forall_mem.mp hF) _ (Array.getElem_mem ha)) i (List.mem_range.mpr hi)
    simpa [Array.getElem?_eq_getElem hi] using q
  obtain ⟨i0, ei0⟩ := is_v hg2a
  obtain rfl : w0 = (.int i0) := Option.some.inj ei0
  obtain ⟨i1, ei1⟩ := is_v hg2b
  obtain rfl : w1 = (.int i1) := Option.some.inj ei1
  obtain ⟨hn1a, hn1b⟩ := and_e hn
  obtain ⟨hn2a, hn2b⟩ := and_e hn1b
  obtain ⟨hn3a, hn3b⟩ := and_e hn2b
  obtain ⟨hn4a, hn4b⟩ := and_e hn3b
  obtain ⟨hn5a, hn5b⟩ := and_e hn4b
  obtain ⟨hn6a, hn6b⟩ := and_e hn5b
  obtain ⟨hn7a, hn7b⟩ := and_e hn6b
  obtain ⟨hn8a, hn8b⟩ := and_e hn7b
  obtain ⟨hn9a, hn9b⟩ := and_e hn8b
  obtain ⟨hn10a, hn10b⟩ := and_e hn9b
  obtain ⟨hn11a, hn11b⟩ := and_e hn10b
  obtain ⟨hn12a, hn12b⟩ := and_e hn11b
  obtain ⟨hn13a, hn13b⟩ := and_e hn12b
  obtain ⟨hn14a, hn14b⟩ := and_e hn13b
  obtain ⟨hn15a, hn15b⟩ := and_e hn14b
  obtain ⟨hn16a, hn16b⟩ := and_e hn15b
  obtain ⟨hn17a, hn17b⟩ := and_e hn16b
  obtain ⟨hn18a, hn18b⟩ := and_e hn17b
  obtain ⟨hn19a, hn19b⟩ := and_e hn18b
  obtain ⟨hn20a, hn20b⟩ := and_e hn19b
  obtain ⟨hn21a, hn21b⟩ := and_e hn20b
  obtain ⟨hn22a, hn22b⟩ := and_e hn21b
  obtain ⟨hn23a, hn23b⟩ := and_e hn22b
  obtain ⟨hn24a, hn24b⟩ := and_e hn23b
  obtain ⟨hn25a, hn25b⟩ := and_e hn24b
  obtain ⟨hn26a, hn26b⟩ := and_e hn25b
  obtain ⟨hn27a, hn27b⟩ := and_e hn26b
  obtain ⟨hn28a, hn28b⟩ := and_e hn27b
  obtain ⟨hn29a, hn29b⟩ := and_e hn28b
  obtain ⟨hn30a, hn30b⟩ := and_e hn29b
  obtain ⟨hn31a, hn31b⟩ := and_e hn30b
  obtain ⟨hn32a, hn32b⟩ := and_e hn31b
  obtain ⟨a_PUBLISH, ev_PUBLISH⟩ := exa_v hn4a
  have E_PUBLISH : Exa s s.heap a_PUBLISH "com/example/mqtt_packet_codec/mqttpacketcodec/PacketType" := Exa.start ev_PUBLISH hn4a
  have S_PUBLISH : Sta s s.heap "com/example/mqtt_packet_codec/mqttpacketcodec/PacketType" "PUBLISH" "Lcom/example/mqtt_packet_codec/mqttpacketcodec/PacketType;" (.ref a_PUBLISH) := Sta.start ev_PUBLISH (Or.inr ⟨(hw _ (List.mem_of_getElem? (i := 2) rfl)), (hw _ (List.mem_of_getElem? (i := 10) rfl))⟩)
  obtain ⟨a_DISCONNECT, ev_DISCONNECT⟩ := exa_v hn6a
  have E_DISCONNECT : Exa s s.heap a_DISCONNECT "com/example/mqtt_packet_codec/mqttpacketcodec/PacketType" := Exa.start ev_DISCONNECT hn6a
  have S_DISCONNECT : Sta s s.heap "com/example/mqtt_packet_codec/mqttpacketcodec/PacketType" "DISCONNECT" "Lcom/example/mqtt_packet_codec/mqttpacketcodec/PacketType;" (.ref a_DISCONNECT) := Sta.start ev_DISCONNECT (Or.inr ⟨(hw _ (List.mem_of_getElem? (i := 2) rfl)), (hw _ (List.mem_of_getElem? (i := 12) rfl))⟩)
  obtain ⟨a_CONNECT, ev_CONNECT⟩ := exa_v hn8a
  have E_CONNECT : Exa s s.heap a_CONNECT "com/example/mqtt_packet_codec/mqttpacketcodec/PacketType" := Exa.start ev_CONNECT hn8a
  have S_CONNECT : Sta s s.heap "com/example/mqtt_packet_codec/mqttpacketcodec/PacketType" "CONNECT" "Lcom/example/mqtt_packet_codec/mqttpacketcodec/PacketType;" (.ref a_CONNECT) := Sta.start ev_CONNECT (Or.inr ⟨(hw _ (List.mem_of_getElem? (i := 2) rfl)), (hw _ (List.mem_of_getElem? (i := 14) rfl))⟩)
  obtain ⟨a_SUBSCRIBE, ev_SUBSCRIBE⟩ := exa_v hn10a
  have E_SUBSCRIBE : Exa s s.heap a_SUBSCRIBE "com/example/mqtt_packet_codec/mqttpacketcodec/PacketType" := Exa.start ev_SUBSCRIBE hn10a
  have S_SUBSCRIBE : Sta s s.heap "com/example/mqtt_packet_codec/mqttpacketcodec/PacketType" "SUBSCRIBE" "Lcom/example/mqtt_packet_codec/mqttpacketcodec/PacketType;" (.ref a_SUBSCRIBE) := Sta.start ev_SUBSCRIBE (Or.inr ⟨(hw _ (List.mem_of_getElem? (i := 2) rfl)), (hw _ (List.mem_of_getElem? (i := 16) rfl))⟩)
  obtain ⟨a_PUBACK, ev_PUBACK⟩ := exa_v hn12a
  have E_PUBACK : Exa s s.heap a_PUBACK "com/example/mqtt_packet_codec/mqttpacketcodec/PacketType" := Exa.start ev_PUBACK hn12a
  have S_PUBACK : Sta s s.heap "com/example/mqtt_packet_codec/mqttpacketcodec/PacketType" "PUBACK" "Lcom/example/mqtt_packet_codec/mqttpacketcodec/PacketType;" (.ref a_PUBACK) := Sta.start ev_PUBACK (Or.inr ⟨(hw _ (List.mem_of_getElem? (i := 2) rfl)), (hw _ (List.mem_of_getElem? (i := 18) rfl))⟩)
  obtain ⟨a_PINGRESP, ev_PINGRESP⟩ := exa_v hn14a
  have E_PINGRESP : Exa s s.heap a_PINGRESP "com/example/mqtt_packet_codec/mqttpacketcodec/PacketType" := Exa.start ev_PINGRESP hn14a
  have S_PINGRESP : Sta s s.heap "com/example/mqtt_packet_codec/mqttpacketcodec/PacketType" "PINGRESP" "Lcom/example/mqtt_packet_codec/mqttpacketcodec/PacketType;" (.ref a_PINGRESP) := Sta.start ev_PINGRESP (Or.inr ⟨(hw _ (List.mem_of_getElem? (i := 2) rfl)), (hw _ (List.mem_of_getElem? (i := 20) rfl))⟩)
  obtain ⟨a_PUBREL, ev_PUBREL⟩ := exa_v hn16a
  have E_PUBREL : Exa s s.heap a_PUBREL "com/example/mqtt_packet_codec/mqttpacketcodec/PacketType" := Exa.start ev_PUBREL hn16a
  have S_PUBREL : Sta s s.heap "com/example/mqtt_packet_codec/mqttpacketcodec/PacketType" "PUBREL" "Lcom/example/mqtt_packet_codec/mqttpacketcodec/PacketType;" (.ref a_PUBREL) := Sta.start ev_PUBREL (Or.inr ⟨(hw _ (List.mem_of_getElem? (i := 2) rfl)), (hw _ (List.mem_of_getElem? (i := 22) rfl))⟩)
  obtain ⟨a_AUTH, ev_AUTH⟩ := exa_v hn18a
  have E_AUTH : Exa s s.heap a_AUTH "com/example/mqtt_packet_codec/mqttpacketcodec/PacketType" := Exa.start ev_AUTH hn18a
  have S_AUTH : Sta s s.heap "com/example/mqtt_packet_codec/mqttpacketcodec/PacketType" "AUTH" "Lcom/example/mqtt_packet_codec/mqttpacketcodec/PacketType;" (.ref a_AUTH) := Sta.start ev_AUTH (Or.inr ⟨(hw _ (List.mem_of_getElem? (i := 2) rfl)), (hw _ (List.mem_of_getElem? (i := 24) rfl))⟩)
  obtain ⟨a_PUBCOMP, ev_PUBCOMP⟩ := exa_v hn20a
  have E_PUBCOMP : Exa s s.heap a_PUBCOMP "com/example/mqtt_packet_codec/mqttpacketcodec/PacketType" := Exa.start ev_PUBCOMP hn20a
  have S_PUBCOMP : Sta s s.heap "com/example/mqtt_packet_codec/mqttpacketcodec/PacketType" "PUBCOMP" "Lcom/example/mqtt_packet_codec/mqttpacketcodec/PacketType;" (.ref a_PUBCOMP) := Sta.start ev_PUBCOMP (Or.inr ⟨(hw _ (List.mem_of_getElem? (i := 2) rfl)), (hw _ (List.mem_of_getElem? (i := 26) rfl))⟩)
  obtain ⟨a_PINGREQ, ev_PINGREQ⟩ := exa_v hn22a
  have E_PINGREQ : Exa s s.heap a_PINGREQ "com/example/mqtt_packet_codec/mqttpacketcodec/PacketType" := Exa.start ev_PINGREQ hn22a
  have S_PINGREQ : Sta s s.heap "com/example/mqtt_packet_codec/mqttpacketcodec/PacketType" "PINGREQ" "Lcom/example/mqtt_packet_codec/mqttpacketcodec/PacketType;" (.ref a_PINGREQ) := Sta.start ev_PINGREQ (Or.inr ⟨(hw _ (List.mem_of_getElem? (i := 2) rfl)), (hw _ (List.mem_of_getElem? (i := 28) rfl))⟩)
  obtain ⟨a_PUBREC, ev_PUBREC⟩ := exa_v hn24a
  have E_PUBREC : Exa s s.heap a_PUBREC "com/example/mqtt_packet_codec/mqttpacketcodec/PacketType" := Exa.start ev_PUBREC hn24a
  have S_PUBREC : Sta s s.heap "com/example/mqtt_packet_codec/mqttpacketcodec/PacketType" "PUBREC" "Lcom/example/mqtt_packet_codec/mqttpacketcodec/PacketType;" (.ref a_PUBREC) := Sta.start ev_PUBREC (Or.inr ⟨(hw _ (List.mem_of_getElem? (i := 2) rfl)), (hw _ (List.mem_of_getElem? (i := 30) rfl))⟩)
  obtain ⟨a_UNSUBACK, ev_UNSUBACK⟩ := exa_v hn26a
  have E_UNSUBACK : Exa s s.heap a_UNSUBACK "com/example/mqtt_packet_codec/mqttpacketcodec/PacketType" := Exa.start ev_UNSUBACK hn26a
  have S_UNSUBACK : Sta s s.heap "com/example/mqtt_packet_codec/mqttpacketcodec/PacketType" "UNSUBACK" "Lcom/example/mqtt_packet_codec/mqttpacketcodec/PacketType;" (.ref a_UNSUBACK) := Sta.start ev_UNSUBACK (Or.inr ⟨(hw _ (List.mem_of_getElem? (i := 2) rfl)), (hw _ (List.mem_of_getElem? (i := 32) rfl))⟩)
  obtain ⟨a_CONNACK, ev_CONNACK⟩ := exa_v hn28a
  have E_CONNACK : Exa s s.heap a_CONNACK "com/example/mqtt_packet_codec/mqttpacketcodec/PacketType" := Exa.start ev_CONNACK hn28a
  have S_CONNACK : Sta s s.heap "com/example/mqtt_packet_codec/mqttpacketcodec/PacketType" "CONNACK" "Lcom/example/mqtt_packet_codec/mqttpacketcodec/PacketType;" (.ref a_CONNACK) := Sta.start ev_CONNACK (Or.inr ⟨(hw _ (List.mem_of_getElem? (i := 2) rfl)), (hw _ (List.mem_of_getElem? (i := 34) rfl))⟩)
  obtain ⟨a_SUBACK, ev_SUBACK⟩ := exa_v hn30a
  have E_SUBACK : Exa s s.heap a_SUBACK "com/example/mqtt_packet_codec/mqttpacketcodec/PacketType" := Exa.start ev_SUBACK hn30a
  have S_SUBACK : Sta s s.heap "com/example/mqtt_packet_codec/mqttpacketcodec/PacketType" "SUBACK" "Lcom/example/mqtt_packet_codec/mqttpacketcodec/PacketType;" (.ref a_SUBACK) := Sta.start ev_SUBACK (Or.inr ⟨(hw _ (List.mem_of_getElem? (i := 2) rfl)), (hw _ (List.mem_of_getElem? (i := 36) rfl))⟩)
  obtain ⟨a_UNSUBSCRIBE, ev_UNSUBSCRIBE⟩ := exa_v hn32a
  have E_UNSUBSCRIBE : Exa s s.heap a_UNSUBSCRIBE "com/example/mqtt_packet_codec/mqttpacketcodec/PacketType" := Exa.start ev_UNSUBSCRIBE hn32a
  have S_UNSUBSCRIBE : Sta s s.heap "com/example/mqtt_packet_codec/mqttpacketcodec/PacketType" "UNSUBSCRIBE" "Lcom/example/mqtt_packet_codec/mqttpacketcodec/PacketType;" (.ref a_UNSUBSCRIBE) := Sta.start ev_UNSUBSCRIBE (Or.inr ⟨(hw _ (List.mem_of_getElem? (i := 2) rfl)), (hw _ (List.mem_of_getElem? (i := 38) rfl))⟩)
  obtain ⟨a_BY_CODE, ev_BY_CODE⟩ := arr_v hn1a
  have S_BY_CODE : Sta s s.heap "com/example/mqtt_packet_codec/mqttpacketcodec/PacketType" "BY_CODE" "[Lcom/example/mqtt_packet_codec/mqttpacketcodec/PacketType;" (.ref a_BY_CODE) := Sta.start ev_BY_CODE (Or.inr ⟨(hw _ (List.mem_of_getElem? (i := 2) rfl)), (hw _ (List.mem_of_getElem? (i := 5) rfl))⟩)
  obtain ⟨cl_BY_CODE, A_BY_CODE⟩ := Arr.start ev_BY_CODE hn1a
  obtain ⟨lt_BY_CODE, sz_BY_CODE⟩ := own_len (eqv_i (Term.int_eval _) hn2a) ev_BY_CODE A_BY_CODE
  have V_BY_CODE : Arv s s.heap a_BY_CODE cl_BY_CODE.cls (Jvm.ClassFile.FieldType.object "com/example/mqtt_packet_codec/mqttpacketcodec/PacketType") (16 : Int32) [.null, (.ref a_CONNECT), (.ref a_CONNACK), (.ref a_PUBLISH), (.ref a_PUBACK), (.ref a_PUBREC), (.ref a_PUBREL), (.ref a_PUBCOMP), (.ref a_SUBSCRIBE), (.ref a_SUBACK), (.ref a_UNSUBSCRIBE), (.ref a_UNSUBACK), (.ref a_PINGREQ), (.ref a_PINGRESP), (.ref a_DISCONNECT), (.ref a_AUTH)] .null := Arv.start hfit A_BY_CODE lt_BY_CODE sz_BY_CODE (by decide) rfl ⟨(elem_in (null_v hn3a) ev_BY_CODE (Term.int_eval _) A_BY_CODE.1).2, (elem_in (own_eqvR ev_CONNECT hn9a) ev_BY_CODE (Term.int_eval _) A_BY_CODE.1).2, (elem_in (own_eqvR ev_CONNACK hn29a) ev_BY_CODE (Term.int_eval _) A_BY_CODE.1).2, (elem_in (own_eqvR ev_PUBLISH hn5a) ev_BY_CODE (Term.int_eval _) A_BY_CODE.1).2, (elem_in (own_eqvR ev_PUBACK hn13a) ev_BY_CODE (Term.int_eval _) A_BY_CODE.1).2, (elem_in (own_eqvR ev_PUBREC hn25a) ev_BY_CODE (Term.int_eval _) A_BY_CODE.1).2, (elem_in (own_eqvR ev_PUBREL hn17a) ev_BY_CODE (Term.int_eval _) A_BY_CODE.1).2, (elem_in (own_eqvR ev_PUBCOMP hn21a) ev_BY_CODE (Term.int_eval _) A_BY_CODE.1).2, (elem_in (own_eqvR ev_SUBSCRIBE hn11a) ev_BY_CODE (Term.int_eval _) A_BY_CODE.1).2, (elem_in (own_eqvR ev_SUBACK hn31a) ev_BY_CODE (Term.int_eval _) A_BY_CODE.1).2, (elem_in (own_eqvR ev_UNSUBSCRIBE hn32b) ev_BY_CODE (Term.int_eval _) A_BY_CODE.1).2, (elem_in (own_eqvR ev_UNSUBACK hn27a) ev_BY_CODE (Term.int_eval _) A_BY_CODE.1).2, (elem_in (own_eqvR ev_PINGREQ hn23a) ev_BY_CODE (Term.int_eval _) A_BY_CODE.1).2, (elem_in (own_eqvR ev_PINGRESP hn15a) ev_BY_CODE (Term.int_eval _) A_BY_CODE.1).2, (elem_in (own_eqvR ev_DISCONNECT hn7a) ev_BY_CODE (Term.int_eval _) A_BY_CODE.1).2, (elem_in (own_eqvR ev_AUTH hn19a) ev_BY_CODE (Term.int_eval _) A_BY_CODE.1).2, trivial⟩
  obtain ⟨n, o, h1, h2, h3, _, L, rfl, ⟨rfl, N⟩, hq⟩ := rm0 l s _ hw tables_1 a_PUBLISH a_DISCONNECT a_CONNECT a_SUBSCRIBE a_PUBACK a_PINGRESP a_PUBREL a_AUTH a_PUBCOMP a_PINGREQ a_PUBREC a_UNSUBACK a_CONNACK a_SUBACK a_UNSUBSCRIBE a_BY_CODE cl_BY_CODE.cls i0 i1 s.heap s.heap.size (Nat.le_refl _) ⟨S_PUBLISH, E_PUBLISH, S_DISCONNECT, E_DISCONNECT, S_CONNECT, E_CONNECT, S_SUBSCRIBE, E_SUBSCRIBE, S_PUBACK, E_PUBACK, S_PINGRESP, E_PINGRESP, S_PUBREL, E_PUBREL, S_AUTH, E_AUTH, S_PUBCOMP, E_PUBCOMP, S_PINGREQ, E_PINGREQ, S_PUBREC, E_PUBREC, S_UNSUBACK, E_UNSUBACK, S_CONNACK, E_CONNACK, S_SUBACK, E_SUBACK, S_UNSUBSCRIBE, E_UNSUBSCRIBE, S_BY_CODE, V_BY_CODE⟩ p e ha hc hk s m _ below hf ((Spec.applies_iff_loose hf).mp happ).1 ⟨rfl, State.Warmed39.refl s, rfl⟩ trivial
  refine ⟨n, _, h1, h2, h3, hpost _ _ _ _ _ _ ⟨Cond.after_iff.mpr rfl, Cond.after_iff.mpr (eq_i res_at (Term.int_eval (1)) rfl), trivial⟩ ⟨hq.1, hq.2.1, (hq.2.2.sift fun y hy => Or.inr (N y hy)).mono (by decide) (by decide)⟩⟩
theorem main_1_1 : Claimed_1_1 := comes_1 fun _ _ _ _ _ _ h hF => ⟨h.1, hF⟩
theorem main_1_2 : Claimed_1_2 := comes_1 fun _ _ _ _ _ _ h hF => ⟨h.2.1, hF⟩
end Jvm.Pilot.@@N@@
namespace Jvm.Pilot.@@N@@
open Jvm Jvm.ClassFile Sem Op Lib Jvm.Free Jvm.Stand Jvm.Pilot.@@N@@.Jvm.D
/-! MADE BY PROGRAM (witnessworld.py) out of the Statement's table words and the real class files: 13 classes; the members and pool entries that the words name. The judged class is class 1, her method 2. -/
namespace start1
open Jvm.ClassFile
def u (s : String) : CpInfo := .utf8 (stringToUtf16 s)
/-- a pool by its gaps: so many unusable entries, then the entry; so many at the end -/
def gap : Nat → List CpInfo → List CpInfo
  | 0, r => r
  | n + 1, r => .unusable :: gap n r
def poolList (es : List (Nat × CpInfo)) (last : Nat) : List CpInfo := es.foldr (fun e r => gap e.1 (e.2 :: r)) (gap last [])
def pool (es : List (Nat × CpInfo)) (last : Nat) : Array CpInfo := ⟨poolList es last⟩
def fileOf (pool : Array CpInfo) (this : Nat) (attrs : Array Attribute := #[]) (ms : Array MethodInfo := #[]) (fl : Nat := 33) (sup : Nat := 0) (ifs : Array Nat := #[]) (fds : Array FieldInfo := #[]) : ClassFile where
  minorVersion := 0
  majorVersion := 65
  constantPool := pool
  accessFlags := fl
  thisClass := this
  superClass := sup
  interfaces := ifs
  fields := fds
  methods := ms
  attributes := attrs
def plain (name : String) (sup : Option ClassId) : Class where
  name := name
  kind := .ordinary
  loader := none
  accessFlags := 33
  super := sup
  interfaces := #[]
  cf := none
  fields := #[]
  methods := #[]
  instanceTypes := #[]
  staticTypes := #[]
  resolved := #[]
  callSites := []
  init := .initialized
  statics := none
  mirror := none

def pool0 : Array CpInfo := pool [(5, u "<init>"), (0, u "()V"), (1, .class_ 10), (1, u "java/lang/Object")] 113

def k0m0 : Method := { name := "<init>", desc := "()V", sig := { parameters := [], returnType := none }, accessFlags := 1, code := none }
/-- java/lang/Object -/
def k0 : Class := { plain "java/lang/Object" none with
  accessFlags := 33
  interfaces := #[]
  cf := some (fileOf pool0 8 #[] #[{ accessFlags := 1, nameIndex := 5, descriptorIndex := 6, attributes := #[] }] 33 0 #[] #[])
  fields := #[]
  methods := #[k0m0]
  instanceTypes := #[]
  staticTypes := #[]
  resolved := Array.replicate 124 none
  statics := none }

def pool1 : Array CpInfo := pool [(2, .class_ 4), (1, u "java/lang/Object"), (0, u "<init>"), (0, u "()V"), (0, .fieldref 8 9), (0, .class_ 10), (0, .nameAndType 11 12), (0, u "com/example/mqtt_packet_codec/mqttpacketcodec/PacketType"), (0, u "CONNECT"), (0, u "Lcom/example/mqtt_packet_codec/mqttpacketcodec/PacketType;"), (0, .fieldref 8 14), (0, .nameAndType 15 12), (0, u "CONNACK"), (0, .fieldref 8 17), (0, .nameAndType 18 12), (0, u "PUBLISH"), (0, .fieldref 8 20), (0, .nameAndType 21 12), (0, u "PUBACK"), (0, .fieldref 8 23), (0, .nameAndType 24 12), (0, u "PUBREC"), (0, .fieldref 8 26), (0, .nameAndType 27 12), (0, u "PUBREL"), (0, .fieldref 8 29), (0, .nameAndType 30 12), (0, u "PUBCOMP"), (0, .fieldref 8 32), (0, .nameAndType 33 12), (0, u "SUBSCRIBE"), (0, .fieldref 8 35), (0, .nameAndType 36 12), (0, u "SUBACK"), (0, .fieldref 8 38), (0, .nameAndType 39 12), (0, u "UNSUBSCRIBE"), (0, .fieldref 8 41), (0, .nameAndType 42 12), (0, u "UNSUBACK"), (0, .fieldref 8 44), (0, .nameAndType 45 12), (0, u "PINGREQ"), (0, .fieldref 8 47), (0, .nameAndType 48 12), (0, u "PINGRESP"), (0, .fieldref 8 50), (0, .nameAndType 51 12), (0, u "DISCONNECT"), (0, .fieldref 8 53), (0, .nameAndType 54 12), (0, u "AUTH"), (0, .methodref 8 56), (0, .nameAndType 57 58), (0, u "fromCode"), (0, u "(I)Lcom/example/mqtt_packet_codec/mqttpacketcodec/PacketType;"), (0, .methodref 60 61), (0, .class_ 62), (0, .nameAndType 63 58), (0, u "com/example/mqtt_packet_codec/mqttpacketcodec/PacketTypeFromCodePinLaw"), (0, u "expected"), (3, u "law"), (0, u "(II)Z")] 2

def k1m0 : Method := { name := "<init>", desc := "()V", sig := { parameters := [], returnType := none }, accessFlags := 2, code := none }
def k1c1 : Code := { maxStack := 2, maxLocals := 1, code := method_2_code, exceptionTable := #[], attributes := #[] }
def k1m1 : Method := { name := "expected", desc := "(I)Lcom/example/mqtt_packet_codec/mqttpacketcodec/PacketType;", sig := { parameters := [.int], returnType := some (.object "com/example/mqtt_packet_codec/mqttpacketcodec/PacketType") }, accessFlags := 10, code := some k1c1 }
def k1c2 : Code := { maxStack := 2, maxLocals := 8, code := code, exceptionTable := #[], attributes := #[] }
def k1m2 : Method := { name := "law", desc := "(II)Z", sig := { parameters := [.int, .int], returnType := some .boolean }, accessFlags := 9, code := some k1c2 }
/-- com/example/mqtt_packet_codec/mqttpacketcodec/PacketTypeFromCodePinLaw -/
def k1 : Class := { plain "com/example/mqtt_packet_codec/mqttpacketcodec/PacketTypeFromCodePinLaw" (some 0) with
  accessFlags := 49
  interfaces := #[]
  cf := some (fileOf pool1 60 #[] #[{ accessFlags := 2, nameIndex := 5, descriptorIndex := 6, attributes := #[] }, { accessFlags := 10, nameIndex := 63, descriptorIndex := 58, attributes := #[] }, { accessFlags := 9, nameIndex := 67, descriptorIndex := 68, attributes := #[] }] 49 2 #[] #[])
  fields := #[]
  methods := #[k1m0, k1m1, k1m2]
  instanceTypes := #[]
  staticTypes := #[]
  resolved := Array.replicate 71 none
  statics := none }

def pool2 : Array CpInfo := pool [(1, .class_ 2), (0, u "java/lang/constant/Constable"), (0, .class_ 4), (0, u "java/lang/Object")] 6

/-- java/lang/constant/Constable -/
def k2 : Class := { plain "java/lang/constant/Constable" (some 0) with
  accessFlags := 1537
  interfaces := #[]
  cf := some (fileOf pool2 1 #[] #[] 1537 3 #[] #[])
  fields := #[]
  methods := #[]
  instanceTypes := #[]
  staticTypes := #[]
  resolved := Array.replicate 11 none
  statics := none }

def pool3 : Array CpInfo := pool [(1, .class_ 2), (0, u "java/lang/Comparable"), (0, .class_ 4), (0, u "java/lang/Object")] 7

/-- java/lang/Comparable -/
def k3 : Class := { plain "java/lang/Comparable" (some 0) with
  accessFlags := 1537
  interfaces := #[]
  cf := some (fileOf pool3 1 #[] #[] 1537 3 #[] #[])
  fields := #[]
  methods := #[]
  instanceTypes := #[]
  staticTypes := #[]
  resolved := Array.replicate 12 none
  statics := none }

def pool4 : Array CpInfo := pool [(1, .class_ 2), (0, u "java/io/Serializable"), (0, .class_ 4), (0, u "java/lang/Object")] 2

/-- java/io/Serializable -/
def k4 : Class := { plain "java/io/Serializable" (some 0) with
  accessFlags := 1537
  interfaces := #[]
  cf := some (fileOf pool4 1 #[] #[] 1537 3 #[] #[])
  fields := #[]
  methods := #[]
  instanceTypes := #[]
  staticTypes := #[]
  resolved := Array.replicate 7 none
  statics := none }

def pool5 : Array CpInfo := pool [(2, .class_ 4), (1, u "java/lang/Enum"), (0, u "name"), (0, u "Ljava/lang/String;"), (2, u "ordinal"), (0, u "I"), (1, .class_ 14), (1, u "java/lang/Object"), (4, u "hash"), (86, .class_ 108), (1, u "java/lang/Enum$EnumDesc"), (2, .class_ 112), (0, u "java/lang/constant/Constable"), (0, .class_ 114), (0, u "java/lang/Comparable"), (0, .class_ 116), (0, u "java/io/Serializable")] 87

/-- java/lang/Enum -/
def k5 : Class := { plain "java/lang/Enum" (some 0) with
  accessFlags := 1057
  interfaces := #[2, 3, 4]
  cf := some (fileOf pool5 2 #[.nestMembers #[106]] #[] 1057 12 #[111, 113, 115] #[{ accessFlags := 18, nameIndex := 5, descriptorIndex := 6, attributes := #[] }, { accessFlags := 18, nameIndex := 9, descriptorIndex := 10, attributes := #[] }, { accessFlags := 2, nameIndex := 19, descriptorIndex := 10, attributes := #[] }])
  fields := #[{ name := "name", type := (.object "java/lang/String"), accessFlags := 18, slot := 0, constantValue := 0 }, { name := "ordinal", type := .int, accessFlags := 18, slot := 1, constantValue := 0 }, { name := "hash", type := .int, accessFlags := 2, slot := 2, constantValue := 0 }]
  methods := #[]
  instanceTypes := #[(.object "java/lang/String"), .int, .int]
  staticTypes := #[]
  resolved := Array.replicate 204 none
  statics := none }

def pool6 : Array CpInfo := pool [(1, .class_ 2), (0, u "com/example/mqtt_packet_codec/mqttpacketcodec/PacketType"), (2, u "CONNECT"), (0, u "Lcom/example/mqtt_packet_codec/mqttpacketcodec/PacketType;"), (2, u "CONNACK"), (2, u "PUBLISH"), (2, u "PUBACK"), (2, u "PUBREC"), (2, u "PUBREL"), (2, u "PUBCOMP"), (2, u "SUBSCRIBE"), (2, u "SUBACK"), (2, u "UNSUBSCRIBE"), (2, u "UNSUBACK"), (2, u "PINGREQ"), (2, u "PINGRESP"), (2, u "DISCONNECT"), (2, u "AUTH"), (2, u "$VALUES"), (0, u "[Lcom/example/mqtt_packet_codec/mqttpacketcodec/PacketType;"), (6, .class_ 61), (1, u "java/lang/Enum"), (8, u "code"), (0, u "I"), (2, u "requiredFlags"), (2, u "firstVersion"), (0, u "Lcom/example/mqtt_packet_codec/mqttpacketcodec/MqttVersion;"), (0, .fieldref 1 80), (0, .nameAndType 81 52), (0, u "BY_CODE"), (70, u "MAX_FLAGS"), (2, u "DUP"), (1, u "QOS_SHIFT"), (1, u "QOS_MASK"), (1, u "RETAIN"), (0, u "MAX_QOS"), (1, u "QOS_1_FLAGS"), (6, u "fromCode"), (0, u "(I)Lcom/example/mqtt_packet_codec/mqttpacketcodec/PacketType;")] 33

def k6c0 : Code := { maxStack := 2, maxLocals := 2, code := prog_30_method_4_code, exceptionTable := #[], attributes := #[] }
def k6m0 : Method := { name := "fromCode", desc := "(I)Lcom/example/mqtt_packet_codec/mqttpacketcodec/PacketType;", sig := { parameters := [.int], returnType := some (.object "com/example/mqtt_packet_codec/mqttpacketcodec/PacketType") }, accessFlags := 8, code := some k6c0 }
/-- com/example/mqtt_packet_codec/mqttpacketcodec/PacketType -/
def k6 : Class := { plain "com/example/mqtt_packet_codec/mqttpacketcodec/PacketType" (some 5) with
  accessFlags := 16432
  interfaces := #[]
  cf := some (fileOf pool6 1 #[] #[{ accessFlags := 8, nameIndex := 171, descriptorIndex := 172, attributes := #[] }] 16432 59 #[] #[{ accessFlags := 16409, nameIndex := 5, descriptorIndex := 6, attributes := #[] }, { accessFlags := 16409, nameIndex := 9, descriptorIndex := 6, attributes := #[] }, { accessFlags := 16409, nameIndex := 12, descriptorIndex := 6, attributes := #[] }, { accessFlags := 16409, nameIndex := 15, descriptorIndex := 6, attributes := #[] }, { accessFlags := 16409, nameIndex := 18, descriptorIndex := 6, attributes := #[] }, { accessFlags := 16409, nameIndex := 21, descriptorIndex := 6, attributes := #[] }, { accessFlags := 16409, nameIndex := 24, descriptorIndex := 6, attributes := #[] }, { accessFlags := 16409, nameIndex := 27, descriptorIndex := 6, attributes := #[] }, { accessFlags := 16409, nameIndex := 30, descriptorIndex := 6, attributes := #[] }, { accessFlags := 16409, nameIndex := 33, descriptorIndex := 6, attributes := #[] }, { accessFlags := 16409, nameIndex := 36, descriptorIndex := 6, attributes := #[] }, { accessFlags := 16409, nameIndex := 39, descriptorIndex := 6, attributes := #[] }, { accessFlags := 16409, nameIndex := 42, descriptorIndex := 6, attributes := #[] }, { accessFlags := 16409, nameIndex := 45, descriptorIndex := 6, attributes := #[] }, { accessFlags := 16409, nameIndex := 48, descriptorIndex := 6, attributes := #[] }, { accessFlags := 24, nameIndex := 152, descriptorIndex := 71, attributes := #[] }, { accessFlags := 24, nameIndex := 155, descriptorIndex := 71, attributes := #[] }, { accessFlags := 24, nameIndex := 157, descriptorIndex := 71, attributes := #[] }, { accessFlags := 24, nameIndex := 159, descriptorIndex := 71, attributes := #[] }, { accessFlags := 24, nameIndex := 161, descriptorIndex := 71, attributes := #[] }, { accessFlags := 24, nameIndex := 162, descriptorIndex := 71, attributes := #[] }, { accessFlags := 26, nameIndex := 164, descriptorIndex := 71, attributes := #[] }, { accessFlags := 26, nameIndex := 81, descriptorIndex := 52, attributes := #[] }, { accessFlags := 18, nameIndex := 70, descriptorIndex := 71, attributes := #[] }, { accessFlags := 18, nameIndex := 74, descriptorIndex := 71, attributes := #[] }, { accessFlags := 18, nameIndex := 77, descriptorIndex := 78, attributes := #[] }, { accessFlags := 4122, nameIndex := 51, descriptorIndex := 52, attributes := #[] }])
  fields := #[{ name := "CONNECT", type := (.object "com/example/mqtt_packet_codec/mqttpacketcodec/PacketType"), accessFlags := 16409, slot := 0, constantValue := 0 }, { name := "CONNACK", type := (.object "com/example/mqtt_packet_codec/mqttpacketcodec/PacketType"), accessFlags := 16409, slot := 1, constantValue := 0 }, { name := "PUBLISH", type := (.object "com/example/mqtt_packet_codec/mqttpacketcodec/PacketType"), accessFlags := 16409, slot := 2, constantValue := 0 }, { name := "PUBACK", type := (.object "com/example/mqtt_packet_codec/mqttpacketcodec/PacketType"), accessFlags := 16409, slot := 3, constantValue := 0 }, { name := "PUBREC", type := (.object "com/example/mqtt_packet_codec/mqttpacketcodec/PacketType"), accessFlags := 16409, slot := 4, constantValue := 0 }, { name := "PUBREL", type := (.object "com/example/mqtt_packet_codec/mqttpacketcodec/PacketType"), accessFlags := 16409, slot := 5, constantValue := 0 }, { name := "PUBCOMP", type := (.object "com/example/mqtt_packet_codec/mqttpacketcodec/PacketType"), accessFlags := 16409, slot := 6, constantValue := 0 }, { name := "SUBSCRIBE", type := (.object "com/example/mqtt_packet_codec/mqttpacketcodec/PacketType"), accessFlags := 16409, slot := 7, constantValue := 0 }, { name := "SUBACK", type := (.object "com/example/mqtt_packet_codec/mqttpacketcodec/PacketType"), accessFlags := 16409, slot := 8, constantValue := 0 }, { name := "UNSUBSCRIBE", type := (.object "com/example/mqtt_packet_codec/mqttpacketcodec/PacketType"), accessFlags := 16409, slot := 9, constantValue := 0 }, { name := "UNSUBACK", type := (.object "com/example/mqtt_packet_codec/mqttpacketcodec/PacketType"), accessFlags := 16409, slot := 10, constantValue := 0 }, { name := "PINGREQ", type := (.object "com/example/mqtt_packet_codec/mqttpacketcodec/PacketType"), accessFlags := 16409, slot := 11, constantValue := 0 }, { name := "PINGRESP", type := (.object "com/example/mqtt_packet_codec/mqttpacketcodec/PacketType"), accessFlags := 16409, slot := 12, constantValue := 0 }, { name := "DISCONNECT", type := (.object "com/example/mqtt_packet_codec/mqttpacketcodec/PacketType"), accessFlags := 16409, slot := 13, constantValue := 0 }, { name := "AUTH", type := (.object "com/example/mqtt_packet_codec/mqttpacketcodec/PacketType"), accessFlags := 16409, slot := 14, constantValue := 0 }, { name := "MAX_FLAGS", type := .int, accessFlags := 24, slot := 15, constantValue := 0 }, { name := "DUP", type := .int, accessFlags := 24, slot := 16, constantValue := 0 }, { name := "QOS_SHIFT", type := .int, accessFlags := 24, slot := 17, constantValue := 0 }, { name := "QOS_MASK", type := .int, accessFlags := 24, slot := 18, constantValue := 0 }, { name := "RETAIN", type := .int, accessFlags := 24, slot := 19, constantValue := 0 }, { name := "MAX_QOS", type := .int, accessFlags := 24, slot := 20, constantValue := 0 }, { name := "QOS_1_FLAGS", type := .int, accessFlags := 26, slot := 21, constantValue := 0 }, { name := "BY_CODE", type := (.array (.object "com/example/mqtt_packet_codec/mqttpacketcodec/PacketType")), accessFlags := 26, slot := 22, constantValue := 0 }, { name := "code", type := .int, accessFlags := 18, slot := 3, constantValue := 0 }, { name := "requiredFlags", type := .int, accessFlags := 18, slot := 4, constantValue := 0 }, { name := "firstVersion", type := (.object "com/example/mqtt_packet_codec/mqttpacketcodec/MqttVersion"), accessFlags := 18, slot := 5, constantValue := 0 }, { name := "$VALUES", type := (.array (.object "com/example/mqtt_packet_codec/mqttpacketcodec/PacketType")), accessFlags := 4122, slot := 23, constantValue := 0 }]
  methods := #[k6m0]
  instanceTypes := #[(.object "java/lang/String"), .int, .int, .int, .int, (.object "com/example/mqtt_packet_codec/mqttpacketcodec/MqttVersion")]
  staticTypes := #[(.object "com/example/mqtt_packet_codec/mqttpacketcodec/PacketType"), (.object "com/example/mqtt_packet_codec/mqttpacketcodec/PacketType"), (.object "com/example/mqtt_packet_codec/mqttpacketcodec/PacketType"), (.object "com/example/mqtt_packet_codec/mqttpacketcodec/PacketType"), (.object "com/example/mqtt_packet_codec/mqttpacketcodec/PacketType"), (.object "com/example/mqtt_packet_codec/mqttpacketcodec/PacketType"), (.object "com/example/mqtt_packet_codec/mqttpacketcodec/PacketType"), (.object "com/example/mqtt_packet_codec/mqttpacketcodec/PacketType"), (.object "com/example/mqtt_packet_codec/mqttpacketcodec/PacketType"), (.object "com/example/mqtt_packet_codec/mqttpacketcodec/PacketType"), (.object "com/example/mqtt_packet_codec/mqttpacketcodec/PacketType"), (.object "com/example/mqtt_packet_codec/mqttpacketcodec/PacketType"), (.object "com/example/mqtt_packet_codec/mqttpacketcodec/PacketType"), (.object "com/example/mqtt_packet_codec/mqttpacketcodec/PacketType"), (.object "com/example/mqtt_packet_codec/mqttpacketcodec/PacketType"), .int, .int, .int, .int, .int, .int, .int, (.array (.object "com/example/mqtt_packet_codec/mqttpacketcodec/PacketType")), (.array (.object "com/example/mqtt_packet_codec/mqttpacketcodec/PacketType"))]
  resolved := Array.replicate 206 none
  statics := some 0 }

def pool7 : Array CpInfo := pool [(1, u "java/lang/Cloneable"), (0, .class_ 1), (0, u "java/lang/Object"), (0, .class_ 3)] 3

/-- java/lang/Cloneable -/
def k7 : Class := { plain "java/lang/Cloneable" (some 0) with
  accessFlags := 1537
  interfaces := #[]
  cf := some (fileOf pool7 2 #[] #[] 1537 4 #[] #[])
  fields := #[]
  methods := #[]
  instanceTypes := #[]
  staticTypes := #[]
  resolved := Array.replicate 8 none
  statics := none }

/-- the primitive byte -/
def k8 : Class := { plain "byte" none with kind := .primitive 'B', accessFlags := 0x411 }
/-- [B -/
def k9 : Class := { plain "[B" (some 0) with kind := .array 8 .byte, interfaces := #[7, 4], accessFlags := 1041 }

/-- the primitive int -/
def k10 : Class := { plain "int" none with kind := .primitive 'I', accessFlags := 0x411 }
/-- [I -/
def k11 : Class := { plain "[I" (some 0) with kind := .array 10 .int, interfaces := #[7, 4], accessFlags := 1041 }

/-- [Lcom/example/mqtt_packet_codec/mqttpacketcodec/PacketType; -/
def k12 : Class := { plain "[Lcom/example/mqtt_packet_codec/mqttpacketcodec/PacketType;" (some 0) with kind := .array 6 (.object "com/example/mqtt_packet_codec/mqttpacketcodec/PacketType"), interfaces := #[7, 4], accessFlags := 1041 }

def heap : Heap := #[{ cls := 6, slots := #[.ref 4, .ref 14, .ref 2, .ref 6, .ref 12, .ref 8, .ref 10, .ref 5, .ref 15, .ref 16, .ref 13, .ref 11, .ref 7, .ref 3, .ref 9, .int 0, .int 0, .int 0, .int 0, .int 0, .int 0, .int 0, .ref 1, .null], vm := .statics 6 },
  { cls := 12, slots := #[.null, .ref 4, .ref 14, .ref 2, .ref 6, .ref 12, .ref 8, .ref 10, .ref 5, .ref 15, .ref 16, .ref 13, .ref 11, .ref 7, .ref 3, .ref 9], vm := .none },
  { cls := 6, slots := #[.null, .int 0, .int 0, .int 0, .int 0, .null], vm := .none },
  { cls := 6, slots := #[.null, .int 0, .int 0, .int 0, .int 0, .null], vm := .none },
  { cls := 6, slots := #[.null, .int 0, .int 0, .int 0, .int 0, .null], vm := .none },
  { cls := 6, slots := #[.null, .int 0, .int 0, .int 0, .int 0, .null], vm := .none },
  { cls := 6, slots := #[.null, .int 0, .int 0, .int 0, .int 0, .null], vm := .none },
  { cls := 6, slots := #[.null, .int 0, .int 0, .int 0, .int 0, .null], vm := .none },
  { cls := 6, slots := #[.null, .int 0, .int 0, .int 0, .int 0, .null], vm := .none },
  { cls := 6, slots := #[.null, .int 0, .int 0, .int 0, .int 0, .null], vm := .none },
  { cls := 6, slots := #[.null, .int 0, .int 0, .int 0, .int 0, .null], vm := .none },
  { cls := 6, slots := #[.null, .int 0, .int 0, .int 0, .int 0, .null], vm := .none },
  { cls := 6, slots := #[.null, .int 0, .int 0, .int 0, .int 0, .null], vm := .none },
  { cls := 6, slots := #[.null, .int 0, .int 0, .int 0, .int 0, .null], vm := .none },
  { cls := 6, slots := #[.null, .int 0, .int 0, .int 0, .int 0, .null], vm := .none },
  { cls := 6, slots := #[.null, .int 0, .int 0, .int 0, .int 0, .null], vm := .none },
  { cls := 6, slots := #[.null, .int 0, .int 0, .int 0, .int 0, .null], vm := .none }]
def classes : Array Class := #[k0, k1, k2, k3, k4, k5, k6, k7, k8, k9, k10, k11, k12]
def interned : List (Array UInt16 × Addr) := []
def slotsUsed : Nat := 130
def theMethod : MethodId := ⟨1, 2⟩
def args0 : Array Value := #[.int 5, .int 7]
def aboutOver (below : List Frame) : State where
  vm := { classes := classes, interned := interned.toArray }
  heap := heap
  slotsUsed := slotsUsed
  threads := #[{ frames := .invoking theMethod args0 :: below }]
def below0 : List Frame := [.native { method := ⟨0, 0⟩, args := #[] }]
def about1 : State := aboutOver below0
def p0 : Program := .bare "" "" ""
def e0 : Env := launch0.env 0 0 0
theorem w_frames : about1.frames = Frame.invoking theMethod args0 :: below0 := rfl
set_option maxRecDepth 65536 in
theorem w_args : argsFit about1.vm theMethod args0 = true := by decide +kernel
set_option maxRecDepth 65536 in
theorem w_heap : heapFits about1 = true := by decide +kernel
set_option maxRecDepth 65536 in
theorem w_runnable : about1.curStatus? = some .runnable := by decide +kernel
set_option maxRecDepth 65536 in
theorem w_alone : about1.alone = true := by decide +kernel
set_option maxRecDepth 65536 in
theorem w_named : about1.methodNamed? x = some theMethod := by decide +kernel
set_option maxRecDepth 65536 in
theorem w_hears : about1.hears theMethod below0 = true := by decide +kernel
set_option maxRecDepth 65536 in
theorem w_ripe : about1.ripe theMethod args0 below0 = true := by decide +kernel
theorem w_running : about1.status = .running := rfl
set_option maxRecDepth 65536 in
theorem w_room : about1.hasRoom e0.platform room_1 = true :=
  launch0.hasRoom_least _ room_1 (by decide +kernel) (by decide +kernel) (by decide +kernel) (by decide +kernel) (by decide +kernel) (by decide +kernel)
theorem allAtoms_all (ts : List Jvm.Cond) (a : Array Jvm.Value) (st : Jvm.State) : (allAtoms ts).before a st = ts.all (fun c => c.before a st) := by
  induction ts with
  | nil => rfl
  | cons c t ih =>
    show (Jvm.Cond.and c (allAtoms t)).before a st = _
    rw [Jvm.Cond.before_and, ih, List.all_cons]
def words1 : List Jvm.Cond := Jvm.Cond.code x code maxLocals ret :: tables_1
/-- a 'code' word, met by the world's own term for the bytes: nothing is compared byte by byte -/
theorem code_word {y : MethodName} {bytes : ByteArray} {mx : Nat} {rt : Option FieldType} {a : Array Value} {s : State} {m : MethodId} {meth : Method} {c : Code} (h1 : s.methodNamed? y = some m) (h2 : s.vm.method? m = some meth) (h3 : meth.code = some c) (h4 : c.code = bytes)
    (h5 : (c.maxLocals == mx && c.exceptionTable.isEmpty && decide (c.maxStack ≤ mostOperands) && decide (meth.sig.returnType = rt) && !meth.locks && decide (parseMethodDescriptor y.desc = some meth.sig)) = true) : (Jvm.Cond.code y bytes mx rt).before a s = true := by
  simp only [Bool.and_eq_true, beq_iff_eq, Bool.not_eq_true', decide_eq_true_eq] at h5
  obtain ⟨⟨⟨⟨⟨g1, g2⟩, g3⟩, g4⟩, g5⟩, g6⟩ := h5
  simp [Cond.before, Cond.holds, Cond.value, h1, h2, h3, h4, g1, g2, g3, g4, g5, g6]
def isCode : Jvm.Cond → Bool
  | .code _ _ _ _ => true
  | _ => false
theorem all_split {L : List Jvm.Cond} {P : Jvm.Cond → Bool} (h1 : L.all (fun c => isCode c || P c) = true) (h2 : ∀ c ∈ L.filter isCode, P c = true) : L.all P = true := by
  refine List.all_eq_true.mpr fun c hc => ?_
  have h := List.all_eq_true.mp h1 c hc
  rcases Bool.eq_false_or_eq_true (isCode c) with hi | hi
  · exact h2 c (List.mem_filter.mpr ⟨hc, hi⟩)
  · simpa [hi] using h
set_option maxRecDepth 65536 in
theorem w_c0 : (Jvm.Cond.code x code maxLocals ret).before args0 about1 = true := code_word (m := ⟨1, 2⟩) (meth := k1m2) (c := k1c2) (by decide +kernel) rfl rfl rfl (by decide +kernel)
set_option maxRecDepth 65536 in
theorem w_c1 : (Jvm.Cond.code ({ cls := "com/example/mqtt_packet_codec/mqttpacketcodec/PacketType", name := "fromCode", desc := "(I)Lcom/example/mqtt_packet_codec/mqttpacketcodec/PacketType;" } : Jvm.MethodName) prog_30_method_4_code (2 : Nat) (Option.some (Jvm.ClassFile.FieldType.object "com/example/mqtt_packet_codec/mqttpacketcodec/PacketType"))).before args0 about1 = true := code_word (m := ⟨6, 0⟩) (meth := k6m0) (c := k6c0) (by decide +kernel) rfl rfl rfl (by decide +kernel)
set_option maxRecDepth 65536 in
theorem w_c2 : (Jvm.Cond.code ({ cls := "com/example/mqtt_packet_codec/mqttpacketcodec/PacketTypeFromCodePinLaw", name := "expected", desc := "(I)Lcom/example/mqtt_packet_codec/mqttpacketcodec/PacketType;" } : Jvm.MethodName) method_2_code (1 : Nat) (Option.some (Jvm.ClassFile.FieldType.object "com/example/mqtt_packet_codec/mqttpacketcodec/PacketType"))).before args0 about1 = true := code_word (m := ⟨1, 1⟩) (meth := k1m1) (c := k1c1) (by decide +kernel) rfl rfl rfl (by decide +kernel)
def codes1 : List Jvm.Cond := [Jvm.Cond.code x code maxLocals ret, Jvm.Cond.code ({ cls := "com/example/mqtt_packet_codec/mqttpacketcodec/PacketType", name := "fromCode", desc := "(I)Lcom/example/mqtt_packet_codec/mqttpacketcodec/PacketType;" } : Jvm.MethodName) prog_30_method_4_code (2 : Nat) (Option.some (Jvm.ClassFile.FieldType.object "com/example/mqtt_packet_codec/mqttpacketcodec/PacketType")), Jvm.Cond.code ({ cls := "com/example/mqtt_packet_codec/mqttpacketcodec/PacketTypeFromCodePinLaw", name := "expected", desc := "(I)Lcom/example/mqtt_packet_codec/mqttpacketcodec/PacketType;" } : Jvm.MethodName) method_2_code (1 : Nat) (Option.some (Jvm.ClassFile.FieldType.object "com/example/mqtt_packet_codec/mqttpacketcodec/PacketType"))]
set_option maxRecDepth 65536 in
theorem codes_eq : words1.filter isCode = codes1 := rfl
theorem w_codes : ∀ c ∈ words1.filter isCode, c.before args0 about1 = true := by
  rw [codes_eq]
  intro c hc
  simp only [codes1, List.mem_cons, List.not_mem_nil, or_false] at hc
  rcases hc with rfl | rfl | rfl
  · exact w_c0
  · exact w_c1
  · exact w_c2
set_option maxRecDepth 65536 in
theorem w_t1 : (words1.take 24).all (fun c => isCode c || c.before args0 about1) = true := by decide +kernel
set_option maxRecDepth 65536 in
theorem w_t2 : (words1.drop 24).all (fun c => isCode c || c.before args0 about1) = true := by decide +kernel
theorem w_tables : (allAtoms (Jvm.Cond.code x code maxLocals ret :: tables_1)).before args0 about1 = true := by
  rw [allAtoms_all]
  show words1.all (fun c => c.before args0 about1) = true
  refine all_split ?_ w_codes
  rw [← List.take_append_drop 24 words1, List.all_append, w_t1, w_t2]
  rfl
set_option maxRecDepth 65536 in
theorem w_case : (Jvm.Cond.and given_1 narrow_1).before args0 about1 = true := by decide +kernel
theorem w_applies : (headSpec (Jvm.Cond.code x code maxLocals ret :: tables_1) room_1).applies x e0.platform about1 = true :=
  (Spec.applies_iff w_frames).mpr ⟨w_running, w_runnable, w_alone, w_named, w_hears, w_ripe, w_room, w_tables⟩
theorem atStart : AtStart classFile x code maxLocals ret World_1 tables_1 room_1 Calls_1 rest_1 Pre_1 launch0 p0 e0 about1 theMethod args0 below0 :=
  ⟨lists_1, trivial, launch0.admits_env _ _ _, launch0.least_env, fairChoices_fair.cas, fairChoices_fair.clock, w_frames, w_args, w_heap, w_applies, trivial, trivial, w_case⟩
end start1
theorem witness_1 : WitnessClaimed_1 := ⟨start1.p0, start1.e0, start1.about1, start1.theMethod, start1.args0, start1.below0, start1.atStart⟩
end Jvm.Pilot.@@N@@
