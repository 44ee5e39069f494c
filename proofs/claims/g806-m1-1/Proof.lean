import JvmDerived
import JvmDerived.Pilot.@@N@@Statement
import JvmDerived.Pilot.@@N@@Code
set_option linter.unusedVariables false
set_option linter.unusedSimpArgs false
@@BLOCK:NumsL.lean.txt@@
namespace Jvm.OwnW
open Sem ClassFile Op Lib Jvm.Stand Jvm.Free Jvm.LawKit Jvm.RoadKit
section Own
variable {p : Program} {l : Launch} {e : Env} {R : Room} {s : State} {m : MethodId} {args : Array Value} {below : List Frame} {meth : Method} {c : Code} {T : State} {locs : List Loc} {cells slots : Nat} {K N : Nat} {Q : Option Value → Heap → List Loc → Prop}
/-- from U the run comes to the method's end, and what it leaves there is Q -/
def OwnEnds (tb : Tables) (e : Env) (below : List Frame) (s : State) (K N : Nat) (Q : Option Value → Heap → List Loc → Prop) (U : State) : Prop :=
  ∃ s₂ o, Steps tb e below U s₂ ∧ s₂.status = .running ∧ Ended s₂ below o ∧ ∃ v L, o = .returned v ∧ Q v s₂.heap L ∧ FrameEnd s o s₂ L K N
theorem ogo {tb : Tables} {U U' : State} (st : ∀ t, Steps tb e below U' t → Steps tb e below U t) (h : OwnEnds tb e below s K N Q U') : OwnEnds tb e below s K N Q U := by
  obtain ⟨s₂, o, h1, h2⟩ := h
  exact ⟨s₂, o, st _ h1, h2⟩
theorem endR (X : Stand p l e R s m args below meth c T locs cells slots) (hx : p.tables.exec = Jvm.exec) (hlk : meth.locks = false) {pc : Nat} {Ls : Array Slot} {w : Value} {t : FieldType} {i : Instr} {rest : List Value} (hret : meth.sig.returnType = some t) (hn : narrow t w = w)
    (hi : (i = .ireturn ∧ (t = .int ∨ t = .boolean ∨ t = .byte ∨ t = .char ∨ t = .short) ∧ ∃ z, w = .int z) ∨ (i = .lreturn ∧ t = .long ∧ ∃ z, w = .long z) ∨ (i = .dreturn ∧ t = .double ∧ ∃ z, w = .double z) ∨ (i = .freturn ∧ t = .float ∧ ∃ z, w = .float z) ∨ (i = .areturn ∧ t.isReference = true ∧ w.isRef = true))
    (hd : decode c.code pc = .ok (i, 1)) (hK : cells ≤ K) (hN : slots ≤ N) (hQ : Q (some w) T.heap locs) : OwnEnds p.tables e below s K N Q (T.setTop (mkF m pc Ls (w :: rest))) := by
  obtain ⟨fs, hr, hrun, hended, hW, hsame⟩ := X.leave (v := some w) (fun h => by rw [hret] at h; cases h) hlk
  exact ⟨_, _, retOut X hx hret hn hi hd hr, hrun, hended, _, _, rfl, hQ, ⟨_, rfl⟩, hW, hsame.mono hK hN⟩
theorem endI (X : Stand p l e R s m args below meth c T locs cells slots) (hx : p.tables.exec = Jvm.exec) (hlk : meth.locks = false) {pc : Nat} {Ls : Array Slot} {z : Int32} {rest : List Value} (hret : meth.sig.returnType = some .int)
    (hd : decode c.code pc = .ok (.ireturn, 1)) (hK : cells ≤ K) (hN : slots ≤ N) (hQ : Q (some (.int z)) T.heap locs) : OwnEnds p.tables e below s K N Q (T.setTop (mkF m pc Ls (.int z :: rest))) :=
  endR X hx hlk hret rfl (Or.inl ⟨rfl, Or.inl rfl, z, rfl⟩) hd hK hN hQ
theorem endZ (X : Stand p l e R s m args below meth c T locs cells slots) (hx : p.tables.exec = Jvm.exec) (hlk : meth.locks = false) {pc : Nat} {Ls : Array Slot} {z : Int32} {rest : List Value} (hret : meth.sig.returnType = some .boolean) (hn : narrow .boolean (.int z) = .int z)
    (hd : decode c.code pc = .ok (.ireturn, 1)) (hK : cells ≤ K) (hN : slots ≤ N) (hQ : Q (some (.int z)) T.heap locs) : OwnEnds p.tables e below s K N Q (T.setTop (mkF m pc Ls (.int z :: rest))) :=
  endR X hx hlk hret hn (Or.inl ⟨rfl, Or.inr (Or.inl rfl), z, rfl⟩) hd hK hN hQ
theorem endJ (X : Stand p l e R s m args below meth c T locs cells slots) (hx : p.tables.exec = Jvm.exec) (hlk : meth.locks = false) {pc : Nat} {Ls : Array Slot} {z : Int64} {rest : List Value} (hret : meth.sig.returnType = some .long)
    (hd : decode c.code pc = .ok (.lreturn, 1)) (hK : cells ≤ K) (hN : slots ≤ N) (hQ : Q (some (.long z)) T.heap locs) : OwnEnds p.tables e below s K N Q (T.setTop (mkF m pc Ls (.long z :: rest))) :=
  endR X hx hlk hret rfl (Or.inr (Or.inl ⟨rfl, rfl, z, rfl⟩)) hd hK hN hQ
theorem endA (X : Stand p l e R s m args below meth c T locs cells slots) (hx : p.tables.exec = Jvm.exec) (hlk : meth.locks = false) {pc : Nat} {Ls : Array Slot} {w : Value} {t : FieldType} {rest : List Value} (hret : meth.sig.returnType = some t) (ht : t.isReference = true) (hw : w.isRef = true)
    (hd : decode c.code pc = .ok (.areturn, 1)) (hK : cells ≤ K) (hN : slots ≤ N) (hQ : Q (some w) T.heap locs) : OwnEnds p.tables e below s K N Q (T.setTop (mkF m pc Ls (w :: rest))) :=
  endR X hx hlk hret (by rcases ref_cases hw with rfl | ⟨a, rfl⟩ <;> cases t <;> simp_all [narrow, FieldType.isReference]) (Or.inr (Or.inr (Or.inr (Or.inr ⟨rfl, ht, hw⟩)))) hd hK hN hQ
theorem endV (X : Stand p l e R s m args below meth c T locs cells slots) (hx : p.tables.exec = Jvm.exec) (hlk : meth.locks = false) {pc : Nat} {Ls : Array Slot} (hret : meth.sig.returnType = none)
    (hd : decode c.code pc = .ok (.return_, 1)) (hK : cells ≤ K) (hN : slots ≤ N) (hQ : Q none T.heap locs) : OwnEnds p.tables e below s K N Q (T.setTop (mkF m pc Ls [])) := by
  obtain ⟨fs, hr, hrun, hended, hW, hsame⟩ := X.leave (v := none) (fun _ => rfl) hlk
  exact ⟨_, _, X.returnOut hx hret hd hr, hrun, hended, _, _, rfl, hQ, ⟨_, rfl⟩, hW, hsame.mono hK hN⟩
end Own
end Jvm.OwnW
namespace Jvm.Pilot.@@N@@
open Jvm Jvm.ClassFile Sem Op Lib Jvm.Free Jvm.Stand Jvm.LawKit Jvm.RoadKit Jvm.OwnW Bundle Jvm.Pilot.@@N@@.Jvm.D
theorem own_cat {v : Value} (h : v.isRef = true) : v.category = 1 := by rcases ref_cases h with rfl | ⟨a, rfl⟩ <;> rfl
theorem own_ite {q : Prop} [Decidable q] {a b : Value} (ha : a.isRef = true) (hb : b.isRef = true) : (if q then a else b).isRef = true := by split <;> assumption
theorem own_fld {args : Array Value} {s : State} {t : Term} {C n d : String} {k : Int32} {a : Addr} (h : (Cond.eq (.field t C n d) (.int k)).value args s none s [] = some true) (ev : t.eval args s none [] s = some (.ref a)) : Fld s s.heap a C n d (.int k) := by
  obtain ⟨x, y, e1, e2, -, -⟩ := cmp_v (Or.inl h)
  have e3 : y = .int k := (Option.some.inj (e2.symm.trans (Term.int_eval k)))
  subst e3
  have e4 : s.fieldOf? a C n d = some x := by simpa [Term.eval, ev] using e1
  cases x <;> simp [Cond.value, e1, e2] at h
  subst h
  exact Fld.start e4
theorem own_len {args : Array Value} {s : State} {t : Term} {k : Int32} {a : Addr} {cl : Cell} (h : (Cond.eq (.length t) (.int k)).value args s none s [] = some true) (ev : t.eval args s none [] s = some (.ref a)) (hc : s.arrayAt? a = some cl) : cl.slots.size < 2 ^ 31 ∧ cl.slots.size.toInt32 = k := by
  obtain ⟨x, y, e1, e2, -, -⟩ := cmp_v (Or.inl h)
  have e3 : y = .int k := Option.some.inj (e2.symm.trans (Term.int_eval k))
  subst e3
  by_cases hl : cl.slots.size < 2 ^ 31
  · have e4 := len_f (args := args) (first := s) (o := none) (idx := []) ev hc hl
    refine ⟨hl, ?_⟩
    have e5 : x = .int cl.slots.size.toInt32 := Option.some.inj (e1.symm.trans e4)
    subst e5
    simpa [Cond.value, e1, e2] using h
  · exfalso
    simp [Term.eval, ev, hc, hl] at e1
theorem own_elem {args : Array Value} {s : State} {t u : Term} {j : Int32} {a b : Addr} {cl : Cell} (h : (Cond.eq (.elem t (.int j)) u).value args s none s [] = some true) (ev : t.eval args s none [] s = some (.ref a)) (evu : u.eval args s none [] s = some (.ref b)) (hc : s.heap[a]? = some cl) : cl.slots[j.toNatClampNeg]? = some (.ref b) := by
  obtain ⟨x, y, e1, e2, -, -⟩ := cmp_v (Or.inl h)
  cases e2.symm.trans evu
  obtain ⟨-, q⟩ := elem_in e1 ev (Term.int_eval j) hc
  rw [q]
  cases x <;> simp [Cond.value, e1, e2] at h ⊢
  exact h

def own_of (q : Int64) (w_NONE w_PROTOBUF w_JSON w_MSGPACK w_BSON w_RAW : Addr) : Value := if q = 0 then .ref w_NONE else if q = 1 then .ref w_PROTOBUF else if q = 2 then .ref w_JSON else if q = 3 then .ref w_MSGPACK else if q = 4 then .ref w_BSON else if q = 5 then .ref w_RAW else .null
theorem own_of_ref (q : Int64) (w_NONE w_PROTOBUF w_JSON w_MSGPACK w_BSON w_RAW : Addr) : (own_of q w_NONE w_PROTOBUF w_JSON w_MSGPACK w_BSON w_RAW).isRef = true := by
  unfold own_of
  exact own_ite rfl (own_ite rfl (own_ite rfl (own_ite rfl (own_ite rfl (own_ite rfl (rfl))))))
theorem d1_0 : decode prog_19_method_6_code 0 = .ok (.getstatic 45, 3) := by decide +kernel
theorem d1_3 : decode prog_19_method_6_code 3 = .ok (.astore_n 2, 1) := by decide +kernel
theorem d1_4 : decode prog_19_method_6_code 4 = .ok (.aload_n 2, 1) := by decide +kernel
theorem d1_5 : decode prog_19_method_6_code 5 = .ok (.arraylength, 1) := by decide +kernel
theorem d1_6 : decode prog_19_method_6_code 6 = .ok (.istore_n 3, 1) := by decide +kernel
theorem d1_7 : decode prog_19_method_6_code 7 = .ok (.iconst 0, 1) := by decide +kernel
theorem d1_8 : decode prog_19_method_6_code 8 = .ok (.istore 4, 2) := by decide +kernel
theorem d1_10 : decode prog_19_method_6_code 10 = .ok (.iload 4, 2) := by decide +kernel
theorem d1_12 : decode prog_19_method_6_code 12 = .ok (.iload_n 3, 1) := by decide +kernel
theorem d1_13 : decode prog_19_method_6_code 13 = .ok (.if_icmp .ge 29, 3) := by decide +kernel
theorem d1_16 : decode prog_19_method_6_code 16 = .ok (.aload_n 2, 1) := by decide +kernel
theorem d1_17 : decode prog_19_method_6_code 17 = .ok (.iload 4, 2) := by decide +kernel
theorem d1_19 : decode prog_19_method_6_code 19 = .ok (.aaload, 1) := by decide +kernel
theorem d1_20 : decode prog_19_method_6_code 20 = .ok (.astore 5, 2) := by decide +kernel
theorem d1_22 : decode prog_19_method_6_code 22 = .ok (.aload 5, 2) := by decide +kernel
theorem d1_24 : decode prog_19_method_6_code 24 = .ok (.getfield 41, 3) := by decide +kernel
theorem d1_27 : decode prog_19_method_6_code 27 = .ok (.i2l, 1) := by decide +kernel
theorem d1_28 : decode prog_19_method_6_code 28 = .ok (.lload_n 0, 1) := by decide +kernel
theorem d1_29 : decode prog_19_method_6_code 29 = .ok (.lcmp, 1) := by decide +kernel
theorem d1_30 : decode prog_19_method_6_code 30 = .ok (.ifCond .ne 6, 3) := by decide +kernel
theorem d1_33 : decode prog_19_method_6_code 33 = .ok (.aload 5, 2) := by decide +kernel
theorem d1_35 : decode prog_19_method_6_code 35 = .ok (.areturn, 1) := by decide +kernel
theorem d1_36 : decode prog_19_method_6_code 36 = .ok (.iinc 4 1, 3) := by decide +kernel
theorem d1_39 : decode prog_19_method_6_code 39 = .ok (.goto (-29), 3) := by decide +kernel
theorem d1_42 : decode prog_19_method_6_code 42 = .ok (.aconst_null, 1) := by decide +kernel
theorem d1_43 : decode prog_19_method_6_code 43 = .ok (.areturn, 1) := by decide +kernel
theorem pn_Encoding : plainName "com/example/packframe/packframe/onebyte/Encoding" = true := by first | (simp [plainName, overriddenIn]; done) | decide +kernel
theorem ef_1 (m : MethodId) (x0 : Int64) : entryFrame m #[(.long x0)] 6 = mkF m 0 #[.val (.long x0), .second, .unset, .unset, .unset, .unset] [] := by first | (simp [entryFrame, mkF, argsToLocals, Value.category]; done) | rfl
def Q1 (Z : State) (qv : Int64) (w_NONE w_PROTOBUF w_JSON w_MSGPACK w_BSON w_RAW w_ENCODINGS : Addr) (h0 : Heap) (n0 : Nat) (v : Option Value) (h : Heap) (L : List Loc) : Prop := v = some (own_of qv w_NONE w_PROTOBUF w_JSON w_MSGPACK w_BSON w_RAW) ∧ Fr n0 L ∧ h = h0
set_option maxRecDepth 65536 in
set_option maxHeartbeats 40000000 in
theorem rm1 (l : Launch) (Z : State) (a0 : Array Value) (hw : ∀ d ∈ tables_1, d.before a0 Z = true) (ws : List Jvm.Cond) (qv : Int64) (w_NONE w_PROTOBUF w_JSON w_MSGPACK w_BSON w_RAW w_ENCODINGS : Addr) (h0 : Heap) (n0 : Nat) (Z0 : n0 ≤ h0.size) (S_NONE : Sta Z h0 "com/example/packframe/packframe/onebyte/Encoding" "NONE" "Lcom/example/packframe/packframe/onebyte/Encoding;" (.ref w_NONE)) (E_NONE : Exa Z h0 w_NONE "com/example/packframe/packframe/onebyte/Encoding") (F_code_NONE : Fld Z h0 w_NONE "com/example/packframe/packframe/onebyte/Encoding" "code" "I" (.int (0 : Int32))) (S_PROTOBUF : Sta Z h0 "com/example/packframe/packframe/onebyte/Encoding" "PROTOBUF" "Lcom/example/packframe/packframe/onebyte/Encoding;" (.ref w_PROTOBUF)) (E_PROTOBUF : Exa Z h0 w_PROTOBUF "com/example/packframe/packframe/onebyte/Encoding") (F_code_PROTOBUF : Fld Z h0 w_PROTOBUF "com/example/packframe/packframe/onebyte/Encoding" "code" "I" (.int (1 : Int32))) (S_JSON : Sta Z h0 "com/example/packframe/packframe/onebyte/Encoding" "JSON" "Lcom/example/packframe/packframe/onebyte/Encoding;" (.ref w_JSON)) (E_JSON : Exa Z h0 w_JSON "com/example/packframe/packframe/onebyte/Encoding") (F_code_JSON : Fld Z h0 w_JSON "com/example/packframe/packframe/onebyte/Encoding" "code" "I" (.int (2 : Int32))) (S_MSGPACK : Sta Z h0 "com/example/packframe/packframe/onebyte/Encoding" "MSGPACK" "Lcom/example/packframe/packframe/onebyte/Encoding;" (.ref w_MSGPACK)) (E_MSGPACK : Exa Z h0 w_MSGPACK "com/example/packframe/packframe/onebyte/Encoding") (F_code_MSGPACK : Fld Z h0 w_MSGPACK "com/example/packframe/packframe/onebyte/Encoding" "code" "I" (.int (3 : Int32))) (S_BSON : Sta Z h0 "com/example/packframe/packframe/onebyte/Encoding" "BSON" "Lcom/example/packframe/packframe/onebyte/Encoding;" (.ref w_BSON)) (E_BSON : Exa Z h0 w_BSON "com/example/packframe/packframe/onebyte/Encoding") (F_code_BSON : Fld Z h0 w_BSON "com/example/packframe/packframe/onebyte/Encoding" "code" "I" (.int (4 : Int32))) (S_RAW : Sta Z h0 "com/example/packframe/packframe/onebyte/Encoding" "RAW" "Lcom/example/packframe/packframe/onebyte/Encoding;" (.ref w_RAW)) (E_RAW : Exa Z h0 w_RAW "com/example/packframe/packframe/onebyte/Encoding") (F_code_RAW : Fld Z h0 w_RAW "com/example/packframe/packframe/onebyte/Encoding" "code" "I" (.int (5 : Int32))) (S_ENCODINGS : Sta Z h0 "com/example/packframe/packframe/onebyte/Encoding" "ENCODINGS" "[Lcom/example/packframe/packframe/onebyte/Encoding;" (.ref w_ENCODINGS)) (V_ENCODINGS : ∃ k, Arv Z h0 w_ENCODINGS k (.object "com/example/packframe/packframe/onebyte/Encoding") (6 : Int32) [(.ref w_NONE), (.ref w_PROTOBUF), (.ref w_JSON), (.ref w_MSGPACK), (.ref w_BSON), (.ref w_RAW)] .null) :
    MetFree l (⟨"com/example/packframe/packframe/onebyte/Encoding", "ofCode", "(J)Lcom/example/packframe/packframe/onebyte/Encoding;"⟩ : MethodName) (head1 (Jvm.Cond.code (⟨"com/example/packframe/packframe/onebyte/Encoding", "ofCode", "(J)Lcom/example/packframe/packframe/onebyte/Encoding;"⟩ : MethodName) prog_19_method_6_code 6 (some (.object "com/example/packframe/packframe/onebyte/Encoding")) :: ws) ({ frames := 0, cells := 0, slots := 0, locals := 0 } : Room)) (fun a U => a = #[(.long qv)] ∧ Z.Warmed39 U.vm ∧ U.heap = h0) (fun _ _ _ _ _ => True) (fun _ U o U' => ∃ v L, o = .returned v ∧ Q1 Z qv w_NONE w_PROTOBUF w_JSON w_MSGPACK w_BSON w_RAW w_ENCODINGS h0 n0 v U'.heap L ∧ FrameEnd U o U' L ({ frames := 0, cells := 0, slots := 0, locals := 0 } : Room).cells ({ frames := 0, cells := 0, slots := 0, locals := 0 } : Room).slots) := by
  refine MetFree.of_bodySF (plainFor_of_name pn_Encoding) hisR ?_
  intro p e s m args below meth c s₁ Bd hml0 hP hK
  obtain ⟨rfl, hZ, hh⟩ := hP
  have hx := Bd.exec
  have hby := Bd.bytes
  have hml : c.maxLocals = 6 := hml0
  have hown : s.vm.findClass "com/example/packframe/packframe/onebyte/Encoding" = some m.cls := findClass_of_methodNamed Bd.named
  have hnm := (name_of_methodNamed Bd.named Bd.method).1
  have hlk : meth.locks = false := BodyLoose.notSynchronized Bd
  have X0 : Stand p l e ({ frames := 0, cells := 0, slots := 0, locals := 0 } : Room) s m #[(.long qv)] below meth c s₁ [] 0 0 := Stand.of_body Bd
  have e0 : s₁.heap = h0 := by rw [← hh, Bd.state]; rfl
  have N0 := Fr.nil n0
  refine ogo (U' := s₁.setTop (mkF m 0 #[.val (.long qv), .second, .unset, .unset, .unset, .unset] [])) (Q := Q1 Z qv w_NONE w_PROTOBUF w_JSON w_MSGPACK w_BSON w_RAW w_ENCODINGS h0 n0) (K := ({ frames := 0, cells := 0, slots := 0, locals := 0 } : Room).cells) (N := ({ frames := 0, cells := 0, slots := 0, locals := 0 } : Room).slots) (fun t k => castTop (ef_1 m qv) k) ?_
  show OwnEnds _ _ _ _ _ _ _ (s₁.setTop (mkF m 0 #[.val (.long qv), .second, .unset, .unset, .unset, .unset] []))
  obtain ⟨T1, X1, e1, st1⟩ := getS2 X0 hx hZ hown (host := "") (Or.inl (hw _ (List.mem_of_getElem? (i := 4) rfl))) Via.refl e0 S_ENCODINGS (g := (mkF m 0 #[.val (.long qv), .second, .unset, .unset, .unset, .unset] [])) rfl (hb hby d1_0)
  refine ogo st1 ?_
  show OwnEnds _ _ _ _ _ _ _ (T1.setTop (mkF m 3 #[.val (.long qv), .second, .unset, .unset, .unset, .unset] [(.ref w_ENCODINGS)]))
  refine ogo (fun t k => XS.astoreN X1.here hx rfl (hb hby d1_3) rfl rfl (l' := #[.val (.long qv), .second, .val (.ref w_ENCODINGS), .unset, .unset, .unset]) rfl k) ?_
  show OwnEnds _ _ _ _ _ _ _ (T1.setTop (mkF m 4 #[.val (.long qv), .second, .val (.ref w_ENCODINGS), .unset, .unset, .unset] []))
  refine ogo (fun t k => XS.aloadN X1.here hx rfl (hb hby d1_4) rfl rfl k) ?_
  show OwnEnds _ _ _ _ _ _ _ (T1.setTop (mkF m 5 #[.val (.long qv), .second, .val (.ref w_ENCODINGS), .unset, .unset, .unset] [(.ref w_ENCODINGS)]))
  obtain ⟨ak2, cl2, Ar2, Aq2, As2, An2, Ah2, Ag2⟩ := id V_ENCODINGS
  refine ogo (fun t k => X1.arraylength hx (by rw [e1]; exact Ar2.1) (State.isArrayOf_alike hZ.alike Ar2.2.1) (g := (mkF m 5 #[.val (.long qv), .second, .val (.ref w_ENCODINGS), .unset, .unset, .unset] [(.ref w_ENCODINGS)])) rfl rfl (hb hby d1_5) t k) ?_
  rw [len_of As2 An2]
  show OwnEnds _ _ _ _ _ _ _ (T1.setTop (mkF m 6 #[.val (.long qv), .second, .val (.ref w_ENCODINGS), .unset, .unset, .unset] [(.int (6 : Int32))]))
  refine ogo (fun t k => XS.istoreN X1.here hx rfl (hb hby d1_6) rfl (l' := #[.val (.long qv), .second, .val (.ref w_ENCODINGS), .val (.int (6 : Int32)), .unset, .unset]) rfl k) ?_
  show OwnEnds _ _ _ _ _ _ _ (T1.setTop (mkF m 7 #[.val (.long qv), .second, .val (.ref w_ENCODINGS), .val (.int (6 : Int32)), .unset, .unset] []))
  refine ogo (fun t k => XS.iconst X1.here hx rfl (hb hby d1_7) k) ?_
  show OwnEnds _ _ _ _ _ _ _ (T1.setTop (mkF m 8 #[.val (.long qv), .second, .val (.ref w_ENCODINGS), .val (.int (6 : Int32)), .unset, .unset] [(.int (0 : Int32))]))
  refine ogo (fun t k => XS.istore X1.here hx rfl (hb hby d1_8) rfl (l' := #[.val (.long qv), .second, .val (.ref w_ENCODINGS), .val (.int (6 : Int32)), .val (.int (0 : Int32)), .unset]) rfl k) ?_
  show OwnEnds _ _ _ _ _ _ _ (T1.setTop (mkF m 10 #[.val (.long qv), .second, .val (.ref w_ENCODINGS), .val (.int (6 : Int32)), .val (.int (0 : Int32)), .unset] []))
  refine ogo (fun t k => XS.iload X1.here hx rfl (hb hby d1_10) rfl k) ?_
  show OwnEnds _ _ _ _ _ _ _ (T1.setTop (mkF m 12 #[.val (.long qv), .second, .val (.ref w_ENCODINGS), .val (.int (6 : Int32)), .val (.int (0 : Int32)), .unset] [(.int (0 : Int32))]))
  refine ogo (fun t k => XS.iloadN X1.here hx rfl (hb hby d1_12) rfl k) ?_
  show OwnEnds _ _ _ _ _ _ _ (T1.setTop (mkF m 13 #[.val (.long qv), .second, .val (.ref w_ENCODINGS), .val (.int (6 : Int32)), .val (.int (0 : Int32)), .unset] [(.int (6 : Int32)), (.int (0 : Int32))]))
  refine ogo (fun t k => XS.icmpNo X1.here hx rfl (hb hby d1_13) rfl (tlt (by decide : (0 : Int32) < (6 : Int32))).2.1 k) ?_
  show OwnEnds _ _ _ _ _ _ _ (T1.setTop (mkF m 16 #[.val (.long qv), .second, .val (.ref w_ENCODINGS), .val (.int (6 : Int32)), .val (.int (0 : Int32)), .unset] []))
  refine ogo (fun t k => XS.aloadN X1.here hx rfl (hb hby d1_16) rfl rfl k) ?_
  show OwnEnds _ _ _ _ _ _ _ (T1.setTop (mkF m 17 #[.val (.long qv), .second, .val (.ref w_ENCODINGS), .val (.int (6 : Int32)), .val (.int (0 : Int32)), .unset] [(.ref w_ENCODINGS)]))
  refine ogo (fun t k => XS.iload X1.here hx rfl (hb hby d1_17) rfl k) ?_
  show OwnEnds _ _ _ _ _ _ _ (T1.setTop (mkF m 19 #[.val (.long qv), .second, .val (.ref w_ENCODINGS), .val (.int (6 : Int32)), .val (.int (0 : Int32)), .unset] [(.int (0 : Int32)), (.ref w_ENCODINGS)]))
  obtain ⟨ak3, cl3, Ar3, Aq3, As3, An3, Ah3, Ag3⟩ := id V_ENCODINGS
  refine ogo (fun t k => X1.aaload hx (j := (0 : Int32)) (v := (.ref w_NONE)) (by rw [e1]; exact Ar3.1) (State.isArrayOf_alike hZ.alike Ar3.2.1) rfl Ar3.2.2 (inb_of As3 ⟨by decide, by decide⟩) (Ah3.at (inb_of As3 ⟨by decide, by decide⟩) rfl) (g := (mkF m 19 #[.val (.long qv), .second, .val (.ref w_ENCODINGS), .val (.int (6 : Int32)), .val (.int (0 : Int32)), .unset] [(.int (0 : Int32)), (.ref w_ENCODINGS)])) rfl rfl (hb hby d1_19) t k) ?_
  show OwnEnds _ _ _ _ _ _ _ (T1.setTop (mkF m 20 #[.val (.long qv), .second, .val (.ref w_ENCODINGS), .val (.int (6 : Int32)), .val (.int (0 : Int32)), .unset] [(.ref w_NONE)]))
  refine ogo (fun t k => XS.astore X1.here hx rfl (hb hby d1_20) rfl rfl (l' := #[.val (.long qv), .second, .val (.ref w_ENCODINGS), .val (.int (6 : Int32)), .val (.int (0 : Int32)), .val (.ref w_NONE)]) rfl k) ?_
  show OwnEnds _ _ _ _ _ _ _ (T1.setTop (mkF m 22 #[.val (.long qv), .second, .val (.ref w_ENCODINGS), .val (.int (6 : Int32)), .val (.int (0 : Int32)), .val (.ref w_NONE)] []))
  refine ogo (fun t k => XS.aload X1.here hx rfl (hb hby d1_22) rfl rfl k) ?_
  show OwnEnds _ _ _ _ _ _ _ (T1.setTop (mkF m 24 #[.val (.long qv), .second, .val (.ref w_ENCODINGS), .val (.int (6 : Int32)), .val (.int (0 : Int32)), .val (.ref w_NONE)] [(.ref w_NONE)]))
  obtain ⟨T4, X4, e4, st4⟩ := getF X1 hx hZ hown (host := "") (Or.inl (hw _ (List.mem_of_getElem? (i := 7) rfl))) Via.refl e1 F_code_NONE (g := (mkF m 24 #[.val (.long qv), .second, .val (.ref w_ENCODINGS), .val (.int (6 : Int32)), .val (.int (0 : Int32)), .val (.ref w_NONE)] [(.ref w_NONE)])) rfl rfl (hb hby d1_24)
  refine ogo st4 ?_
  show OwnEnds _ _ _ _ _ _ _ (T4.setTop (mkF m 27 #[.val (.long qv), .second, .val (.ref w_ENCODINGS), .val (.int (6 : Int32)), .val (.int (0 : Int32)), .val (.ref w_NONE)] [(.int (0 : Int32))]))
  refine ogo (fun t k => XS.i2l X4.here hx rfl (hb hby d1_27) rfl k) ?_
  show OwnEnds _ _ _ _ _ _ _ (T4.setTop (mkF m 28 #[.val (.long qv), .second, .val (.ref w_ENCODINGS), .val (.int (6 : Int32)), .val (.int (0 : Int32)), .val (.ref w_NONE)] [(.long (0 : Int64))]))
  refine ogo (fun t k => XS.lloadN X4.here hx rfl (hb hby d1_28) rfl k) ?_
  show OwnEnds _ _ _ _ _ _ _ (T4.setTop (mkF m 29 #[.val (.long qv), .second, .val (.ref w_ENCODINGS), .val (.int (6 : Int32)), .val (.int (0 : Int32)), .val (.ref w_NONE)] [(.long qv), (.long (0 : Int64))]))
  refine ogo (fun t k => XS.lcmp X4.here hx rfl (hb hby d1_29) rfl k) ?_
  show OwnEnds _ _ _ _ _ _ _ (T4.setTop (mkF m 30 #[.val (.long qv), .second, .val (.ref w_ENCODINGS), .val (.int (6 : Int32)), .val (.int (0 : Int32)), .val (.ref w_NONE)] [(.int (lcmpW (0 : Int64) qv))]))
  by_cases hc5 : qv = (0 : Int64)
  · refine ogo (fun t k => XS.ifNo X4.here hx rfl (hb hby d1_30) rfl ((if0 _ _).trans (teq ((lw_eq (0 : Int64) qv).mpr (Eq.symm hc5))).2) k) ?_
    show OwnEnds _ _ _ _ _ _ _ (T4.setTop (mkF m 33 #[.val (.long qv), .second, .val (.ref w_ENCODINGS), .val (.int (6 : Int32)), .val (.int (0 : Int32)), .val (.ref w_NONE)] []))
    refine ogo (fun t k => XS.aload X4.here hx rfl (hb hby d1_33) rfl rfl k) ?_
    show OwnEnds _ _ _ _ _ _ _ (T4.setTop (mkF m 35 #[.val (.long qv), .second, .val (.ref w_ENCODINGS), .val (.int (6 : Int32)), .val (.int (0 : Int32)), .val (.ref w_NONE)] [(.ref w_NONE)]))
    refine endA X4 hx hlk Bd.returns rfl rfl (hb hby d1_35) (by decide) (by decide) ?_
    show Q1 Z qv w_NONE w_PROTOBUF w_JSON w_MSGPACK w_BSON w_RAW w_ENCODINGS h0 n0 _ T4.heap _
    rw [e4]
    exact ⟨by simp [own_of, hc5], N0, rfl⟩
  · refine ogo (fun t k => XS.ifYes X4.here hx rfl (pc0 := 30) (pc' := 36) rfl (hb hby d1_30) rfl ((if0 _ _).trans (feq (fun q => (fun q => hc5 (Eq.symm q)) ((lw_eq (0 : Int64) qv).mp q))).2) (by decide) (by decide) k) ?_
    show OwnEnds _ _ _ _ _ _ _ (T4.setTop (mkF m 36 #[.val (.long qv), .second, .val (.ref w_ENCODINGS), .val (.int (6 : Int32)), .val (.int (0 : Int32)), .val (.ref w_NONE)] []))
    refine ogo (fun t k => XS.iinc X4.here hx rfl (hb hby d1_36) rfl (l' := #[.val (.long qv), .second, .val (.ref w_ENCODINGS), .val (.int (6 : Int32)), .val (.int (1 : Int32)), .val (.ref w_NONE)]) rfl k) ?_
    show OwnEnds _ _ _ _ _ _ _ (T4.setTop (mkF m 39 #[.val (.long qv), .second, .val (.ref w_ENCODINGS), .val (.int (6 : Int32)), .val (.int (1 : Int32)), .val (.ref w_NONE)] []))
    refine ogo (fun t k => XS.goto X4.here hx rfl (pc0 := 39) (pc' := 10) rfl (hb hby d1_39) (by decide) (by decide) k) ?_
    show OwnEnds _ _ _ _ _ _ _ (T4.setTop (mkF m 10 #[.val (.long qv), .second, .val (.ref w_ENCODINGS), .val (.int (6 : Int32)), .val (.int (1 : Int32)), .val (.ref w_NONE)] []))
    refine ogo (fun t k => XS.iload X4.here hx rfl (hb hby d1_10) rfl k) ?_
    show OwnEnds _ _ _ _ _ _ _ (T4.setTop (mkF m 12 #[.val (.long qv), .second, .val (.ref w_ENCODINGS), .val (.int (6 : Int32)), .val (.int (1 : Int32)), .val (.ref w_NONE)] [(.int (1 : Int32))]))
    refine ogo (fun t k => XS.iloadN X4.here hx rfl (hb hby d1_12) rfl k) ?_
    show OwnEnds _ _ _ _ _ _ _ (T4.setTop (mkF m 13 #[.val (.long qv), .second, .val (.ref w_ENCODINGS), .val (.int (6 : Int32)), .val (.int (1 : Int32)), .val (.ref w_NONE)] [(.int (6 : Int32)), (.int (1 : Int32))]))
    refine ogo (fun t k => XS.icmpNo X4.here hx rfl (hb hby d1_13) rfl (tlt (by decide : (1 : Int32) < (6 : Int32))).2.1 k) ?_
    show OwnEnds _ _ _ _ _ _ _ (T4.setTop (mkF m 16 #[.val (.long qv), .second, .val (.ref w_ENCODINGS), .val (.int (6 : Int32)), .val (.int (1 : Int32)), .val (.ref w_NONE)] []))
    refine ogo (fun t k => XS.aloadN X4.here hx rfl (hb hby d1_16) rfl rfl k) ?_
    show OwnEnds _ _ _ _ _ _ _ (T4.setTop (mkF m 17 #[.val (.long qv), .second, .val (.ref w_ENCODINGS), .val (.int (6 : Int32)), .val (.int (1 : Int32)), .val (.ref w_NONE)] [(.ref w_ENCODINGS)]))
    refine ogo (fun t k => XS.iload X4.here hx rfl (hb hby d1_17) rfl k) ?_
    show OwnEnds _ _ _ _ _ _ _ (T4.setTop (mkF m 19 #[.val (.long qv), .second, .val (.ref w_ENCODINGS), .val (.int (6 : Int32)), .val (.int (1 : Int32)), .val (.ref w_NONE)] [(.int (1 : Int32)), (.ref w_ENCODINGS)]))
    obtain ⟨ak6, cl6, Ar6, Aq6, As6, An6, Ah6, Ag6⟩ := id V_ENCODINGS
    refine ogo (fun t k => X4.aaload hx (j := (1 : Int32)) (v := (.ref w_PROTOBUF)) (by rw [e4]; exact Ar6.1) (State.isArrayOf_alike hZ.alike Ar6.2.1) rfl Ar6.2.2 (inb_of As6 ⟨by decide, by decide⟩) (Ah6.at (inb_of As6 ⟨by decide, by decide⟩) rfl) (g := (mkF m 19 #[.val (.long qv), .second, .val (.ref w_ENCODINGS), .val (.int (6 : Int32)), .val (.int (1 : Int32)), .val (.ref w_NONE)] [(.int (1 : Int32)), (.ref w_ENCODINGS)])) rfl rfl (hb hby d1_19) t k) ?_
    show OwnEnds _ _ _ _ _ _ _ (T4.setTop (mkF m 20 #[.val (.long qv), .second, .val (.ref w_ENCODINGS), .val (.int (6 : Int32)), .val (.int (1 : Int32)), .val (.ref w_NONE)] [(.ref w_PROTOBUF)]))
    refine ogo (fun t k => XS.astore X4.here hx rfl (hb hby d1_20) rfl rfl (l' := #[.val (.long qv), .second, .val (.ref w_ENCODINGS), .val (.int (6 : Int32)), .val (.int (1 : Int32)), .val (.ref w_PROTOBUF)]) rfl k) ?_
    show OwnEnds _ _ _ _ _ _ _ (T4.setTop (mkF m 22 #[.val (.long qv), .second, .val (.ref w_ENCODINGS), .val (.int (6 : Int32)), .val (.int (1 : Int32)), .val (.ref w_PROTOBUF)] []))
    refine ogo (fun t k => XS.aload X4.here hx rfl (hb hby d1_22) rfl rfl k) ?_
    show OwnEnds _ _ _ _ _ _ _ (T4.setTop (mkF m 24 #[.val (.long qv), .second, .val (.ref w_ENCODINGS), .val (.int (6 : Int32)), .val (.int (1 : Int32)), .val (.ref w_PROTOBUF)] [(.ref w_PROTOBUF)]))
    obtain ⟨T7, X7, e7, st7⟩ := getF X4 hx hZ hown (host := "") (Or.inl (hw _ (List.mem_of_getElem? (i := 7) rfl))) Via.refl e4 F_code_PROTOBUF (g := (mkF m 24 #[.val (.long qv), .second, .val (.ref w_ENCODINGS), .val (.int (6 : Int32)), .val (.int (1 : Int32)), .val (.ref w_PROTOBUF)] [(.ref w_PROTOBUF)])) rfl rfl (hb hby d1_24)
    refine ogo st7 ?_
    show OwnEnds _ _ _ _ _ _ _ (T7.setTop (mkF m 27 #[.val (.long qv), .second, .val (.ref w_ENCODINGS), .val (.int (6 : Int32)), .val (.int (1 : Int32)), .val (.ref w_PROTOBUF)] [(.int (1 : Int32))]))
    refine ogo (fun t k => XS.i2l X7.here hx rfl (hb hby d1_27) rfl k) ?_
    show OwnEnds _ _ _ _ _ _ _ (T7.setTop (mkF m 28 #[.val (.long qv), .second, .val (.ref w_ENCODINGS), .val (.int (6 : Int32)), .val (.int (1 : Int32)), .val (.ref w_PROTOBUF)] [(.long (1 : Int64))]))
    refine ogo (fun t k => XS.lloadN X7.here hx rfl (hb hby d1_28) rfl k) ?_
    show OwnEnds _ _ _ _ _ _ _ (T7.setTop (mkF m 29 #[.val (.long qv), .second, .val (.ref w_ENCODINGS), .val (.int (6 : Int32)), .val (.int (1 : Int32)), .val (.ref w_PROTOBUF)] [(.long qv), (.long (1 : Int64))]))
    refine ogo (fun t k => XS.lcmp X7.here hx rfl (hb hby d1_29) rfl k) ?_
    show OwnEnds _ _ _ _ _ _ _ (T7.setTop (mkF m 30 #[.val (.long qv), .second, .val (.ref w_ENCODINGS), .val (.int (6 : Int32)), .val (.int (1 : Int32)), .val (.ref w_PROTOBUF)] [(.int (lcmpW (1 : Int64) qv))]))
    by_cases hc8 : qv = (1 : Int64)
    · refine ogo (fun t k => XS.ifNo X7.here hx rfl (hb hby d1_30) rfl ((if0 _ _).trans (teq ((lw_eq (1 : Int64) qv).mpr (Eq.symm hc8))).2) k) ?_
      show OwnEnds _ _ _ _ _ _ _ (T7.setTop (mkF m 33 #[.val (.long qv), .second, .val (.ref w_ENCODINGS), .val (.int (6 : Int32)), .val (.int (1 : Int32)), .val (.ref w_PROTOBUF)] []))
      refine ogo (fun t k => XS.aload X7.here hx rfl (hb hby d1_33) rfl rfl k) ?_
      show OwnEnds _ _ _ _ _ _ _ (T7.setTop (mkF m 35 #[.val (.long qv), .second, .val (.ref w_ENCODINGS), .val (.int (6 : Int32)), .val (.int (1 : Int32)), .val (.ref w_PROTOBUF)] [(.ref w_PROTOBUF)]))
      refine endA X7 hx hlk Bd.returns rfl rfl (hb hby d1_35) (by decide) (by decide) ?_
      show Q1 Z qv w_NONE w_PROTOBUF w_JSON w_MSGPACK w_BSON w_RAW w_ENCODINGS h0 n0 _ T7.heap _
      rw [e7]
      exact ⟨by simp [own_of, hc5, hc8], N0, rfl⟩
    · refine ogo (fun t k => XS.ifYes X7.here hx rfl (pc0 := 30) (pc' := 36) rfl (hb hby d1_30) rfl ((if0 _ _).trans (feq (fun q => (fun q => hc8 (Eq.symm q)) ((lw_eq (1 : Int64) qv).mp q))).2) (by decide) (by decide) k) ?_
      show OwnEnds _ _ _ _ _ _ _ (T7.setTop (mkF m 36 #[.val (.long qv), .second, .val (.ref w_ENCODINGS), .val (.int (6 : Int32)), .val (.int (1 : Int32)), .val (.ref w_PROTOBUF)] []))
      refine ogo (fun t k => XS.iinc X7.here hx rfl (hb hby d1_36) rfl (l' := #[.val (.long qv), .second, .val (.ref w_ENCODINGS), .val (.int (6 : Int32)), .val (.int (2 : Int32)), .val (.ref w_PROTOBUF)]) rfl k) ?_
      show OwnEnds _ _ _ _ _ _ _ (T7.setTop (mkF m 39 #[.val (.long qv), .second, .val (.ref w_ENCODINGS), .val (.int (6 : Int32)), .val (.int (2 : Int32)), .val (.ref w_PROTOBUF)] []))
      refine ogo (fun t k => XS.goto X7.here hx rfl (pc0 := 39) (pc' := 10) rfl (hb hby d1_39) (by decide) (by decide) k) ?_
      show OwnEnds _ _ _ _ _ _ _ (T7.setTop (mkF m 10 #[.val (.long qv), .second, .val (.ref w_ENCODINGS), .val (.int (6 : Int32)), .val (.int (2 : Int32)), .val (.ref w_PROTOBUF)] []))
      refine ogo (fun t k => XS.iload X7.here hx rfl (hb hby d1_10) rfl k) ?_
      show OwnEnds _ _ _ _ _ _ _ (T7.setTop (mkF m 12 #[.val (.long qv), .second, .val (.ref w_ENCODINGS), .val (.int (6 : Int32)), .val (.int (2 : Int32)), .val (.ref w_PROTOBUF)] [(.int (2 : Int32))]))
      refine ogo (fun t k => XS.iloadN X7.here hx rfl (hb hby d1_12) rfl k) ?_
      show OwnEnds _ _ _ _ _ _ _ (T7.setTop (mkF m 13 #[.val (.long qv), .second, .val (.ref w_ENCODINGS), .val (.int (6 : Int32)), .val (.int (2 : Int32)), .val (.ref w_PROTOBUF)] [(.int (6 : Int32)), (.int (2 : Int32))]))
      refine ogo (fun t k => XS.icmpNo X7.here hx rfl (hb hby d1_13) rfl (tlt (by decide : (2 : Int32) < (6 : Int32))).2.1 k) ?_
      show OwnEnds _ _ _ _ _ _ _ (T7.setTop (mkF m 16 #[.val (.long qv), .second, .val (.ref w_ENCODINGS), .val (.int (6 : Int32)), .val (.int (2 : Int32)), .val (.ref w_PROTOBUF)] []))
      refine ogo (fun t k => XS.aloadN X7.here hx rfl (hb hby d1_16) rfl rfl k) ?_
      show OwnEnds _ _ _ _ _ _ _ (T7.setTop (mkF m 17 #[.val (.long qv), .second, .val (.ref w_ENCODINGS), .val (.int (6 : Int32)), .val (.int (2 : Int32)), .val (.ref w_PROTOBUF)] [(.ref w_ENCODINGS)]))
      refine ogo (fun t k => XS.iload X7.here hx rfl (hb hby d1_17) rfl k) ?_
      show OwnEnds _ _ _ _ _ _ _ (T7.setTop (mkF m 19 #[.val (.long qv), .second, .val (.ref w_ENCODINGS), .val (.int (6 : Int32)), .val (.int (2 : Int32)), .val (.ref w_PROTOBUF)] [(.int (2 : Int32)), (.ref w_ENCODINGS)]))
      obtain ⟨ak9, cl9, Ar9, Aq9, As9, An9, Ah9, Ag9⟩ := id V_ENCODINGS
      refine ogo (fun t k => X7.aaload hx (j := (2 : Int32)) (v := (.ref w_JSON)) (by rw [e7]; exact Ar9.1) (State.isArrayOf_alike hZ.alike Ar9.2.1) rfl Ar9.2.2 (inb_of As9 ⟨by decide, by decide⟩) (Ah9.at (inb_of As9 ⟨by decide, by decide⟩) rfl) (g := (mkF m 19 #[.val (.long qv), .second, .val (.ref w_ENCODINGS), .val (.int (6 : Int32)), .val (.int (2 : Int32)), .val (.ref w_PROTOBUF)] [(.int (2 : Int32)), (.ref w_ENCODINGS)])) rfl rfl (hb hby d1_19) t k) ?_
      show OwnEnds _ _ _ _ _ _ _ (T7.setTop (mkF m 20 #[.val (.long qv), .second, .val (.ref w_ENCODINGS), .val (.int (6 : Int32)), .val (.int (2 : Int32)), .val (.ref w_PROTOBUF)] [(.ref w_JSON)]))
      refine ogo (fun t k => XS.astore X7.here hx rfl (hb hby d1_20) rfl rfl (l' := #[.val (.long qv), .second, .val (.ref w_ENCODINGS), .val (.int (6 : Int32)), .val (.int (2 : Int32)), .val (.ref w_JSON)]) rfl k) ?_
      show OwnEnds _ _ _ _ _ _ _ (T7.setTop (mkF m 22 #[.val (.long qv), .second, .val (.ref w_ENCODINGS), .val (.int (6 : Int32)), .val (.int (2 : Int32)), .val (.ref w_JSON)] []))
      refine ogo (fun t k => XS.aload X7.here hx rfl (hb hby d1_22) rfl rfl k) ?_
      show OwnEnds _ _ _ _ _ _ _ (T7.setTop (mkF m 24 #[.val (.long qv), .second, .val (.ref w_ENCODINGS), .val (.int (6 : Int32)), .val (.int (2 : Int32)), .val (.ref w_JSON)] [(.ref w_JSON)]))
      obtain ⟨T10, X10, e10, st10⟩ := getF X7 hx hZ hown (host := "") (Or.inl (hw _ (List.mem_of_getElem? (i := 7) rfl))) Via.refl e7 F_code_JSON (g := (mkF m 24 #[.val (.long qv), .second, .val (.ref w_ENCODINGS), .val (.int (6 : Int32)), .val (.int (2 : Int32)), .val (.ref w_JSON)] [(.ref w_JSON)])) rfl rfl (hb hby d1_24)
      refine ogo st10 ?_
      show OwnEnds _ _ _ _ _ _ _ (T10.setTop (mkF m 27 #[.val (.long qv), .second, .val (.ref w_ENCODINGS), .val (.int (6 : Int32)), .val (.int (2 : Int32)), .val (.ref w_JSON)] [(.int (2 : Int32))]))
      refine ogo (fun t k => XS.i2l X10.here hx rfl (hb hby d1_27) rfl k) ?_
      show OwnEnds _ _ _ _ _ _ _ (T10.setTop (mkF m 28 #[.val (.long qv), .second, .val (.ref w_ENCODINGS), .val (.int (6 : Int32)), .val (.int (2 : Int32)), .val (.ref w_JSON)] [(.long (2 : Int64))]))
      refine ogo (fun t k => XS.lloadN X10.here hx rfl (hb hby d1_28) rfl k) ?_
      show OwnEnds _ _ _ _ _ _ _ (T10.setTop (mkF m 29 #[.val (.long qv), .second, .val (.ref w_ENCODINGS), .val (.int (6 : Int32)), .val (.int (2 : Int32)), .val (.ref w_JSON)] [(.long qv), (.long (2 : Int64))]))
      refine ogo (fun t k => XS.lcmp X10.here hx rfl (hb hby d1_29) rfl k) ?_
      show OwnEnds _ _ _ _ _ _ _ (T10.setTop (mkF m 30 #[.val (.long qv), .second, .val (.ref w_ENCODINGS), .val (.int (6 : Int32)), .val (.int (2 : Int32)), .val (.ref w_JSON)] [(.int (lcmpW (2 : Int64) qv))]))
      by_cases hc11 : qv = (2 : Int64)
      · refine ogo (fun t k => XS.ifNo X10.here hx rfl (hb hby d1_30) rfl ((if0 _ _).trans (teq ((lw_eq (2 : Int64) qv).mpr (Eq.symm hc11))).2) k) ?_
        show OwnEnds _ _ _ _ _ _ _ (T10.setTop (mkF m 33 #[.val (.long qv), .second, .val (.ref w_ENCODINGS), .val (.int (6 : Int32)), .val (.int (2 : Int32)), .val (.ref w_JSON)] []))
        refine ogo (fun t k => XS.aload X10.here hx rfl (hb hby d1_33) rfl rfl k) ?_
        show OwnEnds _ _ _ _ _ _ _ (T10.setTop (mkF m 35 #[.val (.long qv), .second, .val (.ref w_ENCODINGS), .val (.int (6 : Int32)), .val (.int (2 : Int32)), .val (.ref w_JSON)] [(.ref w_JSON)]))
        refine endA X10 hx hlk Bd.returns rfl rfl (hb hby d1_35) (by decide) (by decide) ?_
        show Q1 Z qv w_NONE w_PROTOBUF w_JSON w_MSGPACK w_BSON w_RAW w_ENCODINGS h0 n0 _ T10.heap _
        rw [e10]
        exact ⟨by simp [own_of, hc5, hc8, hc11], N0, rfl⟩
      · refine ogo (fun t k => XS.ifYes X10.here hx rfl (pc0 := 30) (pc' := 36) rfl (hb hby d1_30) rfl ((if0 _ _).trans (feq (fun q => (fun q => hc11 (Eq.symm q)) ((lw_eq (2 : Int64) qv).mp q))).2) (by decide) (by decide) k) ?_
        show OwnEnds _ _ _ _ _ _ _ (T10.setTop (mkF m 36 #[.val (.long qv), .second, .val (.ref w_ENCODINGS), .val (.int (6 : Int32)), .val (.int (2 : Int32)), .val (.ref w_JSON)] []))
        refine ogo (fun t k => XS.iinc X10.here hx rfl (hb hby d1_36) rfl (l' := #[.val (.long qv), .second, .val (.ref w_ENCODINGS), .val (.int (6 : Int32)), .val (.int (3 : Int32)), .val (.ref w_JSON)]) rfl k) ?_
        show OwnEnds _ _ _ _ _ _ _ (T10.setTop (mkF m 39 #[.val (.long qv), .second, .val (.ref w_ENCODINGS), .val (.int (6 : Int32)), .val (.int (3 : Int32)), .val (.ref w_JSON)] []))
        refine ogo (fun t k => XS.goto X10.here hx rfl (pc0 := 39) (pc' := 10) rfl (hb hby d1_39) (by decide) (by decide) k) ?_
        show OwnEnds _ _ _ _ _ _ _ (T10.setTop (mkF m 10 #[.val (.long qv), .second, .val (.ref w_ENCODINGS), .val (.int (6 : Int32)), .val (.int (3 : Int32)), .val (.ref w_JSON)] []))
        refine ogo (fun t k => XS.iload X10.here hx rfl (hb hby d1_10) rfl k) ?_
        show OwnEnds _ _ _ _ _ _ _ (T10.setTop (mkF m 12 #[.val (.long qv), .second, .val (.ref w_ENCODINGS), .val (.int (6 : Int32)), .val (.int (3 : Int32)), .val (.ref w_JSON)] [(.int (3 : Int32))]))
        refine ogo (fun t k => XS.iloadN X10.here hx rfl (hb hby d1_12) rfl k) ?_
        show OwnEnds _ _ _ _ _ _ _ (T10.setTop (mkF m 13 #[.val (.long qv), .second, .val (.ref w_ENCODINGS), .val (.int (6 : Int32)), .val (.int (3 : Int32)), .val (.ref w_JSON)] [(.int (6 : Int32)), (.int (3 : Int32))]))
        refine ogo (fun t k => XS.icmpNo X10.here hx rfl (hb hby d1_13) rfl (tlt (by decide : (3 : Int32) < (6 : Int32))).2.1 k) ?_
        show OwnEnds _ _ _ _ _ _ _ (T10.setTop (mkF m 16 #[.val (.long qv), .second, .val (.ref w_ENCODINGS), .val (.int (6 : Int32)), .val (.int (3 : Int32)), .val (.ref w_JSON)] []))
        refine ogo (fun t k => XS.aloadN X10.here hx rfl (hb hby d1_16) rfl rfl k) ?_
        show OwnEnds _ _ _ _ _ _ _ (T10.setTop (mkF m 17 #[.val (.long qv), .second, .val (.ref w_ENCODINGS), .val (.int (6 : Int32)), .val (.int (3 : Int32)), .val (.ref w_JSON)] [(.ref w_ENCODINGS)]))
        refine ogo (fun t k => XS.iload X10.here hx rfl (hb hby d1_17) rfl k) ?_
        show OwnEnds _ _ _ _ _ _ _ (T10.setTop (mkF m 19 #[.val (.long qv), .second, .val (.ref w_ENCODINGS), .val (.int (6 : Int32)), .val (.int (3 : Int32)), .val (.ref w_JSON)] [(.int (3 : Int32)), (.ref w_ENCODINGS)]))
        obtain ⟨ak12, cl12, Ar12, Aq12, As12, An12, Ah12, Ag12⟩ := id V_ENCODINGS
        refine ogo (fun t k => X10.aaload hx (j := (3 : Int32)) (v := (.ref w_MSGPACK)) (by rw [e10]; exact Ar12.1) (State.isArrayOf_alike hZ.alike Ar12.2.1) rfl Ar12.2.2 (inb_of As12 ⟨by decide, by decide⟩) (Ah12.at (inb_of As12 ⟨by decide, by decide⟩) rfl) (g := (mkF m 19 #[.val (.long qv), .second, .val (.ref w_ENCODINGS), .val (.int (6 : Int32)), .val (.int (3 : Int32)), .val (.ref w_JSON)] [(.int (3 : Int32)), (.ref w_ENCODINGS)])) rfl rfl (hb hby d1_19) t k) ?_
        show OwnEnds _ _ _ _ _ _ _ (T10.setTop (mkF m 20 #[.val (.long qv), .second, .val (.ref w_ENCODINGS), .val (.int (6 : Int32)), .val (.int (3 : Int32)), .val (.ref w_JSON)] [(.ref w_MSGPACK)]))
        refine ogo (fun t k => XS.astore X10.here hx rfl (hb hby d1_20) rfl rfl (l' := #[.val (.long qv), .second, .val (.ref w_ENCODINGS), .val (.int (6 : Int32)), .val (.int (3 : Int32)), .val (.ref w_MSGPACK)]) rfl k) ?_
        show OwnEnds _ _ _ _ _ _ _ (T10.setTop (mkF m 22 #[.val (.long qv), .second, .val (.ref w_ENCODINGS), .val (.int (6 : Int32)), .val (.int (3 : Int32)), .val (.ref w_MSGPACK)] []))
        refine ogo (fun t k => XS.aload X10.here hx rfl (hb hby d1_22) rfl rfl k) ?_
        show OwnEnds _ _ _ _ _ _ _ (T10.setTop (mkF m 24 #[.val (.long qv), .second, .val (.ref w_ENCODINGS), .val (.int (6 : Int32)), .val (.int (3 : Int32)), .val (.ref w_MSGPACK)] [(.ref w_MSGPACK)]))
        obtain ⟨T13, X13, e13, st13⟩ := getF X10 hx hZ hown (host := "") (Or.inl (hw _ (List.mem_of_getElem? (i := 7) rfl))) Via.refl e10 F_code_MSGPACK (g := (mkF m 24 #[.val (.long qv), .second, .val (.ref w_ENCODINGS), .val (.int (6 : Int32)), .val (.int (3 : Int32)), .val (.ref w_MSGPACK)] [(.ref w_MSGPACK)])) rfl rfl (hb hby d1_24)
        refine ogo st13 ?_
        show OwnEnds _ _ _ _ _ _ _ (T13.setTop (mkF m 27 #[.val (.long qv), .second, .val (.ref w_ENCODINGS), .val (.int (6 : Int32)), .val (.int (3 : Int32)), .val (.ref w_MSGPACK)] [(.int (3 : Int32))]))
        refine ogo (fun t k => XS.i2l X13.here hx rfl (hb hby d1_27) rfl k) ?_
        show OwnEnds _ _ _ _ _ _ _ (T13.setTop (mkF m 28 #[.val (.long qv), .second, .val (.ref w_ENCODINGS), .val (.int (6 : Int32)), .val (.int (3 : Int32)), .val (.ref w_MSGPACK)] [(.long (3 : Int64))]))
        refine ogo (fun t k => XS.lloadN X13.here hx rfl (hb hby d1_28) rfl k) ?_
        show OwnEnds _ _ _ _ _ _ _ (T13.setTop (mkF m 29 #[.val (.long qv), .second, .val (.ref w_ENCODINGS), .val (.int (6 : Int32)), .val (.int (3 : Int32)), .val (.ref w_MSGPACK)] [(.long qv), (.long (3 : Int64))]))
        refine ogo (fun t k => XS.lcmp X13.here hx rfl (hb hby d1_29) rfl k) ?_
        show OwnEnds _ _ _ _ _ _ _ (T13.setTop (mkF m 30 #[.val (.long qv), .second, .val (.ref w_ENCODINGS), .val (.int (6 : Int32)), .val (.int (3 : Int32)), .val (.ref w_MSGPACK)] [(.int (lcmpW (3 : Int64) qv))]))
        by_cases hc14 : qv = (3 : Int64)
        · refine ogo (fun t k => XS.ifNo X13.here hx rfl (hb hby d1_30) rfl ((if0 _ _).trans (teq ((lw_eq (3 : Int64) qv).mpr (Eq.symm hc14))).2) k) ?_
          show OwnEnds _ _ _ _ _ _ _ (T13.setTop (mkF m 33 #[.val (.long qv), .second, .val (.ref w_ENCODINGS), .val (.int (6 : Int32)), .val (.int (3 : Int32)), .val (.ref w_MSGPACK)] []))
          refine ogo (fun t k => XS.aload X13.here hx rfl (hb hby d1_33) rfl rfl k) ?_
          show OwnEnds _ _ _ _ _ _ _ (T13.setTop (mkF m 35 #[.val (.long qv), .second, .val (.ref w_ENCODINGS), .val (.int (6 : Int32)), .val (.int (3 : Int32)), .val (.ref w_MSGPACK)] [(.ref w_MSGPACK)]))
          refine endA X13 hx hlk Bd.returns rfl rfl (hb hby d1_35) (by decide) (by decide) ?_
          show Q1 Z qv w_NONE w_PROTOBUF w_JSON w_MSGPACK w_BSON w_RAW w_ENCODINGS h0 n0 _ T13.heap _
          rw [e13]
          exact ⟨by simp [own_of, hc5, hc8, hc11, hc14], N0, rfl⟩
        · refine ogo (fun t k => XS.ifYes X13.here hx rfl (pc0 := 30) (pc' := 36) rfl (hb hby d1_30) rfl ((if0 _ _).trans (feq (fun q => (fun q => hc14 (Eq.symm q)) ((lw_eq (3 : Int64) qv).mp q))).2) (by decide) (by decide) k) ?_
          show OwnEnds _ _ _ _ _ _ _ (T13.setTop (mkF m 36 #[.val (.long qv), .second, .val (.ref w_ENCODINGS), .val (.int (6 : Int32)), .val (.int (3 : Int32)), .val (.ref w_MSGPACK)] []))
          refine ogo (fun t k => XS.iinc X13.here hx rfl (hb hby d1_36) rfl (l' := #[.val (.long qv), .second, .val (.ref w_ENCODINGS), .val (.int (6 : Int32)), .val (.int (4 : Int32)), .val (.ref w_MSGPACK)]) rfl k) ?_
          show OwnEnds _ _ _ _ _ _ _ (T13.setTop (mkF m 39 #[.val (.long qv), .second, .val (.ref w_ENCODINGS), .val (.int (6 : Int32)), .val (.int (4 : Int32)), .val (.ref w_MSGPACK)] []))
          refine ogo (fun t k => XS.goto X13.here hx rfl (pc0 := 39) (pc' := 10) rfl (hb hby d1_39) (by decide) (by decide) k) ?_
          show OwnEnds _ _ _ _ _ _ _ (T13.setTop (mkF m 10 #[.val (.long qv), .second, .val (.ref w_ENCODINGS), .val (.int (6 : Int32)), .val (.int (4 : Int32)), .val (.ref w_MSGPACK)] []))
          refine ogo (fun t k => XS.iload X13.here hx rfl (hb hby d1_10) rfl k) ?_
          show OwnEnds _ _ _ _ _ _ _ (T13.setTop (mkF m 12 #[.val (.long qv), .second, .val (.ref w_ENCODINGS), .val (.int (6 : Int32)), .val (.int (4 : Int32)), .val (.ref w_MSGPACK)] [(.int (4 : Int32))]))
          refine ogo (fun t k => XS.iloadN X13.here hx rfl (hb hby d1_12) rfl k) ?_
          show OwnEnds _ _ _ _ _ _ _ (T13.setTop (mkF m 13 #[.val (.long qv), .second, .val (.ref w_ENCODINGS), .val (.int (6 : Int32)), .val (.int (4 : Int32)), .val (.ref w_MSGPACK)] [(.int (6 : Int32)), (.int (4 : Int32))]))
          refine ogo (fun t k => XS.icmpNo X13.here hx rfl (hb hby d1_13) rfl (tlt (by decide : (4 : Int32) < (6 : Int32))).2.1 k) ?_
          show OwnEnds _ _ _ _ _ _ _ (T13.setTop (mkF m 16 #[.val (.long qv), .second, .val (.ref w_ENCODINGS), .val (.int (6 : Int32)), .val (.int (4 : Int32)), .val (.ref w_MSGPACK)] []))
          refine ogo (fun t k => XS.aloadN X13.here hx rfl (hb hby d1_16) rfl rfl k) ?_
          show OwnEnds _ _ _ _ _ _ _ (T13.setTop (mkF m 17 #[.val (.long qv), .second, .val (.ref w_ENCODINGS), .val (.int (6 : Int32)), .val (.int (4 : Int32)), .val (.ref w_MSGPACK)] [(.ref w_ENCODINGS)]))
          refine ogo (fun t k => XS.iload X13.here hx rfl (hb hby d1_17) rfl k) ?_
          show OwnEnds _ _ _ _ _ _ _ (T13.setTop (mkF m 19 #[.val (.long qv), .second, .val (.ref w_ENCODINGS), .val (.int (6 : Int32)), .val (.int (4 : Int32)), .val (.ref w_MSGPACK)] [(.int (4 : Int32)), (.ref w_ENCODINGS)]))
          obtain ⟨ak15, cl15, Ar15, Aq15, As15, An15, Ah15, Ag15⟩ := id V_ENCODINGS
          refine ogo (fun t k => X13.aaload hx (j := (4 : Int32)) (v := (.ref w_BSON)) (by rw [e13]; exact Ar15.1) (State.isArrayOf_alike hZ.alike Ar15.2.1) rfl Ar15.2.2 (inb_of As15 ⟨by decide, by decide⟩) (Ah15.at (inb_of As15 ⟨by decide, by decide⟩) rfl) (g := (mkF m 19 #[.val (.long qv), .second, .val (.ref w_ENCODINGS), .val (.int (6 : Int32)), .val (.int (4 : Int32)), .val (.ref w_MSGPACK)] [(.int (4 : Int32)), (.ref w_ENCODINGS)])) rfl rfl (hb hby d1_19) t k) ?_
          show OwnEnds _ _ _ _ _ _ _ (T13.setTop (mkF m 20 #[.val (.long qv), .second, .val (.ref w_ENCODINGS), .val (.int (6 : Int32)), .val (.int (4 : Int32)), .val (.ref w_MSGPACK)] [(.ref w_BSON)]))
          refine ogo (fun t k => XS.astore X13.here hx rfl (hb hby d1_20) rfl rfl (l' := #[.val (.long qv), .second, .val (.ref w_ENCODINGS), .val (.int (6 : Int32)), .val (.int (4 : Int32)), .val (.ref w_BSON)]) rfl k) ?_
          show OwnEnds _ _ _ _ _ _ _ (T13.setTop (mkF m 22 #[.val (.long qv), .second, .val (.ref w_ENCODINGS), .val (.int (6 : Int32)), .val (.int (4 : Int32)), .val (.ref w_BSON)] []))
          refine ogo (fun t k => XS.aload X13.here hx rfl (hb hby d1_22) rfl rfl k) ?_
          show OwnEnds _ _ _ _ _ _ _ (T13.setTop (mkF m 24 #[.val (.long qv), .second, .val (.ref w_ENCODINGS), .val (.int (6 : Int32)), .val (.int (4 : Int32)), .val (.ref w_BSON)] [(.ref w_BSON)]))
          obtain ⟨T16, X16, e16, st16⟩ := getF X13 hx hZ hown (host := "") (Or.inl (hw _ (List.mem_of_getElem? (i := 7) rfl))) Via.refl e13 F_code_BSON (g := (mkF m 24 #[.val (.long qv), .second, .val (.ref w_ENCODINGS), .val (.int (6 : Int32)), .val (.int (4 : Int32)), .val (.ref w_BSON)] [(.ref w_BSON)])) rfl rfl (hb hby d1_24)
          refine ogo st16 ?_
          show OwnEnds _ _ _ _ _ _ _ (T16.setTop (mkF m 27 #[.val (.long qv), .second, .val (.ref w_ENCODINGS), .val (.int (6 : Int32)), .val (.int (4 : Int32)), .val (.ref w_BSON)] [(.int (4 : Int32))]))
          refine ogo (fun t k => XS.i2l X16.here hx rfl (hb hby d1_27) rfl k) ?_
          show OwnEnds _ _ _ _ _ _ _ (T16.setTop (mkF m 28 #[.val (.long qv), .second, .val (.ref w_ENCODINGS), .val (.int (6 : Int32)), .val (.int (4 : Int32)), .val (.ref w_BSON)] [(.long (4 : Int64))]))
          refine ogo (fun t k => XS.lloadN X16.here hx rfl (hb hby d1_28) rfl k) ?_
          show OwnEnds _ _ _ _ _ _ _ (T16.setTop (mkF m 29 #[.val (.long qv), .second, .val (.ref w_ENCODINGS), .val (.int (6 : Int32)), .val (.int (4 : Int32)), .val (.ref w_BSON)] [(.long qv), (.long (4 : Int64))]))
          refine ogo (fun t k => XS.lcmp X16.here hx rfl (hb hby d1_29) rfl k) ?_
          show OwnEnds _ _ _ _ _ _ _ (T16.setTop (mkF m 30 #[.val (.long qv), .second, .val (.ref w_ENCODINGS), .val (.int (6 : Int32)), .val (.int (4 : Int32)), .val (.ref w_BSON)] [(.int (lcmpW (4 : Int64) qv))]))
          by_cases hc17 : qv = (4 : Int64)
          · refine ogo (fun t k => XS.ifNo X16.here hx rfl (hb hby d1_30) rfl ((if0 _ _).trans (teq ((lw_eq (4 : Int64) qv).mpr (Eq.symm hc17))).2) k) ?_
            show OwnEnds _ _ _ _ _ _ _ (T16.setTop (mkF m 33 #[.val (.long qv), .second, .val (.ref w_ENCODINGS), .val (.int (6 : Int32)), .val (.int (4 : Int32)), .val (.ref w_BSON)] []))
            refine ogo (fun t k => XS.aload X16.here hx rfl (hb hby d1_33) rfl rfl k) ?_
            show OwnEnds _ _ _ _ _ _ _ (T16.setTop (mkF m 35 #[.val (.long qv), .second, .val (.ref w_ENCODINGS), .val (.int (6 : Int32)), .val (.int (4 : Int32)), .val (.ref w_BSON)] [(.ref w_BSON)]))
            refine endA X16 hx hlk Bd.returns rfl rfl (hb hby d1_35) (by decide) (by decide) ?_
            show Q1 Z qv w_NONE w_PROTOBUF w_JSON w_MSGPACK w_BSON w_RAW w_ENCODINGS h0 n0 _ T16.heap _
            rw [e16]
            exact ⟨by simp [own_of, hc5, hc8, hc11, hc14, hc17], N0, rfl⟩
          · refine ogo (fun t k => XS.ifYes X16.here hx rfl (pc0 := 30) (pc' := 36) rfl (hb hby d1_30) rfl ((if0 _ _).trans (feq (fun q => (fun q => hc17 (Eq.symm q)) ((lw_eq (4 : Int64) qv).mp q))).2) (by decide) (by decide) k) ?_
            show OwnEnds _ _ _ _ _ _ _ (T16.setTop (mkF m 36 #[.val (.long qv), .second, .val (.ref w_ENCODINGS), .val (.int (6 : Int32)), .val (.int (4 : Int32)), .val (.ref w_BSON)] []))
            refine ogo (fun t k => XS.iinc X16.here hx rfl (hb hby d1_36) rfl (l' := #[.val (.long qv), .second, .val (.ref w_ENCODINGS), .val (.int (6 : Int32)), .val (.int (5 : Int32)), .val (.ref w_BSON)]) rfl k) ?_
            show OwnEnds _ _ _ _ _ _ _ (T16.setTop (mkF m 39 #[.val (.long qv), .second, .val (.ref w_ENCODINGS), .val (.int (6 : Int32)), .val (.int (5 : Int32)), .val (.ref w_BSON)] []))
            refine ogo (fun t k => XS.goto X16.here hx rfl (pc0 := 39) (pc' := 10) rfl (hb hby d1_39) (by decide) (by decide) k) ?_
            show OwnEnds _ _ _ _ _ _ _ (T16.setTop (mkF m 10 #[.val (.long qv), .second, .val (.ref w_ENCODINGS), .val (.int (6 : Int32)), .val (.int (5 : Int32)), .val (.ref w_BSON)] []))
            refine ogo (fun t k => XS.iload X16.here hx rfl (hb hby d1_10) rfl k) ?_
            show OwnEnds _ _ _ _ _ _ _ (T16.setTop (mkF m 12 #[.val (.long qv), .second, .val (.ref w_ENCODINGS), .val (.int (6 : Int32)), .val (.int (5 : Int32)), .val (.ref w_BSON)] [(.int (5 : Int32))]))
            refine ogo (fun t k => XS.iloadN X16.here hx rfl (hb hby d1_12) rfl k) ?_
            show OwnEnds _ _ _ _ _ _ _ (T16.setTop (mkF m 13 #[.val (.long qv), .second, .val (.ref w_ENCODINGS), .val (.int (6 : Int32)), .val (.int (5 : Int32)), .val (.ref w_BSON)] [(.int (6 : Int32)), (.int (5 : Int32))]))
            refine ogo (fun t k => XS.icmpNo X16.here hx rfl (hb hby d1_13) rfl (tlt (by decide : (5 : Int32) < (6 : Int32))).2.1 k) ?_
            show OwnEnds _ _ _ _ _ _ _ (T16.setTop (mkF m 16 #[.val (.long qv), .second, .val (.ref w_ENCODINGS), .val (.int (6 : Int32)), .val (.int (5 : Int32)), .val (.ref w_BSON)] []))
            refine ogo (fun t k => XS.aloadN X16.here hx rfl (hb hby d1_16) rfl rfl k) ?_
            show OwnEnds _ _ _ _ _ _ _ (T16.setTop (mkF m 17 #[.val (.long qv), .second, .val (.ref w_ENCODINGS), .val (.int (6 : Int32)), .val (.int (5 : Int32)), .val (.ref w_BSON)] [(.ref w_ENCODINGS)]))
            refine ogo (fun t k => XS.iload X16.here hx rfl (hb hby d1_17) rfl k) ?_
            show OwnEnds _ _ _ _ _ _ _ (T16.setTop (mkF m 19 #[.val (.long qv), .second, .val (.ref w_ENCODINGS), .val (.int (6 : Int32)), .val (.int (5 : Int32)), .val (.ref w_BSON)] [(.int (5 : Int32)), (.ref w_ENCODINGS)]))
            obtain ⟨ak18, cl18, Ar18, Aq18, As18, An18, Ah18, Ag18⟩ := id V_ENCODINGS
            refine ogo (fun t k => X16.aaload hx (j := (5 : Int32)) (v := (.ref w_RAW)) (by rw [e16]; exact Ar18.1) (State.isArrayOf_alike hZ.alike Ar18.2.1) rfl Ar18.2.2 (inb_of As18 ⟨by decide, by decide⟩) (Ah18.at (inb_of As18 ⟨by decide, by decide⟩) rfl) (g := (mkF m 19 #[.val (.long qv), .second, .val (.ref w_ENCODINGS), .val (.int (6 : Int32)), .val (.int (5 : Int32)), .val (.ref w_BSON)] [(.int (5 : Int32)), (.ref w_ENCODINGS)])) rfl rfl (hb hby d1_19) t k) ?_
            show OwnEnds _ _ _ _ _ _ _ (T16.setTop (mkF m 20 #[.val (.long qv), .second, .val (.ref w_ENCODINGS), .val (.int (6 : Int32)), .val (.int (5 : Int32)), .val (.ref w_BSON)] [(.ref w_RAW)]))
            refine ogo (fun t k => XS.astore X16.here hx rfl (hb hby d1_20) rfl rfl (l' := #[.val (.long qv), .second, .val (.ref w_ENCODINGS), .val (.int (6 : Int32)), .val (.int (5 : Int32)), .val (.ref w_RAW)]) rfl k) ?_
            show OwnEnds _ _ _ _ _ _ _ (T16.setTop (mkF m 22 #[.val (.long qv), .second, .val (.ref w_ENCODINGS), .val (.int (6 : Int32)), .val (.int (5 : Int32)), .val (.ref w_RAW)] []))
            refine ogo (fun t k => XS.aload X16.here hx rfl (hb hby d1_22) rfl rfl k) ?_
            show OwnEnds _ _ _ _ _ _ _ (T16.setTop (mkF m 24 #[.val (.long qv), .second, .val (.ref w_ENCODINGS), .val (.int (6 : Int32)), .val (.int (5 : Int32)), .val (.ref w_RAW)] [(.ref w_RAW)]))
            obtain ⟨T19, X19, e19, st19⟩ := getF X16 hx hZ hown (host := "") (Or.inl (hw _ (List.mem_of_getElem? (i := 7) rfl))) Via.refl e16 F_code_RAW (g := (mkF m 24 #[.val (.long qv), .second, .val (.ref w_ENCODINGS), .val (.int (6 : Int32)), .val (.int (5 : Int32)), .val (.ref w_RAW)] [(.ref w_RAW)])) rfl rfl (hb hby d1_24)
            refine ogo st19 ?_
            show OwnEnds _ _ _ _ _ _ _ (T19.setTop (mkF m 27 #[.val (.long qv), .second, .val (.ref w_ENCODINGS), .val (.int (6 : Int32)), .val (.int (5 : Int32)), .val (.ref w_RAW)] [(.int (5 : Int32))]))
            refine ogo (fun t k => XS.i2l X19.here hx rfl (hb hby d1_27) rfl k) ?_
            show OwnEnds _ _ _ _ _ _ _ (T19.setTop (mkF m 28 #[.val (.long qv), .second, .val (.ref w_ENCODINGS), .val (.int (6 : Int32)), .val (.int (5 : Int32)), .val (.ref w_RAW)] [(.long (5 : Int64))]))
            refine ogo (fun t k => XS.lloadN X19.here hx rfl (hb hby d1_28) rfl k) ?_
            show OwnEnds _ _ _ _ _ _ _ (T19.setTop (mkF m 29 #[.val (.long qv), .second, .val (.ref w_ENCODINGS), .val (.int (6 : Int32)), .val (.int (5 : Int32)), .val (.ref w_RAW)] [(.long qv), (.long (5 : Int64))]))
            refine ogo (fun t k => XS.lcmp X19.here hx rfl (hb hby d1_29) rfl k) ?_
            show OwnEnds _ _ _ _ _ _ _ (T19.setTop (mkF m 30 #[.val (.long qv), .second, .val (.ref w_ENCODINGS), .val (.int (6 : Int32)), .val (.int (5 : Int32)), .val (.ref w_RAW)] [(.int (lcmpW (5 : Int64) qv))]))
            by_cases hc20 : qv = (5 : Int64)
            · refine ogo (fun t k => XS.ifNo X19.here hx rfl (hb hby d1_30) rfl ((if0 _ _).trans (teq ((lw_eq (5 : Int64) qv).mpr (Eq.symm hc20))).2) k) ?_
              show OwnEnds _ _ _ _ _ _ _ (T19.setTop (mkF m 33 #[.val (.long qv), .second, .val (.ref w_ENCODINGS), .val (.int (6 : Int32)), .val (.int (5 : Int32)), .val (.ref w_RAW)] []))
              refine ogo (fun t k => XS.aload X19.here hx rfl (hb hby d1_33) rfl rfl k) ?_
              show OwnEnds _ _ _ _ _ _ _ (T19.setTop (mkF m 35 #[.val (.long qv), .second, .val (.ref w_ENCODINGS), .val (.int (6 : Int32)), .val (.int (5 : Int32)), .val (.ref w_RAW)] [(.ref w_RAW)]))
              refine endA X19 hx hlk Bd.returns rfl rfl (hb hby d1_35) (by decide) (by decide) ?_
              show Q1 Z qv w_NONE w_PROTOBUF w_JSON w_MSGPACK w_BSON w_RAW w_ENCODINGS h0 n0 _ T19.heap _
              rw [e19]
              exact ⟨by simp [own_of, hc5, hc8, hc11, hc14, hc17, hc20], N0, rfl⟩
            · refine ogo (fun t k => XS.ifYes X19.here hx rfl (pc0 := 30) (pc' := 36) rfl (hb hby d1_30) rfl ((if0 _ _).trans (feq (fun q => (fun q => hc20 (Eq.symm q)) ((lw_eq (5 : Int64) qv).mp q))).2) (by decide) (by decide) k) ?_
              show OwnEnds _ _ _ _ _ _ _ (T19.setTop (mkF m 36 #[.val (.long qv), .second, .val (.ref w_ENCODINGS), .val (.int (6 : Int32)), .val (.int (5 : Int32)), .val (.ref w_RAW)] []))
              refine ogo (fun t k => XS.iinc X19.here hx rfl (hb hby d1_36) rfl (l' := #[.val (.long qv), .second, .val (.ref w_ENCODINGS), .val (.int (6 : Int32)), .val (.int (6 : Int32)), .val (.ref w_RAW)]) rfl k) ?_
              show OwnEnds _ _ _ _ _ _ _ (T19.setTop (mkF m 39 #[.val (.long qv), .second, .val (.ref w_ENCODINGS), .val (.int (6 : Int32)), .val (.int (6 : Int32)), .val (.ref w_RAW)] []))
              refine ogo (fun t k => XS.goto X19.here hx rfl (pc0 := 39) (pc' := 10) rfl (hb hby d1_39) (by decide) (by decide) k) ?_
              show OwnEnds _ _ _ _ _ _ _ (T19.setTop (mkF m 10 #[.val (.long qv), .second, .val (.ref w_ENCODINGS), .val (.int (6 : Int32)), .val (.int (6 : Int32)), .val (.ref w_RAW)] []))
              refine ogo (fun t k => XS.iload X19.here hx rfl (hb hby d1_10) rfl k) ?_
              show OwnEnds _ _ _ _ _ _ _ (T19.setTop (mkF m 12 #[.val (.long qv), .second, .val (.ref w_ENCODINGS), .val (.int (6 : Int32)), .val (.int (6 : Int32)), .val (.ref w_RAW)] [(.int (6 : Int32))]))
              refine ogo (fun t k => XS.iloadN X19.here hx rfl (hb hby d1_12) rfl k) ?_
              show OwnEnds _ _ _ _ _ _ _ (T19.setTop (mkF m 13 #[.val (.long qv), .second, .val (.ref w_ENCODINGS), .val (.int (6 : Int32)), .val (.int (6 : Int32)), .val (.ref w_RAW)] [(.int (6 : Int32)), (.int (6 : Int32))]))
              refine ogo (fun t k => XS.icmpYes X19.here hx rfl (pc0 := 13) (pc' := 42) rfl (hb hby d1_13) rfl (flt (by decide : ¬ ((6 : Int32) < (6 : Int32)))).2.1 (by decide) (by decide) k) ?_
              show OwnEnds _ _ _ _ _ _ _ (T19.setTop (mkF m 42 #[.val (.long qv), .second, .val (.ref w_ENCODINGS), .val (.int (6 : Int32)), .val (.int (6 : Int32)), .val (.ref w_RAW)] []))
              refine ogo (fun t k => XS.aconstNull X19.here hx rfl (hb hby d1_42) k) ?_
              show OwnEnds _ _ _ _ _ _ _ (T19.setTop (mkF m 43 #[.val (.long qv), .second, .val (.ref w_ENCODINGS), .val (.int (6 : Int32)), .val (.int (6 : Int32)), .val (.ref w_RAW)] [.null]))
              refine endA X19 hx hlk Bd.returns rfl rfl (hb hby d1_43) (by decide) (by decide) ?_
              show Q1 Z qv w_NONE w_PROTOBUF w_JSON w_MSGPACK w_BSON w_RAW w_ENCODINGS h0 n0 _ T19.heap _
              rw [e19]
              exact ⟨by simp [own_of, hc5, hc8, hc11, hc14, hc17, hc20], N0, rfl⟩
theorem d2_0 : decode method_2_code 0 = .ok (.lload_n 0, 1) := by decide +kernel
theorem d2_1 : decode method_2_code 1 = .ok (.lconst 0, 1) := by decide +kernel
theorem d2_2 : decode method_2_code 2 = .ok (.lcmp, 1) := by decide +kernel
theorem d2_3 : decode method_2_code 3 = .ok (.ifCond .ne 7, 3) := by decide +kernel
theorem d2_6 : decode method_2_code 6 = .ok (.getstatic 7, 3) := by decide +kernel
theorem d2_9 : decode method_2_code 9 = .ok (.areturn, 1) := by decide +kernel
theorem d2_10 : decode method_2_code 10 = .ok (.lload_n 0, 1) := by decide +kernel
theorem d2_11 : decode method_2_code 11 = .ok (.lconst 1, 1) := by decide +kernel
theorem d2_12 : decode method_2_code 12 = .ok (.lcmp, 1) := by decide +kernel
theorem d2_13 : decode method_2_code 13 = .ok (.ifCond .ne 7, 3) := by decide +kernel
theorem d2_16 : decode method_2_code 16 = .ok (.getstatic 13, 3) := by decide +kernel
theorem d2_19 : decode method_2_code 19 = .ok (.areturn, 1) := by decide +kernel
theorem d2_20 : decode method_2_code 20 = .ok (.lload_n 0, 1) := by decide +kernel
theorem d2_21 : decode method_2_code 21 = .ok (.ldc2_w 16, 3) := by decide +kernel
theorem d2_24 : decode method_2_code 24 = .ok (.lcmp, 1) := by decide +kernel
theorem d2_25 : decode method_2_code 25 = .ok (.ifCond .ne 7, 3) := by decide +kernel
theorem d2_28 : decode method_2_code 28 = .ok (.getstatic 18, 3) := by decide +kernel
theorem d2_31 : decode method_2_code 31 = .ok (.areturn, 1) := by decide +kernel
theorem d2_32 : decode method_2_code 32 = .ok (.lload_n 0, 1) := by decide +kernel
theorem d2_33 : decode method_2_code 33 = .ok (.ldc2_w 21, 3) := by decide +kernel
theorem d2_36 : decode method_2_code 36 = .ok (.lcmp, 1) := by decide +kernel
theorem d2_37 : decode method_2_code 37 = .ok (.ifCond .ne 7, 3) := by decide +kernel
theorem d2_40 : decode method_2_code 40 = .ok (.getstatic 23, 3) := by decide +kernel
theorem d2_43 : decode method_2_code 43 = .ok (.areturn, 1) := by decide +kernel
theorem d2_44 : decode method_2_code 44 = .ok (.lload_n 0, 1) := by decide +kernel
theorem d2_45 : decode method_2_code 45 = .ok (.ldc2_w 26, 3) := by decide +kernel
theorem d2_48 : decode method_2_code 48 = .ok (.lcmp, 1) := by decide +kernel
theorem d2_49 : decode method_2_code 49 = .ok (.ifCond .ne 7, 3) := by decide +kernel
theorem d2_52 : decode method_2_code 52 = .ok (.getstatic 28, 3) := by decide +kernel
theorem d2_55 : decode method_2_code 55 = .ok (.areturn, 1) := by decide +kernel
theorem d2_56 : decode method_2_code 56 = .ok (.lload_n 0, 1) := by decide +kernel
theorem d2_57 : decode method_2_code 57 = .ok (.ldc2_w 31, 3) := by decide +kernel
theorem d2_60 : decode method_2_code 60 = .ok (.lcmp, 1) := by decide +kernel
theorem d2_61 : decode method_2_code 61 = .ok (.ifCond .ne 7, 3) := by decide +kernel
theorem d2_64 : decode method_2_code 64 = .ok (.getstatic 33, 3) := by decide +kernel
theorem d2_67 : decode method_2_code 67 = .ok (.areturn, 1) := by decide +kernel
theorem d2_68 : decode method_2_code 68 = .ok (.aconst_null, 1) := by decide +kernel
theorem d2_69 : decode method_2_code 69 = .ok (.areturn, 1) := by decide +kernel
theorem pn_EncodingOfCodePinLaw : plainName "com/example/packframe/packframe/onebyte/EncodingOfCodePinLaw" = true := by first | (simp [plainName, overriddenIn]; done) | decide +kernel
theorem ef_2 (m : MethodId) (x0 : Int64) : entryFrame m #[(.long x0)] 2 = mkF m 0 #[.val (.long x0), .second] [] := by first | (simp [entryFrame, mkF, argsToLocals, Value.category]; done) | rfl
def Q2 (Z : State) (qv : Int64) (w_NONE w_PROTOBUF w_JSON w_MSGPACK w_BSON w_RAW w_ENCODINGS : Addr) (h0 : Heap) (n0 : Nat) (v : Option Value) (h : Heap) (L : List Loc) : Prop := v = some (own_of qv w_NONE w_PROTOBUF w_JSON w_MSGPACK w_BSON w_RAW) ∧ Fr n0 L ∧ h = h0
set_option maxRecDepth 65536 in
set_option maxHeartbeats 40000000 in
theorem rm2 (l : Launch) (Z : State) (a0 : Array Value) (hw : ∀ d ∈ tables_1, d.before a0 Z = true) (ws : List Jvm.Cond) (qv : Int64) (w_NONE w_PROTOBUF w_JSON w_MSGPACK w_BSON w_RAW w_ENCODINGS : Addr) (h0 : Heap) (n0 : Nat) (Z0 : n0 ≤ h0.size) (S_NONE : Sta Z h0 "com/example/packframe/packframe/onebyte/Encoding" "NONE" "Lcom/example/packframe/packframe/onebyte/Encoding;" (.ref w_NONE)) (E_NONE : Exa Z h0 w_NONE "com/example/packframe/packframe/onebyte/Encoding") (F_code_NONE : Fld Z h0 w_NONE "com/example/packframe/packframe/onebyte/Encoding" "code" "I" (.int (0 : Int32))) (S_PROTOBUF : Sta Z h0 "com/example/packframe/packframe/onebyte/Encoding" "PROTOBUF" "Lcom/example/packframe/packframe/onebyte/Encoding;" (.ref w_PROTOBUF)) (E_PROTOBUF : Exa Z h0 w_PROTOBUF "com/example/packframe/packframe/onebyte/Encoding") (F_code_PROTOBUF : Fld Z h0 w_PROTOBUF "com/example/packframe/packframe/onebyte/Encoding" "code" "I" (.int (1 : Int32))) (S_JSON : Sta Z h0 "com/example/packframe/packframe/onebyte/Encoding" "JSON" "Lcom/example/packframe/packframe/onebyte/Encoding;" (.ref w_JSON)) (E_JSON : Exa Z h0 w_JSON "com/example/packframe/packframe/onebyte/Encoding") (F_code_JSON : Fld Z h0 w_JSON "com/example/packframe/packframe/onebyte/Encoding" "code" "I" (.int (2 : Int32))) (S_MSGPACK : Sta Z h0 "com/example/packframe/packframe/onebyte/Encoding" "MSGPACK" "Lcom/example/packframe/packframe/onebyte/Encoding;" (.ref w_MSGPACK)) (E_MSGPACK : Exa Z h0 w_MSGPACK "com/example/packframe/packframe/onebyte/Encoding") (F_code_MSGPACK : Fld Z h0 w_MSGPACK "com/example/packframe/packframe/onebyte/Encoding" "code" "I" (.int (3 : Int32))) (S_BSON : Sta Z h0 "com/example/packframe/packframe/onebyte/Encoding" "BSON" "Lcom/example/packframe/packframe/onebyte/Encoding;" (.ref w_BSON)) (E_BSON : Exa Z h0 w_BSON "com/example/packframe/packframe/onebyte/Encoding") (F_code_BSON : Fld Z h0 w_BSON "com/example/packframe/packframe/onebyte/Encoding" "code" "I" (.int (4 : Int32))) (S_RAW : Sta Z h0 "com/example/packframe/packframe/onebyte/Encoding" "RAW" "Lcom/example/packframe/packframe/onebyte/Encoding;" (.ref w_RAW)) (E_RAW : Exa Z h0 w_RAW "com/example/packframe/packframe/onebyte/Encoding") (F_code_RAW : Fld Z h0 w_RAW "com/example/packframe/packframe/onebyte/Encoding" "code" "I" (.int (5 : Int32))) (S_ENCODINGS : Sta Z h0 "com/example/packframe/packframe/onebyte/Encoding" "ENCODINGS" "[Lcom/example/packframe/packframe/onebyte/Encoding;" (.ref w_ENCODINGS)) (V_ENCODINGS : ∃ k, Arv Z h0 w_ENCODINGS k (.object "com/example/packframe/packframe/onebyte/Encoding") (6 : Int32) [(.ref w_NONE), (.ref w_PROTOBUF), (.ref w_JSON), (.ref w_MSGPACK), (.ref w_BSON), (.ref w_RAW)] .null) :
    MetFree l (⟨"com/example/packframe/packframe/onebyte/EncodingOfCodePinLaw", "expected", "(J)Lcom/example/packframe/packframe/onebyte/Encoding;"⟩ : MethodName) (head1 (Jvm.Cond.code (⟨"com/example/packframe/packframe/onebyte/EncodingOfCodePinLaw", "expected", "(J)Lcom/example/packframe/packframe/onebyte/Encoding;"⟩ : MethodName) method_2_code 2 (some (.object "com/example/packframe/packframe/onebyte/Encoding")) :: ws) ({ frames := 0, cells := 0, slots := 0, locals := 0 } : Room)) (fun a U => a = #[(.long qv)] ∧ Z.Warmed39 U.vm ∧ U.heap = h0) (fun _ _ _ _ _ => True) (fun _ U o U' => ∃ v L, o = .returned v ∧ Q2 Z qv w_NONE w_PROTOBUF w_JSON w_MSGPACK w_BSON w_RAW w_ENCODINGS h0 n0 v U'.heap L ∧ FrameEnd U o U' L ({ frames := 0, cells := 0, slots := 0, locals := 0 } : Room).cells ({ frames := 0, cells := 0, slots := 0, locals := 0 } : Room).slots) := by
  refine MetFree.of_bodySF (plainFor_of_name pn_EncodingOfCodePinLaw) hisR ?_
  intro p e s m args below meth c s₁ Bd hml0 hP hK
  obtain ⟨rfl, hZ, hh⟩ := hP
  have hx := Bd.exec
  have hby := Bd.bytes
  have hml : c.maxLocals = 2 := hml0
  have hown : s.vm.findClass "com/example/packframe/packframe/onebyte/EncodingOfCodePinLaw" = some m.cls := findClass_of_methodNamed Bd.named
  have hnm := (name_of_methodNamed Bd.named Bd.method).1
  have hlk : meth.locks = false := BodyLoose.notSynchronized Bd
  have X0 : Stand p l e ({ frames := 0, cells := 0, slots := 0, locals := 0 } : Room) s m #[(.long qv)] below meth c s₁ [] 0 0 := Stand.of_body Bd
  have e0 : s₁.heap = h0 := by rw [← hh, Bd.state]; rfl
  have N0 := Fr.nil n0
  refine ogo (U' := s₁.setTop (mkF m 0 #[.val (.long qv), .second] [])) (Q := Q2 Z qv w_NONE w_PROTOBUF w_JSON w_MSGPACK w_BSON w_RAW w_ENCODINGS h0 n0) (K := ({ frames := 0, cells := 0, slots := 0, locals := 0 } : Room).cells) (N := ({ frames := 0, cells := 0, slots := 0, locals := 0 } : Room).slots) (fun t k => castTop (ef_2 m qv) k) ?_
  show OwnEnds _ _ _ _ _ _ _ (s₁.setTop (mkF m 0 #[.val (.long qv), .second] []))
  refine ogo (fun t k => XS.lloadN X0.here hx rfl (hb hby d2_0) rfl k) ?_
  show OwnEnds _ _ _ _ _ _ _ (s₁.setTop (mkF m 1 #[.val (.long qv), .second] [(.long qv)]))
  refine ogo (fun t k => XS.lconst X0.here hx rfl (hb hby d2_1) k) ?_
  show OwnEnds _ _ _ _ _ _ _ (s₁.setTop (mkF m 2 #[.val (.long qv), .second] [(.long (0 : Int64)), (.long qv)]))
  refine ogo (fun t k => XS.lcmp X0.here hx rfl (hb hby d2_2) rfl k) ?_
  show OwnEnds _ _ _ _ _ _ _ (s₁.setTop (mkF m 3 #[.val (.long qv), .second] [(.int (lcmpW qv (0 : Int64)))]))
  by_cases hc1 : qv = (0 : Int64)
  · refine ogo (fun t k => XS.ifNo X0.here hx rfl (hb hby d2_3) rfl ((if0 _ _).trans (teq ((lw_eq qv (0 : Int64)).mpr hc1)).2) k) ?_
    show OwnEnds _ _ _ _ _ _ _ (s₁.setTop (mkF m 6 #[.val (.long qv), .second] []))
    obtain ⟨T2, X2, e2, st2⟩ := getS2 X0 hx hZ hown (host := "") (Or.inl (hw _ (List.mem_of_getElem? (i := 25) rfl))) Via.refl e0 S_NONE (g := (mkF m 6 #[.val (.long qv), .second] [])) rfl (hb hby d2_6)
    refine ogo st2 ?_
    show OwnEnds _ _ _ _ _ _ _ (T2.setTop (mkF m 9 #[.val (.long qv), .second] [(.ref w_NONE)]))
    refine endA X2 hx hlk Bd.returns rfl rfl (hb hby d2_9) (by decide) (by decide) ?_
    show Q2 Z qv w_NONE w_PROTOBUF w_JSON w_MSGPACK w_BSON w_RAW w_ENCODINGS h0 n0 _ T2.heap _
    rw [e2]
    exact ⟨by simp [own_of, hc1], N0, rfl⟩
  · refine ogo (fun t k => XS.ifYes X0.here hx rfl (pc0 := 3) (pc' := 10) rfl (hb hby d2_3) rfl ((if0 _ _).trans (feq (fun q => hc1 ((lw_eq qv (0 : Int64)).mp q))).2) (by decide) (by decide) k) ?_
    show OwnEnds _ _ _ _ _ _ _ (s₁.setTop (mkF m 10 #[.val (.long qv), .second] []))
    refine ogo (fun t k => XS.lloadN X0.here hx rfl (hb hby d2_10) rfl k) ?_
    show OwnEnds _ _ _ _ _ _ _ (s₁.setTop (mkF m 11 #[.val (.long qv), .second] [(.long qv)]))
    refine ogo (fun t k => XS.lconst X0.here hx rfl (hb hby d2_11) k) ?_
    show OwnEnds _ _ _ _ _ _ _ (s₁.setTop (mkF m 12 #[.val (.long qv), .second] [(.long (1 : Int64)), (.long qv)]))
    refine ogo (fun t k => XS.lcmp X0.here hx rfl (hb hby d2_12) rfl k) ?_
    show OwnEnds _ _ _ _ _ _ _ (s₁.setTop (mkF m 13 #[.val (.long qv), .second] [(.int (lcmpW qv (1 : Int64)))]))
    by_cases hc3 : qv = (1 : Int64)
    · refine ogo (fun t k => XS.ifNo X0.here hx rfl (hb hby d2_13) rfl ((if0 _ _).trans (teq ((lw_eq qv (1 : Int64)).mpr hc3)).2) k) ?_
      show OwnEnds _ _ _ _ _ _ _ (s₁.setTop (mkF m 16 #[.val (.long qv), .second] []))
      obtain ⟨T4, X4, e4, st4⟩ := getS2 X0 hx hZ hown (host := "") (Or.inl (hw _ (List.mem_of_getElem? (i := 24) rfl))) Via.refl e0 S_PROTOBUF (g := (mkF m 16 #[.val (.long qv), .second] [])) rfl (hb hby d2_16)
      refine ogo st4 ?_
      show OwnEnds _ _ _ _ _ _ _ (T4.setTop (mkF m 19 #[.val (.long qv), .second] [(.ref w_PROTOBUF)]))
      refine endA X4 hx hlk Bd.returns rfl rfl (hb hby d2_19) (by decide) (by decide) ?_
      show Q2 Z qv w_NONE w_PROTOBUF w_JSON w_MSGPACK w_BSON w_RAW w_ENCODINGS h0 n0 _ T4.heap _
      rw [e4]
      exact ⟨by simp [own_of, hc1, hc3], N0, rfl⟩
    · refine ogo (fun t k => XS.ifYes X0.here hx rfl (pc0 := 13) (pc' := 20) rfl (hb hby d2_13) rfl ((if0 _ _).trans (feq (fun q => hc3 ((lw_eq qv (1 : Int64)).mp q))).2) (by decide) (by decide) k) ?_
      show OwnEnds _ _ _ _ _ _ _ (s₁.setTop (mkF m 20 #[.val (.long qv), .second] []))
      refine ogo (fun t k => XS.lloadN X0.here hx rfl (hb hby d2_20) rfl k) ?_
      show OwnEnds _ _ _ _ _ _ _ (s₁.setTop (mkF m 21 #[.val (.long qv), .second] [(.long qv)]))
      refine ogo (fun t k => X0.ldc2Long hx hown (mvT hZ (hw _ (List.mem_of_getElem? (i := 16) rfl))) (g := (mkF m 21 #[.val (.long qv), .second] [(.long qv)])) rfl (hb hby d2_21) t k) ?_
      show OwnEnds _ _ _ _ _ _ _ (s₁.setTop (mkF m 24 #[.val (.long qv), .second] [(.long (2 : Int64)), (.long qv)]))
      refine ogo (fun t k => XS.lcmp X0.here hx rfl (hb hby d2_24) rfl k) ?_
      show OwnEnds _ _ _ _ _ _ _ (s₁.setTop (mkF m 25 #[.val (.long qv), .second] [(.int (lcmpW qv (2 : Int64)))]))
      by_cases hc5 : qv = (2 : Int64)
      · refine ogo (fun t k => XS.ifNo X0.here hx rfl (hb hby d2_25) rfl ((if0 _ _).trans (teq ((lw_eq qv (2 : Int64)).mpr hc5)).2) k) ?_
        show OwnEnds _ _ _ _ _ _ _ (s₁.setTop (mkF m 28 #[.val (.long qv), .second] []))
        obtain ⟨T6, X6, e6, st6⟩ := getS2 X0 hx hZ hown (host := "") (Or.inl (hw _ (List.mem_of_getElem? (i := 23) rfl))) Via.refl e0 S_JSON (g := (mkF m 28 #[.val (.long qv), .second] [])) rfl (hb hby d2_28)
        refine ogo st6 ?_
        show OwnEnds _ _ _ _ _ _ _ (T6.setTop (mkF m 31 #[.val (.long qv), .second] [(.ref w_JSON)]))
        refine endA X6 hx hlk Bd.returns rfl rfl (hb hby d2_31) (by decide) (by decide) ?_
        show Q2 Z qv w_NONE w_PROTOBUF w_JSON w_MSGPACK w_BSON w_RAW w_ENCODINGS h0 n0 _ T6.heap _
        rw [e6]
        exact ⟨by simp [own_of, hc1, hc3, hc5], N0, rfl⟩
      · refine ogo (fun t k => XS.ifYes X0.here hx rfl (pc0 := 25) (pc' := 32) rfl (hb hby d2_25) rfl ((if0 _ _).trans (feq (fun q => hc5 ((lw_eq qv (2 : Int64)).mp q))).2) (by decide) (by decide) k) ?_
        show OwnEnds _ _ _ _ _ _ _ (s₁.setTop (mkF m 32 #[.val (.long qv), .second] []))
        refine ogo (fun t k => XS.lloadN X0.here hx rfl (hb hby d2_32) rfl k) ?_
        show OwnEnds _ _ _ _ _ _ _ (s₁.setTop (mkF m 33 #[.val (.long qv), .second] [(.long qv)]))
        refine ogo (fun t k => X0.ldc2Long hx hown (mvT hZ (hw _ (List.mem_of_getElem? (i := 17) rfl))) (g := (mkF m 33 #[.val (.long qv), .second] [(.long qv)])) rfl (hb hby d2_33) t k) ?_
        show OwnEnds _ _ _ _ _ _ _ (s₁.setTop (mkF m 36 #[.val (.long qv), .second] [(.long (3 : Int64)), (.long qv)]))
        refine ogo (fun t k => XS.lcmp X0.here hx rfl (hb hby d2_36) rfl k) ?_
        show OwnEnds _ _ _ _ _ _ _ (s₁.setTop (mkF m 37 #[.val (.long qv), .second] [(.int (lcmpW qv (3 : Int64)))]))
        by_cases hc7 : qv = (3 : Int64)
        · refine ogo (fun t k => XS.ifNo X0.here hx rfl (hb hby d2_37) rfl ((if0 _ _).trans (teq ((lw_eq qv (3 : Int64)).mpr hc7)).2) k) ?_
          show OwnEnds _ _ _ _ _ _ _ (s₁.setTop (mkF m 40 #[.val (.long qv), .second] []))
          obtain ⟨T8, X8, e8, st8⟩ := getS2 X0 hx hZ hown (host := "") (Or.inl (hw _ (List.mem_of_getElem? (i := 18) rfl))) Via.refl e0 S_MSGPACK (g := (mkF m 40 #[.val (.long qv), .second] [])) rfl (hb hby d2_40)
          refine ogo st8 ?_
          show OwnEnds _ _ _ _ _ _ _ (T8.setTop (mkF m 43 #[.val (.long qv), .second] [(.ref w_MSGPACK)]))
          refine endA X8 hx hlk Bd.returns rfl rfl (hb hby d2_43) (by decide) (by decide) ?_
          show Q2 Z qv w_NONE w_PROTOBUF w_JSON w_MSGPACK w_BSON w_RAW w_ENCODINGS h0 n0 _ T8.heap _
          rw [e8]
          exact ⟨by simp [own_of, hc1, hc3, hc5, hc7], N0, rfl⟩
        · refine ogo (fun t k => XS.ifYes X0.here hx rfl (pc0 := 37) (pc' := 44) rfl (hb hby d2_37) rfl ((if0 _ _).trans (feq (fun q => hc7 ((lw_eq qv (3 : Int64)).mp q))).2) (by decide) (by decide) k) ?_
          show OwnEnds _ _ _ _ _ _ _ (s₁.setTop (mkF m 44 #[.val (.long qv), .second] []))
          refine ogo (fun t k => XS.lloadN X0.here hx rfl (hb hby d2_44) rfl k) ?_
          show OwnEnds _ _ _ _ _ _ _ (s₁.setTop (mkF m 45 #[.val (.long qv), .second] [(.long qv)]))
          refine ogo (fun t k => X0.ldc2Long hx hown (mvT hZ (hw _ (List.mem_of_getElem? (i := 21) rfl))) (g := (mkF m 45 #[.val (.long qv), .second] [(.long qv)])) rfl (hb hby d2_45) t k) ?_
          show OwnEnds _ _ _ _ _ _ _ (s₁.setTop (mkF m 48 #[.val (.long qv), .second] [(.long (4 : Int64)), (.long qv)]))
          refine ogo (fun t k => XS.lcmp X0.here hx rfl (hb hby d2_48) rfl k) ?_
          show OwnEnds _ _ _ _ _ _ _ (s₁.setTop (mkF m 49 #[.val (.long qv), .second] [(.int (lcmpW qv (4 : Int64)))]))
          by_cases hc9 : qv = (4 : Int64)
          · refine ogo (fun t k => XS.ifNo X0.here hx rfl (hb hby d2_49) rfl ((if0 _ _).trans (teq ((lw_eq qv (4 : Int64)).mpr hc9)).2) k) ?_
            show OwnEnds _ _ _ _ _ _ _ (s₁.setTop (mkF m 52 #[.val (.long qv), .second] []))
            obtain ⟨T10, X10, e10, st10⟩ := getS2 X0 hx hZ hown (host := "") (Or.inl (hw _ (List.mem_of_getElem? (i := 26) rfl))) Via.refl e0 S_BSON (g := (mkF m 52 #[.val (.long qv), .second] [])) rfl (hb hby d2_52)
            refine ogo st10 ?_
            show OwnEnds _ _ _ _ _ _ _ (T10.setTop (mkF m 55 #[.val (.long qv), .second] [(.ref w_BSON)]))
            refine endA X10 hx hlk Bd.returns rfl rfl (hb hby d2_55) (by decide) (by decide) ?_
            show Q2 Z qv w_NONE w_PROTOBUF w_JSON w_MSGPACK w_BSON w_RAW w_ENCODINGS h0 n0 _ T10.heap _
            rw [e10]
            exact ⟨by simp [own_of, hc1, hc3, hc5, hc7, hc9], N0, rfl⟩
          · refine ogo (fun t k => XS.ifYes X0.here hx rfl (pc0 := 49) (pc' := 56) rfl (hb hby d2_49) rfl ((if0 _ _).trans (feq (fun q => hc9 ((lw_eq qv (4 : Int64)).mp q))).2) (by decide) (by decide) k) ?_
            show OwnEnds _ _ _ _ _ _ _ (s₁.setTop (mkF m 56 #[.val (.long qv), .second] []))
            refine ogo (fun t k => XS.lloadN X0.here hx rfl (hb hby d2_56) rfl k) ?_
            show OwnEnds _ _ _ _ _ _ _ (s₁.setTop (mkF m 57 #[.val (.long qv), .second] [(.long qv)]))
            refine ogo (fun t k => X0.ldc2Long hx hown (mvT hZ (hw _ (List.mem_of_getElem? (i := 22) rfl))) (g := (mkF m 57 #[.val (.long qv), .second] [(.long qv)])) rfl (hb hby d2_57) t k) ?_
            show OwnEnds _ _ _ _ _ _ _ (s₁.setTop (mkF m 60 #[.val (.long qv), .second] [(.long (5 : Int64)), (.long qv)]))
            refine ogo (fun t k => XS.lcmp X0.here hx rfl (hb hby d2_60) rfl k) ?_
            show OwnEnds _ _ _ _ _ _ _ (s₁.setTop (mkF m 61 #[.val (.long qv), .second] [(.int (lcmpW qv (5 : Int64)))]))
            by_cases hc11 : qv = (5 : Int64)
            · refine ogo (fun t k => XS.ifNo X0.here hx rfl (hb hby d2_61) rfl ((if0 _ _).trans (teq ((lw_eq qv (5 : Int64)).mpr hc11)).2) k) ?_
              show OwnEnds _ _ _ _ _ _ _ (s₁.setTop (mkF m 64 #[.val (.long qv), .second] []))
              obtain ⟨T12, X12, e12, st12⟩ := getS2 X0 hx hZ hown (host := "") (Or.inl (hw _ (List.mem_of_getElem? (i := 27) rfl))) Via.refl e0 S_RAW (g := (mkF m 64 #[.val (.long qv), .second] [])) rfl (hb hby d2_64)
              refine ogo st12 ?_
              show OwnEnds _ _ _ _ _ _ _ (T12.setTop (mkF m 67 #[.val (.long qv), .second] [(.ref w_RAW)]))
              refine endA X12 hx hlk Bd.returns rfl rfl (hb hby d2_67) (by decide) (by decide) ?_
              show Q2 Z qv w_NONE w_PROTOBUF w_JSON w_MSGPACK w_BSON w_RAW w_ENCODINGS h0 n0 _ T12.heap _
              rw [e12]
              exact ⟨by simp [own_of, hc1, hc3, hc5, hc7, hc9, hc11], N0, rfl⟩
            · refine ogo (fun t k => XS.ifYes X0.here hx rfl (pc0 := 61) (pc' := 68) rfl (hb hby d2_61) rfl ((if0 _ _).trans (feq (fun q => hc11 ((lw_eq qv (5 : Int64)).mp q))).2) (by decide) (by decide) k) ?_
              show OwnEnds _ _ _ _ _ _ _ (s₁.setTop (mkF m 68 #[.val (.long qv), .second] []))
              refine ogo (fun t k => XS.aconstNull X0.here hx rfl (hb hby d2_68) k) ?_
              show OwnEnds _ _ _ _ _ _ _ (s₁.setTop (mkF m 69 #[.val (.long qv), .second] [.null]))
              refine endA X0 hx hlk Bd.returns rfl rfl (hb hby d2_69) (by decide) (by decide) ?_
              show Q2 Z qv w_NONE w_PROTOBUF w_JSON w_MSGPACK w_BSON w_RAW w_ENCODINGS h0 n0 _ s₁.heap _
              rw [e0]
              exact ⟨by simp [own_of, hc1, hc3, hc5, hc7, hc9, hc11], N0, rfl⟩
theorem pd__J_Lcom_example_packframe_packframe_onebyte_Encoding_ : parseMethodDescriptor "(J)Lcom/example/packframe/packframe/onebyte/Encoding;" = some ⟨[.long], some (.object "com/example/packframe/packframe/onebyte/Encoding")⟩ := by decide +kernel
theorem ef_0 (m : MethodId) (x0 : Int64) (x1 : Int32) : entryFrame m #[(.long x0), (.int x1)] maxLocals = mkF m 0 #[.val (.long x0), .second, .val (.int x1), .unset, .unset, .unset, .unset, .unset, .unset, .unset] [] := by first | (simp [entryFrame, mkF, argsToLocals, Value.category, maxLocals]; done) | rfl
def Q0 (Z : State) (q0 : Int64) (p1 : Int32) (w_NONE w_PROTOBUF w_JSON w_MSGPACK w_BSON w_RAW w_ENCODINGS : Addr) (h0 : Heap) (n0 : Nat) (v : Option Value) (h : Heap) (L : List Loc) : Prop := v = some (.int 1) ∧ Fr n0 L
set_option maxRecDepth 65536 in
set_option maxHeartbeats 40000000 in
theorem rm0 (l : Launch) (Z : State) (a0 : Array Value) (hw : ∀ d ∈ tables_1, d.before a0 Z = true) (ws : List Jvm.Cond) (q0 : Int64) (p1 : Int32) (w_NONE w_PROTOBUF w_JSON w_MSGPACK w_BSON w_RAW w_ENCODINGS : Addr) (h0 : Heap) (n0 : Nat) (Z0 : n0 ≤ h0.size) (S_NONE : Sta Z h0 "com/example/packframe/packframe/onebyte/Encoding" "NONE" "Lcom/example/packframe/packframe/onebyte/Encoding;" (.ref w_NONE)) (E_NONE : Exa Z h0 w_NONE "com/example/packframe/packframe/onebyte/Encoding") (F_code_NONE : Fld Z h0 w_NONE "com/example/packframe/packframe/onebyte/Encoding" "code" "I" (.int (0 : Int32))) (S_PROTOBUF : Sta Z h0 "com/example/packframe/packframe/onebyte/Encoding" "PROTOBUF" "Lcom/example/packframe/packframe/onebyte/Encoding;" (.ref w_PROTOBUF)) (E_PROTOBUF : Exa Z h0 w_PROTOBUF "com/example/packframe/packframe/onebyte/Encoding") (F_code_PROTOBUF : Fld Z h0 w_PROTOBUF "com/example/packframe/packframe/onebyte/Encoding" "code" "I" (.int (1 : Int32))) (S_JSON : Sta Z h0 "com/example/packframe/packframe/onebyte/Encoding" "JSON" "Lcom/example/packframe/packframe/onebyte/Encoding;" (.ref w_JSON)) (E_JSON : Exa Z h0 w_JSON "com/example/packframe/packframe/onebyte/Encoding") (F_code_JSON : Fld Z h0 w_JSON "com/example/packframe/packframe/onebyte/Encoding" "code" "I" (.int (2 : Int32))) (S_MSGPACK : Sta Z h0 "com/example/packframe/packframe/onebyte/Encoding" "MSGPACK" "Lcom/example/packframe/packframe/onebyte/Encoding;" (.ref w_MSGPACK)) (E_MSGPACK : Exa Z h0 w_MSGPACK "com/example/packframe/packframe/onebyte/Encoding") (F_code_MSGPACK : Fld Z h0 w_MSGPACK "com/example/packframe/packframe/onebyte/Encoding" "code" "I" (.int (3 : Int32))) (S_BSON : Sta Z h0 "com/example/packframe/packframe/onebyte/Encoding" "BSON" "Lcom/example/packframe/packframe/onebyte/Encoding;" (.ref w_BSON)) (E_BSON : Exa Z h0 w_BSON "com/example/packframe/packframe/onebyte/Encoding") (F_code_BSON : Fld Z h0 w_BSON "com/example/packframe/packframe/onebyte/Encoding" "code" "I" (.int (4 : Int32))) (S_RAW : Sta Z h0 "com/example/packframe/packframe/onebyte/Encoding" "RAW" "Lcom/example/packframe/packframe/onebyte/Encoding;" (.ref w_RAW)) (E_RAW : Exa Z h0 w_RAW "com/example/packframe/packframe/onebyte/Encoding") (F_code_RAW : Fld Z h0 w_RAW "com/example/packframe/packframe/onebyte/Encoding" "code" "I" (.int (5 : Int32))) (S_ENCODINGS : Sta Z h0 "com/example/packframe/packframe/onebyte/Encoding" "ENCODINGS" "[Lcom/example/packframe/packframe/onebyte/Encoding;" (.ref w_ENCODINGS)) (V_ENCODINGS : ∃ k, Arv Z h0 w_ENCODINGS k (.object "com/example/packframe/packframe/onebyte/Encoding") (6 : Int32) [(.ref w_NONE), (.ref w_PROTOBUF), (.ref w_JSON), (.ref w_MSGPACK), (.ref w_BSON), (.ref w_RAW)] .null) :
    MetFree l x (head1 (Jvm.Cond.code x code maxLocals ret :: ws) room_1) (fun a U => a = #[(.long q0), (.int p1)] ∧ Z.Warmed39 U.vm ∧ U.heap = h0) (fun _ _ _ _ _ => True) (fun _ U o U' => ∃ v L, o = .returned v ∧ Q0 Z q0 p1 w_NONE w_PROTOBUF w_JSON w_MSGPACK w_BSON w_RAW w_ENCODINGS h0 n0 v U'.heap L ∧ FrameEnd U o U' L 0 0) := by
  refine MetFree.of_bodySF (plainFor_of_name pn_EncodingOfCodePinLaw) hisR ?_
  intro p e s m args below meth c s₁ Bd hml0 hP hK
  obtain ⟨rfl, hZ, hh⟩ := hP
  have hx := Bd.exec
  have hby := Bd.bytes
  have hml : c.maxLocals = 10 := hml0
  have hown : s.vm.findClass "com/example/packframe/packframe/onebyte/EncodingOfCodePinLaw" = some m.cls := findClass_of_methodNamed Bd.named
  have hnm := (name_of_methodNamed Bd.named Bd.method).1
  have hlk : meth.locks = false := BodyLoose.notSynchronized Bd
  have X0 : Stand p l e room_1 s m #[(.long q0), (.int p1)] below meth c s₁ [] 0 0 := Stand.of_body Bd
  have e0 : s₁.heap = h0 := by rw [← hh, Bd.state]; rfl
  have N0 := Fr.nil n0
  refine ogo (U' := s₁.setTop (mkF m 0 #[.val (.long q0), .second, .val (.int p1), .unset, .unset, .unset, .unset, .unset, .unset, .unset] [])) (Q := Q0 Z q0 p1 w_NONE w_PROTOBUF w_JSON w_MSGPACK w_BSON w_RAW w_ENCODINGS h0 n0) (K := 0) (N := 0) (fun t k => castTop (ef_0 m q0 p1) k) ?_
  show OwnEnds _ _ _ _ _ _ _ (s₁.setTop (mkF m 0 #[.val (.long q0), .second, .val (.int p1), .unset, .unset, .unset, .unset, .unset, .unset, .unset] []))
  refine ogo (fun t k => XS.iloadN X0.here hx rfl (hb hby at_0) rfl k) ?_
  show OwnEnds _ _ _ _ _ _ _ (s₁.setTop (mkF m 1 #[.val (.long q0), .second, .val (.int p1), .unset, .unset, .unset, .unset, .unset, .unset, .unset] [(.int p1)]))
  refine ogo (fun t k => XS.bipush X0.here hx rfl (hb hby at_1) k) ?_
  show OwnEnds _ _ _ _ _ _ _ (s₁.setTop (mkF m 3 #[.val (.long q0), .second, .val (.int p1), .unset, .unset, .unset, .unset, .unset, .unset, .unset] [(.int (15 : Int32)), (.int p1)]))
  refine ogo (fun t k => XS.iand X0.here hx rfl (hb hby at_3) rfl k) ?_
  show OwnEnds _ _ _ _ _ _ _ (s₁.setTop (mkF m 4 #[.val (.long q0), .second, .val (.int p1), .unset, .unset, .unset, .unset, .unset, .unset, .unset] [(.int (p1 &&& (15 : Int32)))]))
  refine ogo (fun t k => XS.iconst X0.here hx rfl (hb hby at_4) k) ?_
  show OwnEnds _ _ _ _ _ _ _ (s₁.setTop (mkF m 5 #[.val (.long q0), .second, .val (.int p1), .unset, .unset, .unset, .unset, .unset, .unset, .unset] [(.int (5 : Int32)), (.int (p1 &&& (15 : Int32)))]))
  refine ogo (fun t k => XS.isub X0.here hx rfl (hb hby at_5) rfl k) ?_
  show OwnEnds _ _ _ _ _ _ _ (s₁.setTop (mkF m 6 #[.val (.long q0), .second, .val (.int p1), .unset, .unset, .unset, .unset, .unset, .unset, .unset] [(.int ((p1 &&& (15 : Int32)) - (5 : Int32)))]))
  refine ogo (fun t k => XS.i2l X0.here hx rfl (hb hby at_6) rfl k) ?_
  show OwnEnds _ _ _ _ _ _ _ (s₁.setTop (mkF m 7 #[.val (.long q0), .second, .val (.int p1), .unset, .unset, .unset, .unset, .unset, .unset, .unset] [(.long (((p1 &&& (15 : Int32)) - (5 : Int32)).toInt64))]))
  refine ogo (fun t k => XS.lstoreN X0.here hx rfl (hb hby at_7) rfl (l' := #[.val (.long q0), .second, .val (.int p1), .val (.long (((p1 &&& (15 : Int32)) - (5 : Int32)).toInt64)), .second, .unset, .unset, .unset, .unset, .unset]) rfl k) ?_
  show OwnEnds _ _ _ _ _ _ _ (s₁.setTop (mkF m 8 #[.val (.long q0), .second, .val (.int p1), .val (.long (((p1 &&& (15 : Int32)) - (5 : Int32)).toInt64)), .second, .unset, .unset, .unset, .unset, .unset] []))
  refine ogo (fun t k => XS.lloadN X0.here hx rfl (hb hby at_8) rfl k) ?_
  show OwnEnds _ _ _ _ _ _ _ (s₁.setTop (mkF m 9 #[.val (.long q0), .second, .val (.int p1), .val (.long (((p1 &&& (15 : Int32)) - (5 : Int32)).toInt64)), .second, .unset, .unset, .unset, .unset, .unset] [(.long (((p1 &&& (15 : Int32)) - (5 : Int32)).toInt64))]))
  refine ogo (fun t k => XS.iloadN X0.here hx rfl (hb hby at_9) rfl k) ?_
  show OwnEnds _ _ _ _ _ _ _ (s₁.setTop (mkF m 10 #[.val (.long q0), .second, .val (.int p1), .val (.long (((p1 &&& (15 : Int32)) - (5 : Int32)).toInt64)), .second, .unset, .unset, .unset, .unset, .unset] [(.int p1), (.long (((p1 &&& (15 : Int32)) - (5 : Int32)).toInt64))]))
  refine ogo (fun t k => XS.iconst X0.here hx rfl (hb hby at_10) k) ?_
  show OwnEnds _ _ _ _ _ _ _ (s₁.setTop (mkF m 11 #[.val (.long q0), .second, .val (.int p1), .val (.long (((p1 &&& (15 : Int32)) - (5 : Int32)).toInt64)), .second, .unset, .unset, .unset, .unset, .unset] [(.int (4 : Int32)), (.int p1), (.long (((p1 &&& (15 : Int32)) - (5 : Int32)).toInt64))]))
  refine ogo (fun t k => XS.ishr X0.here hx rfl (hb hby at_11) rfl k) ?_
  show OwnEnds _ _ _ _ _ _ _ (s₁.setTop (mkF m 12 #[.val (.long q0), .second, .val (.int p1), .val (.long (((p1 &&& (15 : Int32)) - (5 : Int32)).toInt64)), .second, .unset, .unset, .unset, .unset, .unset] [(.int (p1 >>> ((4 : Int32) &&& 31))), (.long (((p1 &&& (15 : Int32)) - (5 : Int32)).toInt64))]))
  refine ogo (fun t k => XS.i2l X0.here hx rfl (hb hby at_12) rfl k) ?_
  show OwnEnds _ _ _ _ _ _ _ (s₁.setTop (mkF m 13 #[.val (.long q0), .second, .val (.int p1), .val (.long (((p1 &&& (15 : Int32)) - (5 : Int32)).toInt64)), .second, .unset, .unset, .unset, .unset, .unset] [(.long ((p1 >>> ((4 : Int32) &&& 31)).toInt64)), (.long (((p1 &&& (15 : Int32)) - (5 : Int32)).toInt64))]))
  refine ogo (fun t k => XS.bipush X0.here hx rfl (hb hby at_13) k) ?_
  show OwnEnds _ _ _ _ _ _ _ (s₁.setTop (mkF m 15 #[.val (.long q0), .second, .val (.int p1), .val (.long (((p1 &&& (15 : Int32)) - (5 : Int32)).toInt64)), .second, .unset, .unset, .unset, .unset, .unset] [(.int (32 : Int32)), (.long ((p1 >>> ((4 : Int32) &&& 31)).toInt64)), (.long (((p1 &&& (15 : Int32)) - (5 : Int32)).toInt64))]))
  refine ogo (fun t k => XS.lshl X0.here hx rfl (hb hby at_15) rfl k) ?_
  show OwnEnds _ _ _ _ _ _ _ (s₁.setTop (mkF m 16 #[.val (.long q0), .second, .val (.int p1), .val (.long (((p1 &&& (15 : Int32)) - (5 : Int32)).toInt64)), .second, .unset, .unset, .unset, .unset, .unset] [(.long (((p1 >>> ((4 : Int32) &&& 31)).toInt64) <<< ((32 : Int32) &&& 0x3f).toInt64)), (.long (((p1 &&& (15 : Int32)) - (5 : Int32)).toInt64))]))
  refine ogo (fun t k => XS.lxor X0.here hx rfl (hb hby at_16) rfl k) ?_
  show OwnEnds _ _ _ _ _ _ _ (s₁.setTop (mkF m 17 #[.val (.long q0), .second, .val (.int p1), .val (.long (((p1 &&& (15 : Int32)) - (5 : Int32)).toInt64)), .second, .unset, .unset, .unset, .unset, .unset] [(.long ((((p1 &&& (15 : Int32)) - (5 : Int32)).toInt64) ^^^ (((p1 >>> ((4 : Int32) &&& 31)).toInt64) <<< ((32 : Int32) &&& 0x3f).toInt64)))]))
  refine ogo (fun t k => XS.lstore X0.here hx rfl (hb hby at_17) rfl (l' := #[.val (.long q0), .second, .val (.int p1), .val (.long (((p1 &&& (15 : Int32)) - (5 : Int32)).toInt64)), .second, .val (.long ((((p1 &&& (15 : Int32)) - (5 : Int32)).toInt64) ^^^ (((p1 >>> ((4 : Int32) &&& 31)).toInt64) <<< ((32 : Int32) &&& 0x3f).toInt64))), .second, .unset, .unset, .unset]) rfl k) ?_
  show OwnEnds _ _ _ _ _ _ _ (s₁.setTop (mkF m 19 #[.val (.long q0), .second, .val (.int p1), .val (.long (((p1 &&& (15 : Int32)) - (5 : Int32)).toInt64)), .second, .val (.long ((((p1 &&& (15 : Int32)) - (5 : Int32)).toInt64) ^^^ (((p1 >>> ((4 : Int32) &&& 31)).toInt64) <<< ((32 : Int32) &&& 0x3f).toInt64))), .second, .unset, .unset, .unset] []))
  refine ogo (fun t k => XS.lloadN X0.here hx rfl (hb hby at_19) rfl k) ?_
  show OwnEnds _ _ _ _ _ _ _ (s₁.setTop (mkF m 20 #[.val (.long q0), .second, .val (.int p1), .val (.long (((p1 &&& (15 : Int32)) - (5 : Int32)).toInt64)), .second, .val (.long ((((p1 &&& (15 : Int32)) - (5 : Int32)).toInt64) ^^^ (((p1 >>> ((4 : Int32) &&& 31)).toInt64) <<< ((32 : Int32) &&& 0x3f).toInt64))), .second, .unset, .unset, .unset] [(.long q0)]))
  obtain ⟨v1, _, ⟨T1, L1, k1, n1⟩, -, X1, ⟨Lc1, hQ1, l1, y1, z1⟩, st1⟩ := Jvm.LawKit.callS X0 hx (y := (⟨"com/example/packframe/packframe/onebyte/Encoding", "ofCode", "(J)Lcom/example/packframe/packframe/onebyte/Encoding;"⟩ : MethodName)) hown (mvT hZ (hw _ (List.mem_of_getElem? (i := 0) rfl))) (mvT hZ (hw _ (List.mem_of_getElem? (i := 1) rfl))) (mvT hZ (hw _ (List.mem_of_getElem? (i := 2) rfl))) (mvT hZ (hw _ (List.mem_of_getElem? (i := 3) rfl))) (by decide) (backOf (W := 0) (rm1 l Z a0 hw [] q0 w_NONE w_PROTOBUF w_JSON w_MSGPACK w_BSON w_RAW w_ENCODINGS h0 n0 Z0 S_NONE E_NONE F_code_NONE S_PROTOBUF E_PROTOBUF F_code_PROTOBUF S_JSON E_JSON F_code_JSON S_MSGPACK E_MSGPACK F_code_MSGPACK S_BSON E_BSON F_code_BSON S_RAW E_RAW F_code_RAW S_ENCODINGS V_ENCODINGS) hZ (hw _ (List.mem_of_getElem? (i := 3) rfl)) (hw _ (List.mem_of_getElem? (i := 2) rfl)) (by decide) (by decide)) (g := (mkF m 20 #[.val (.long q0), .second, .val (.int p1), .val (.long (((p1 &&& (15 : Int32)) - (5 : Int32)).toInt64)), .second, .val (.long ((((p1 &&& (15 : Int32)) - (5 : Int32)).toInt64) ^^^ (((p1 >>> ((4 : Int32) &&& 31)).toInt64) <<< ((32 : Int32) &&& 0x3f).toInt64))), .second, .unset, .unset, .unset] [(.long q0)])) rfl (by rw [hml]; rfl) (argsL := [(.long q0)]) (rest := []) (lenOf pd__J_Lcom_example_packframe_packframe_onebyte_Encoding_ rfl) rfl (by show 2 * 0 + _ ≤ _; exact Nat.le_of_eq rfl) (hb hby at_20) (fun _ _ => ⟨rfl, e0, (by decide : 0 + 0 ≤ _), (by decide : 0 + 0 ≤ _)⟩)
  dsimp only [Pt.U, Pt.locs, Pt.cells, Pt.slots] at X1 l1 y1 z1 st1 hQ1
  subst l1 y1 z1
  obtain ⟨rfl, N1q, e1⟩ := hQ1
  have N1 := Fr.app N0 N1q
  refine ogo (fun t k => st1 t k) ?_
  show OwnEnds _ _ _ _ _ _ _ (T1.setTop (mkF m 23 #[.val (.long q0), .second, .val (.int p1), .val (.long (((p1 &&& (15 : Int32)) - (5 : Int32)).toInt64)), .second, .val (.long ((((p1 &&& (15 : Int32)) - (5 : Int32)).toInt64) ^^^ (((p1 >>> ((4 : Int32) &&& 31)).toInt64) <<< ((32 : Int32) &&& 0x3f).toInt64))), .second, .unset, .unset, .unset] [(own_of q0 w_NONE w_PROTOBUF w_JSON w_MSGPACK w_BSON w_RAW)]))
  refine ogo (fun t k => XS.lloadN X1.here hx rfl (hb hby at_23) rfl k) ?_
  show OwnEnds _ _ _ _ _ _ _ (T1.setTop (mkF m 24 #[.val (.long q0), .second, .val (.int p1), .val (.long (((p1 &&& (15 : Int32)) - (5 : Int32)).toInt64)), .second, .val (.long ((((p1 &&& (15 : Int32)) - (5 : Int32)).toInt64) ^^^ (((p1 >>> ((4 : Int32) &&& 31)).toInt64) <<< ((32 : Int32) &&& 0x3f).toInt64))), .second, .unset, .unset, .unset] [(.long q0), (own_of q0 w_NONE w_PROTOBUF w_JSON w_MSGPACK w_BSON w_RAW)]))
  obtain ⟨v2, _, ⟨T2, L2, k2, n2⟩, -, X2, ⟨Lc2, hQ2, l2, y2, z2⟩, st2⟩ := Jvm.LawKit.callS X1 hx (y := (⟨"com/example/packframe/packframe/onebyte/EncodingOfCodePinLaw", "expected", "(J)Lcom/example/packframe/packframe/onebyte/Encoding;"⟩ : MethodName)) hown (mvT hZ (hw _ (List.mem_of_getElem? (i := 12) rfl))) (mvT hZ (hw _ (List.mem_of_getElem? (i := 13) rfl))) (mvT hZ (hw _ (List.mem_of_getElem? (i := 14) rfl))) (mvT hZ (hw _ (List.mem_of_getElem? (i := 15) rfl))) (by decide) (backOf (W := 1) (rm2 l Z a0 hw [] q0 w_NONE w_PROTOBUF w_JSON w_MSGPACK w_BSON w_RAW w_ENCODINGS h0 n0 Z0 S_NONE E_NONE F_code_NONE S_PROTOBUF E_PROTOBUF F_code_PROTOBUF S_JSON E_JSON F_code_JSON S_MSGPACK E_MSGPACK F_code_MSGPACK S_BSON E_BSON F_code_BSON S_RAW E_RAW F_code_RAW S_ENCODINGS V_ENCODINGS) hZ (hw _ (List.mem_of_getElem? (i := 15) rfl)) (hw _ (List.mem_of_getElem? (i := 14) rfl)) (by decide) (by decide)) (g := (mkF m 24 #[.val (.long q0), .second, .val (.int p1), .val (.long (((p1 &&& (15 : Int32)) - (5 : Int32)).toInt64)), .second, .val (.long ((((p1 &&& (15 : Int32)) - (5 : Int32)).toInt64) ^^^ (((p1 >>> ((4 : Int32) &&& 31)).toInt64) <<< ((32 : Int32) &&& 0x3f).toInt64))), .second, .unset, .unset, .unset] [(.long q0), (own_of q0 w_NONE w_PROTOBUF w_JSON w_MSGPACK w_BSON w_RAW)])) rfl (by rw [hml]; rfl) (argsL := [(.long q0)]) (rest := [(own_of q0 w_NONE w_PROTOBUF w_JSON w_MSGPACK w_BSON w_RAW)]) (lenOf pd__J_Lcom_example_packframe_packframe_onebyte_Encoding_ rfl) rfl (by show 2 * 0 + _ ≤ _; simp only [List.map_cons, List.map_nil, List.sum_cons, List.sum_nil, own_cat (own_of_ref q0 w_NONE w_PROTOBUF w_JSON w_MSGPACK w_BSON w_RAW)]; exact Nat.le_of_eq rfl) (hb hby at_24) (fun _ _ => ⟨rfl, e1, (by decide : 0 + 0 ≤ _), (by decide : 0 + 0 ≤ _)⟩)
  dsimp only [Pt.U, Pt.locs, Pt.cells, Pt.slots] at X2 l2 y2 z2 st2 hQ2
  subst l2 y2 z2
  obtain ⟨rfl, N2q, e2⟩ := hQ2
  have N2 := Fr.app N1 N2q
  refine ogo (fun t k => st2 t k) ?_
  show OwnEnds _ _ _ _ _ _ _ (T2.setTop (mkF m 27 #[.val (.long q0), .second, .val (.int p1), .val (.long (((p1 &&& (15 : Int32)) - (5 : Int32)).toInt64)), .second, .val (.long ((((p1 &&& (15 : Int32)) - (5 : Int32)).toInt64) ^^^ (((p1 >>> ((4 : Int32) &&& 31)).toInt64) <<< ((32 : Int32) &&& 0x3f).toInt64))), .second, .unset, .unset, .unset] [(own_of q0 w_NONE w_PROTOBUF w_JSON w_MSGPACK w_BSON w_RAW), (own_of q0 w_NONE w_PROTOBUF w_JSON w_MSGPACK w_BSON w_RAW)]))
  refine ogo (fun t k => Jvm.RoadKit.acmp (g := (mkF m 27 #[.val (.long q0), .second, .val (.int p1), .val (.long (((p1 &&& (15 : Int32)) - (5 : Int32)).toInt64)), .second, .val (.long ((((p1 &&& (15 : Int32)) - (5 : Int32)).toInt64) ^^^ (((p1 >>> ((4 : Int32) &&& 31)).toInt64) <<< ((32 : Int32) &&& 0x3f).toInt64))), .second, .unset, .unset, .unset] [(own_of q0 w_NONE w_PROTOBUF w_JSON w_MSGPACK w_BSON w_RAW), (own_of q0 w_NONE w_PROTOBUF w_JSON w_MSGPACK w_BSON w_RAW)])) X2 hx rfl (own_of_ref q0 w_NONE w_PROTOBUF w_JSON w_MSGPACK w_BSON w_RAW) (own_of_ref q0 w_NONE w_PROTOBUF w_JSON w_MSGPACK w_BSON w_RAW) (pc0 := 27) (pc' := 30) (same := true) rfl (hb hby at_27) rfl (decide_eq_true rfl) (by decide) (by decide) k) ?_
  show OwnEnds _ _ _ _ _ _ _ (T2.setTop (mkF m 30 #[.val (.long q0), .second, .val (.int p1), .val (.long (((p1 &&& (15 : Int32)) - (5 : Int32)).toInt64)), .second, .val (.long ((((p1 &&& (15 : Int32)) - (5 : Int32)).toInt64) ^^^ (((p1 >>> ((4 : Int32) &&& 31)).toInt64) <<< ((32 : Int32) &&& 0x3f).toInt64))), .second, .unset, .unset, .unset] []))
  refine ogo (fun t k => XS.iconst X2.here hx rfl (hb hby at_30) k) ?_
  show OwnEnds _ _ _ _ _ _ _ (T2.setTop (mkF m 31 #[.val (.long q0), .second, .val (.int p1), .val (.long (((p1 &&& (15 : Int32)) - (5 : Int32)).toInt64)), .second, .val (.long ((((p1 &&& (15 : Int32)) - (5 : Int32)).toInt64) ^^^ (((p1 >>> ((4 : Int32) &&& 31)).toInt64) <<< ((32 : Int32) &&& 0x3f).toInt64))), .second, .unset, .unset, .unset] [(.int (1 : Int32))]))
  refine ogo (fun t k => XS.goto X2.here hx rfl (pc0 := 31) (pc' := 35) rfl (hb hby at_31) (by decide) (by decide) k) ?_
  show OwnEnds _ _ _ _ _ _ _ (T2.setTop (mkF m 35 #[.val (.long q0), .second, .val (.int p1), .val (.long (((p1 &&& (15 : Int32)) - (5 : Int32)).toInt64)), .second, .val (.long ((((p1 &&& (15 : Int32)) - (5 : Int32)).toInt64) ^^^ (((p1 >>> ((4 : Int32) &&& 31)).toInt64) <<< ((32 : Int32) &&& 0x3f).toInt64))), .second, .unset, .unset, .unset] [(.int (1 : Int32))]))
  refine ogo (fun t k => XS.istore X2.here hx rfl (hb hby at_35) rfl (l' := #[.val (.long q0), .second, .val (.int p1), .val (.long (((p1 &&& (15 : Int32)) - (5 : Int32)).toInt64)), .second, .val (.long ((((p1 &&& (15 : Int32)) - (5 : Int32)).toInt64) ^^^ (((p1 >>> ((4 : Int32) &&& 31)).toInt64) <<< ((32 : Int32) &&& 0x3f).toInt64))), .second, .val (.int (1 : Int32)), .unset, .unset]) rfl k) ?_
  show OwnEnds _ _ _ _ _ _ _ (T2.setTop (mkF m 37 #[.val (.long q0), .second, .val (.int p1), .val (.long (((p1 &&& (15 : Int32)) - (5 : Int32)).toInt64)), .second, .val (.long ((((p1 &&& (15 : Int32)) - (5 : Int32)).toInt64) ^^^ (((p1 >>> ((4 : Int32) &&& 31)).toInt64) <<< ((32 : Int32) &&& 0x3f).toInt64))), .second, .val (.int (1 : Int32)), .unset, .unset] []))
  refine ogo (fun t k => XS.lloadN X2.here hx rfl (hb hby at_37) rfl k) ?_
  show OwnEnds _ _ _ _ _ _ _ (T2.setTop (mkF m 38 #[.val (.long q0), .second, .val (.int p1), .val (.long (((p1 &&& (15 : Int32)) - (5 : Int32)).toInt64)), .second, .val (.long ((((p1 &&& (15 : Int32)) - (5 : Int32)).toInt64) ^^^ (((p1 >>> ((4 : Int32) &&& 31)).toInt64) <<< ((32 : Int32) &&& 0x3f).toInt64))), .second, .val (.int (1 : Int32)), .unset, .unset] [(.long (((p1 &&& (15 : Int32)) - (5 : Int32)).toInt64))]))
  obtain ⟨v3, _, ⟨T3, L3, k3, n3⟩, -, X3, ⟨Lc3, hQ3, l3, y3, z3⟩, st3⟩ := Jvm.LawKit.callS X2 hx (y := (⟨"com/example/packframe/packframe/onebyte/Encoding", "ofCode", "(J)Lcom/example/packframe/packframe/onebyte/Encoding;"⟩ : MethodName)) hown (mvT hZ (hw _ (List.mem_of_getElem? (i := 0) rfl))) (mvT hZ (hw _ (List.mem_of_getElem? (i := 1) rfl))) (mvT hZ (hw _ (List.mem_of_getElem? (i := 2) rfl))) (mvT hZ (hw _ (List.mem_of_getElem? (i := 3) rfl))) (by decide) (backOf (W := 0) (rm1 l Z a0 hw [] (((p1 &&& (15 : Int32)) - (5 : Int32)).toInt64) w_NONE w_PROTOBUF w_JSON w_MSGPACK w_BSON w_RAW w_ENCODINGS h0 n0 Z0 S_NONE E_NONE F_code_NONE S_PROTOBUF E_PROTOBUF F_code_PROTOBUF S_JSON E_JSON F_code_JSON S_MSGPACK E_MSGPACK F_code_MSGPACK S_BSON E_BSON F_code_BSON S_RAW E_RAW F_code_RAW S_ENCODINGS V_ENCODINGS) hZ (hw _ (List.mem_of_getElem? (i := 3) rfl)) (hw _ (List.mem_of_getElem? (i := 2) rfl)) (by decide) (by decide)) (g := (mkF m 38 #[.val (.long q0), .second, .val (.int p1), .val (.long (((p1 &&& (15 : Int32)) - (5 : Int32)).toInt64)), .second, .val (.long ((((p1 &&& (15 : Int32)) - (5 : Int32)).toInt64) ^^^ (((p1 >>> ((4 : Int32) &&& 31)).toInt64) <<< ((32 : Int32) &&& 0x3f).toInt64))), .second, .val (.int (1 : Int32)), .unset, .unset] [(.long (((p1 &&& (15 : Int32)) - (5 : Int32)).toInt64))])) rfl (by rw [hml]; rfl) (argsL := [(.long (((p1 &&& (15 : Int32)) - (5 : Int32)).toInt64))]) (rest := []) (lenOf pd__J_Lcom_example_packframe_packframe_onebyte_Encoding_ rfl) rfl (by show 2 * 0 + _ ≤ _; exact Nat.le_of_eq rfl) (hb hby at_38) (fun _ _ => ⟨rfl, e2, (by decide : 0 + 0 ≤ _), (by decide : 0 + 0 ≤ _)⟩)
  dsimp only [Pt.U, Pt.locs, Pt.cells, Pt.slots] at X3 l3 y3 z3 st3 hQ3
  subst l3 y3 z3
  obtain ⟨rfl, N3q, e3⟩ := hQ3
  have N3 := Fr.app N2 N3q
  refine ogo (fun t k => st3 t k) ?_
  show OwnEnds _ _ _ _ _ _ _ (T3.setTop (mkF m 41 #[.val (.long q0), .second, .val (.int p1), .val (.long (((p1 &&& (15 : Int32)) - (5 : Int32)).toInt64)), .second, .val (.long ((((p1 &&& (15 : Int32)) - (5 : Int32)).toInt64) ^^^ (((p1 >>> ((4 : Int32) &&& 31)).toInt64) <<< ((32 : Int32) &&& 0x3f).toInt64))), .second, .val (.int (1 : Int32)), .unset, .unset] [(own_of (((p1 &&& (15 : Int32)) - (5 : Int32)).toInt64) w_NONE w_PROTOBUF w_JSON w_MSGPACK w_BSON w_RAW)]))
  refine ogo (fun t k => XS.lloadN X3.here hx rfl (hb hby at_41) rfl k) ?_
  show OwnEnds _ _ _ _ _ _ _ (T3.setTop (mkF m 42 #[.val (.long q0), .second, .val (.int p1), .val (.long (((p1 &&& (15 : Int32)) - (5 : Int32)).toInt64)), .second, .val (.long ((((p1 &&& (15 : Int32)) - (5 : Int32)).toInt64) ^^^ (((p1 >>> ((4 : Int32) &&& 31)).toInt64) <<< ((32 : Int32) &&& 0x3f).toInt64))), .second, .val (.int (1 : Int32)), .unset, .unset] [(.long (((p1 &&& (15 : Int32)) - (5 : Int32)).toInt64)), (own_of (((p1 &&& (15 : Int32)) - (5 : Int32)).toInt64) w_NONE w_PROTOBUF w_JSON w_MSGPACK w_BSON w_RAW)]))
  obtain ⟨v4, _, ⟨T4, L4, k4, n4⟩, -, X4, ⟨Lc4, hQ4, l4, y4, z4⟩, st4⟩ := Jvm.LawKit.callS X3 hx (y := (⟨"com/example/packframe/packframe/onebyte/EncodingOfCodePinLaw", "expected", "(J)Lcom/example/packframe/packframe/onebyte/Encoding;"⟩ : MethodName)) hown (mvT hZ (hw _ (List.mem_of_getElem? (i := 12) rfl))) (mvT hZ (hw _ (List.mem_of_getElem? (i := 13) rfl))) (mvT hZ (hw _ (List.mem_of_getElem? (i := 14) rfl))) (mvT hZ (hw _ (List.mem_of_getElem? (i := 15) rfl))) (by decide) (backOf (W := 1) (rm2 l Z a0 hw [] (((p1 &&& (15 : Int32)) - (5 : Int32)).toInt64) w_NONE w_PROTOBUF w_JSON w_MSGPACK w_BSON w_RAW w_ENCODINGS h0 n0 Z0 S_NONE E_NONE F_code_NONE S_PROTOBUF E_PROTOBUF F_code_PROTOBUF S_JSON E_JSON F_code_JSON S_MSGPACK E_MSGPACK F_code_MSGPACK S_BSON E_BSON F_code_BSON S_RAW E_RAW F_code_RAW S_ENCODINGS V_ENCODINGS) hZ (hw _ (List.mem_of_getElem? (i := 15) rfl)) (hw _ (List.mem_of_getElem? (i := 14) rfl)) (by decide) (by decide)) (g := (mkF m 42 #[.val (.long q0), .second, .val (.int p1), .val (.long (((p1 &&& (15 : Int32)) - (5 : Int32)).toInt64)), .second, .val (.long ((((p1 &&& (15 : Int32)) - (5 : Int32)).toInt64) ^^^ (((p1 >>> ((4 : Int32) &&& 31)).toInt64) <<< ((32 : Int32) &&& 0x3f).toInt64))), .second, .val (.int (1 : Int32)), .unset, .unset] [(.long (((p1 &&& (15 : Int32)) - (5 : Int32)).toInt64)), (own_of (((p1 &&& (15 : Int32)) - (5 : Int32)).toInt64) w_NONE w_PROTOBUF w_JSON w_MSGPACK w_BSON w_RAW)])) rfl (by rw [hml]; rfl) (argsL := [(.long (((p1 &&& (15 : Int32)) - (5 : Int32)).toInt64))]) (rest := [(own_of (((p1 &&& (15 : Int32)) - (5 : Int32)).toInt64) w_NONE w_PROTOBUF w_JSON w_MSGPACK w_BSON w_RAW)]) (lenOf pd__J_Lcom_example_packframe_packframe_onebyte_Encoding_ rfl) rfl (by show 2 * 0 + _ ≤ _; simp only [List.map_cons, List.map_nil, List.sum_cons, List.sum_nil, own_cat (own_of_ref (((p1 &&& (15 : Int32)) - (5 : Int32)).toInt64) w_NONE w_PROTOBUF w_JSON w_MSGPACK w_BSON w_RAW)]; exact Nat.le_of_eq rfl) (hb hby at_42) (fun _ _ => ⟨rfl, e3, (by decide : 0 + 0 ≤ _), (by decide : 0 + 0 ≤ _)⟩)
  dsimp only [Pt.U, Pt.locs, Pt.cells, Pt.slots] at X4 l4 y4 z4 st4 hQ4
  subst l4 y4 z4
  obtain ⟨rfl, N4q, e4⟩ := hQ4
  have N4 := Fr.app N3 N4q
  refine ogo (fun t k => st4 t k) ?_
  show OwnEnds _ _ _ _ _ _ _ (T4.setTop (mkF m 45 #[.val (.long q0), .second, .val (.int p1), .val (.long (((p1 &&& (15 : Int32)) - (5 : Int32)).toInt64)), .second, .val (.long ((((p1 &&& (15 : Int32)) - (5 : Int32)).toInt64) ^^^ (((p1 >>> ((4 : Int32) &&& 31)).toInt64) <<< ((32 : Int32) &&& 0x3f).toInt64))), .second, .val (.int (1 : Int32)), .unset, .unset] [(own_of (((p1 &&& (15 : Int32)) - (5 : Int32)).toInt64) w_NONE w_PROTOBUF w_JSON w_MSGPACK w_BSON w_RAW), (own_of (((p1 &&& (15 : Int32)) - (5 : Int32)).toInt64) w_NONE w_PROTOBUF w_JSON w_MSGPACK w_BSON w_RAW)]))
  refine ogo (fun t k => Jvm.RoadKit.acmp (g := (mkF m 45 #[.val (.long q0), .second, .val (.int p1), .val (.long (((p1 &&& (15 : Int32)) - (5 : Int32)).toInt64)), .second, .val (.long ((((p1 &&& (15 : Int32)) - (5 : Int32)).toInt64) ^^^ (((p1 >>> ((4 : Int32) &&& 31)).toInt64) <<< ((32 : Int32) &&& 0x3f).toInt64))), .second, .val (.int (1 : Int32)), .unset, .unset] [(own_of (((p1 &&& (15 : Int32)) - (5 : Int32)).toInt64) w_NONE w_PROTOBUF w_JSON w_MSGPACK w_BSON w_RAW), (own_of (((p1 &&& (15 : Int32)) - (5 : Int32)).toInt64) w_NONE w_PROTOBUF w_JSON w_MSGPACK w_BSON w_RAW)])) X4 hx rfl (own_of_ref (((p1 &&& (15 : Int32)) - (5 : Int32)).toInt64) w_NONE w_PROTOBUF w_JSON w_MSGPACK w_BSON w_RAW) (own_of_ref (((p1 &&& (15 : Int32)) - (5 : Int32)).toInt64) w_NONE w_PROTOBUF w_JSON w_MSGPACK w_BSON w_RAW) (pc0 := 45) (pc' := 48) (same := true) rfl (hb hby at_45) rfl (decide_eq_true rfl) (by decide) (by decide) k) ?_
  show OwnEnds _ _ _ _ _ _ _ (T4.setTop (mkF m 48 #[.val (.long q0), .second, .val (.int p1), .val (.long (((p1 &&& (15 : Int32)) - (5 : Int32)).toInt64)), .second, .val (.long ((((p1 &&& (15 : Int32)) - (5 : Int32)).toInt64) ^^^ (((p1 >>> ((4 : Int32) &&& 31)).toInt64) <<< ((32 : Int32) &&& 0x3f).toInt64))), .second, .val (.int (1 : Int32)), .unset, .unset] []))
  refine ogo (fun t k => XS.iconst X4.here hx rfl (hb hby at_48) k) ?_
  show OwnEnds _ _ _ _ _ _ _ (T4.setTop (mkF m 49 #[.val (.long q0), .second, .val (.int p1), .val (.long (((p1 &&& (15 : Int32)) - (5 : Int32)).toInt64)), .second, .val (.long ((((p1 &&& (15 : Int32)) - (5 : Int32)).toInt64) ^^^ (((p1 >>> ((4 : Int32) &&& 31)).toInt64) <<< ((32 : Int32) &&& 0x3f).toInt64))), .second, .val (.int (1 : Int32)), .unset, .unset] [(.int (1 : Int32))]))
  refine ogo (fun t k => XS.goto X4.here hx rfl (pc0 := 49) (pc' := 53) rfl (hb hby at_49) (by decide) (by decide) k) ?_
  show OwnEnds _ _ _ _ _ _ _ (T4.setTop (mkF m 53 #[.val (.long q0), .second, .val (.int p1), .val (.long (((p1 &&& (15 : Int32)) - (5 : Int32)).toInt64)), .second, .val (.long ((((p1 &&& (15 : Int32)) - (5 : Int32)).toInt64) ^^^ (((p1 >>> ((4 : Int32) &&& 31)).toInt64) <<< ((32 : Int32) &&& 0x3f).toInt64))), .second, .val (.int (1 : Int32)), .unset, .unset] [(.int (1 : Int32))]))
  refine ogo (fun t k => XS.istore X4.here hx rfl (hb hby at_53) rfl (l' := #[.val (.long q0), .second, .val (.int p1), .val (.long (((p1 &&& (15 : Int32)) - (5 : Int32)).toInt64)), .second, .val (.long ((((p1 &&& (15 : Int32)) - (5 : Int32)).toInt64) ^^^ (((p1 >>> ((4 : Int32) &&& 31)).toInt64) <<< ((32 : Int32) &&& 0x3f).toInt64))), .second, .val (.int (1 : Int32)), .val (.int (1 : Int32)), .unset]) rfl k) ?_
  show OwnEnds _ _ _ _ _ _ _ (T4.setTop (mkF m 55 #[.val (.long q0), .second, .val (.int p1), .val (.long (((p1 &&& (15 : Int32)) - (5 : Int32)).toInt64)), .second, .val (.long ((((p1 &&& (15 : Int32)) - (5 : Int32)).toInt64) ^^^ (((p1 >>> ((4 : Int32) &&& 31)).toInt64) <<< ((32 : Int32) &&& 0x3f).toInt64))), .second, .val (.int (1 : Int32)), .val (.int (1 : Int32)), .unset] []))
  refine ogo (fun t k => XS.lload X4.here hx rfl (hb hby at_55) rfl k) ?_
  show OwnEnds _ _ _ _ _ _ _ (T4.setTop (mkF m 57 #[.val (.long q0), .second, .val (.int p1), .val (.long (((p1 &&& (15 : Int32)) - (5 : Int32)).toInt64)), .second, .val (.long ((((p1 &&& (15 : Int32)) - (5 : Int32)).toInt64) ^^^ (((p1 >>> ((4 : Int32) &&& 31)).toInt64) <<< ((32 : Int32) &&& 0x3f).toInt64))), .second, .val (.int (1 : Int32)), .val (.int (1 : Int32)), .unset] [(.long ((((p1 &&& (15 : Int32)) - (5 : Int32)).toInt64) ^^^ (((p1 >>> ((4 : Int32) &&& 31)).toInt64) <<< ((32 : Int32) &&& 0x3f).toInt64)))]))
  obtain ⟨v5, _, ⟨T5, L5, k5, n5⟩, -, X5, ⟨Lc5, hQ5, l5, y5, z5⟩, st5⟩ := Jvm.LawKit.callS X4 hx (y := (⟨"com/example/packframe/packframe/onebyte/Encoding", "ofCode", "(J)Lcom/example/packframe/packframe/onebyte/Encoding;"⟩ : MethodName)) hown (mvT hZ (hw _ (List.mem_of_getElem? (i := 0) rfl))) (mvT hZ (hw _ (List.mem_of_getElem? (i := 1) rfl))) (mvT hZ (hw _ (List.mem_of_getElem? (i := 2) rfl))) (mvT hZ (hw _ (List.mem_of_getElem? (i := 3) rfl))) (by decide) (backOf (W := 0) (rm1 l Z a0 hw [] ((((p1 &&& (15 : Int32)) - (5 : Int32)).toInt64) ^^^ (((p1 >>> ((4 : Int32) &&& 31)).toInt64) <<< ((32 : Int32) &&& 0x3f).toInt64)) w_NONE w_PROTOBUF w_JSON w_MSGPACK w_BSON w_RAW w_ENCODINGS h0 n0 Z0 S_NONE E_NONE F_code_NONE S_PROTOBUF E_PROTOBUF F_code_PROTOBUF S_JSON E_JSON F_code_JSON S_MSGPACK E_MSGPACK F_code_MSGPACK S_BSON E_BSON F_code_BSON S_RAW E_RAW F_code_RAW S_ENCODINGS V_ENCODINGS) hZ (hw _ (List.mem_of_getElem? (i := 3) rfl)) (hw _ (List.mem_of_getElem? (i := 2) rfl)) (by decide) (by decide)) (g := (mkF m 57 #[.val (.long q0), .second, .val (.int p1), .val (.long (((p1 &&& (15 : Int32)) - (5 : Int32)).toInt64)), .second, .val (.long ((((p1 &&& (15 : Int32)) - (5 : Int32)).toInt64) ^^^ (((p1 >>> ((4 : Int32) &&& 31)).toInt64) <<< ((32 : Int32) &&& 0x3f).toInt64))), .second, .val (.int (1 : Int32)), .val (.int (1 : Int32)), .unset] [(.long ((((p1 &&& (15 : Int32)) - (5 : Int32)).toInt64) ^^^ (((p1 >>> ((4 : Int32) &&& 31)).toInt64) <<< ((32 : Int32) &&& 0x3f).toInt64)))])) rfl (by rw [hml]; rfl) (argsL := [(.long ((((p1 &&& (15 : Int32)) - (5 : Int32)).toInt64) ^^^ (((p1 >>> ((4 : Int32) &&& 31)).toInt64) <<< ((32 : Int32) &&& 0x3f).toInt64)))]) (rest := []) (lenOf pd__J_Lcom_example_packframe_packframe_onebyte_Encoding_ rfl) rfl (by show 2 * 0 + _ ≤ _; exact Nat.le_of_eq rfl) (hb hby at_57) (fun _ _ => ⟨rfl, e4, (by decide : 0 + 0 ≤ _), (by decide : 0 + 0 ≤ _)⟩)
  dsimp only [Pt.U, Pt.locs, Pt.cells, Pt.slots] at X5 l5 y5 z5 st5 hQ5
  subst l5 y5 z5
  obtain ⟨rfl, N5q, e5⟩ := hQ5
  have N5 := Fr.app N4 N5q
  refine ogo (fun t k => st5 t k) ?_
  show OwnEnds _ _ _ _ _ _ _ (T5.setTop (mkF m 60 #[.val (.long q0), .second, .val (.int p1), .val (.long (((p1 &&& (15 : Int32)) - (5 : Int32)).toInt64)), .second, .val (.long ((((p1 &&& (15 : Int32)) - (5 : Int32)).toInt64) ^^^ (((p1 >>> ((4 : Int32) &&& 31)).toInt64) <<< ((32 : Int32) &&& 0x3f).toInt64))), .second, .val (.int (1 : Int32)), .val (.int (1 : Int32)), .unset] [(own_of ((((p1 &&& (15 : Int32)) - (5 : Int32)).toInt64) ^^^ (((p1 >>> ((4 : Int32) &&& 31)).toInt64) <<< ((32 : Int32) &&& 0x3f).toInt64)) w_NONE w_PROTOBUF w_JSON w_MSGPACK w_BSON w_RAW)]))
  refine ogo (fun t k => XS.lload X5.here hx rfl (hb hby at_60) rfl k) ?_
  show OwnEnds _ _ _ _ _ _ _ (T5.setTop (mkF m 62 #[.val (.long q0), .second, .val (.int p1), .val (.long (((p1 &&& (15 : Int32)) - (5 : Int32)).toInt64)), .second, .val (.long ((((p1 &&& (15 : Int32)) - (5 : Int32)).toInt64) ^^^ (((p1 >>> ((4 : Int32) &&& 31)).toInt64) <<< ((32 : Int32) &&& 0x3f).toInt64))), .second, .val (.int (1 : Int32)), .val (.int (1 : Int32)), .unset] [(.long ((((p1 &&& (15 : Int32)) - (5 : Int32)).toInt64) ^^^ (((p1 >>> ((4 : Int32) &&& 31)).toInt64) <<< ((32 : Int32) &&& 0x3f).toInt64))), (own_of ((((p1 &&& (15 : Int32)) - (5 : Int32)).toInt64) ^^^ (((p1 >>> ((4 : Int32) &&& 31)).toInt64) <<< ((32 : Int32) &&& 0x3f).toInt64)) w_NONE w_PROTOBUF w_JSON w_MSGPACK w_BSON w_RAW)]))
  obtain ⟨v6, _, ⟨T6, L6, k6, n6⟩, -, X6, ⟨Lc6, hQ6, l6, y6, z6⟩, st6⟩ := Jvm.LawKit.callS X5 hx (y := (⟨"com/example/packframe/packframe/onebyte/EncodingOfCodePinLaw", "expected", "(J)Lcom/example/packframe/packframe/onebyte/Encoding;"⟩ : MethodName)) hown (mvT hZ (hw _ (List.mem_of_getElem? (i := 12) rfl))) (mvT hZ (hw _ (List.mem_of_getElem? (i := 13) rfl))) (mvT hZ (hw _ (List.mem_of_getElem? (i := 14) rfl))) (mvT hZ (hw _ (List.mem_of_getElem? (i := 15) rfl))) (by decide) (backOf (W := 1) (rm2 l Z a0 hw [] ((((p1 &&& (15 : Int32)) - (5 : Int32)).toInt64) ^^^ (((p1 >>> ((4 : Int32) &&& 31)).toInt64) <<< ((32 : Int32) &&& 0x3f).toInt64)) w_NONE w_PROTOBUF w_JSON w_MSGPACK w_BSON w_RAW w_ENCODINGS h0 n0 Z0 S_NONE E_NONE F_code_NONE S_PROTOBUF E_PROTOBUF F_code_PROTOBUF S_JSON E_JSON F_code_JSON S_MSGPACK E_MSGPACK F_code_MSGPACK S_BSON E_BSON F_code_BSON S_RAW E_RAW F_code_RAW S_ENCODINGS V_ENCODINGS) hZ (hw _ (List.mem_of_getElem? (i := 15) rfl)) (hw _ (List.mem_of_getElem? (i := 14) rfl)) (by decide) (by decide)) (g := (mkF m 62 #[.val (.long q0), .second, .val (.int p1), .val (.long (((p1 &&& (15 : Int32)) - (5 : Int32)).toInt64)), .second, .val (.long ((((p1 &&& (15 : Int32)) - (5 : Int32)).toInt64) ^^^ (((p1 >>> ((4 : Int32) &&& 31)).toInt64) <<< ((32 : Int32) &&& 0x3f).toInt64))), .second, .val (.int (1 : Int32)), .val (.int (1 : Int32)), .unset] [(.long ((((p1 &&& (15 : Int32)) - (5 : Int32)).toInt64) ^^^ (((p1 >>> ((4 : Int32) &&& 31)).toInt64) <<< ((32 : Int32) &&& 0x3f).toInt64))), (own_of ((((p1 &&& (15 : Int32)) - (5 : Int32)).toInt64) ^^^ (((p1 >>> ((4 : Int32) &&& 31)).toInt64) <<< ((32 : Int32) &&& 0x3f).toInt64)) w_NONE w_PROTOBUF w_JSON w_MSGPACK w_BSON w_RAW)])) rfl (by rw [hml]; rfl) (argsL := [(.long ((((p1 &&& (15 : Int32)) - (5 : Int32)).toInt64) ^^^ (((p1 >>> ((4 : Int32) &&& 31)).toInt64) <<< ((32 : Int32) &&& 0x3f).toInt64)))]) (rest := [(own_of ((((p1 &&& (15 : Int32)) - (5 : Int32)).toInt64) ^^^ (((p1 >>> ((4 : Int32) &&& 31)).toInt64) <<< ((32 : Int32) &&& 0x3f).toInt64)) w_NONE w_PROTOBUF w_JSON w_MSGPACK w_BSON w_RAW)]) (lenOf pd__J_Lcom_example_packframe_packframe_onebyte_Encoding_ rfl) rfl (by show 2 * 0 + _ ≤ _; simp only [List.map_cons, List.map_nil, List.sum_cons, List.sum_nil, own_cat (own_of_ref ((((p1 &&& (15 : Int32)) - (5 : Int32)).toInt64) ^^^ (((p1 >>> ((4 : Int32) &&& 31)).toInt64) <<< ((32 : Int32) &&& 0x3f).toInt64)) w_NONE w_PROTOBUF w_JSON w_MSGPACK w_BSON w_RAW)]; exact Nat.le_of_eq rfl) (hb hby at_62) (fun _ _ => ⟨rfl, e5, (by decide : 0 + 0 ≤ _), (by decide : 0 + 0 ≤ _)⟩)
  dsimp only [Pt.U, Pt.locs, Pt.cells, Pt.slots] at X6 l6 y6 z6 st6 hQ6
  subst l6 y6 z6
  obtain ⟨rfl, N6q, e6⟩ := hQ6
  have N6 := Fr.app N5 N6q
  refine ogo (fun t k => st6 t k) ?_
  show OwnEnds _ _ _ _ _ _ _ (T6.setTop (mkF m 65 #[.val (.long q0), .second, .val (.int p1), .val (.long (((p1 &&& (15 : Int32)) - (5 : Int32)).toInt64)), .second, .val (.long ((((p1 &&& (15 : Int32)) - (5 : Int32)).toInt64) ^^^ (((p1 >>> ((4 : Int32) &&& 31)).toInt64) <<< ((32 : Int32) &&& 0x3f).toInt64))), .second, .val (.int (1 : Int32)), .val (.int (1 : Int32)), .unset] [(own_of ((((p1 &&& (15 : Int32)) - (5 : Int32)).toInt64) ^^^ (((p1 >>> ((4 : Int32) &&& 31)).toInt64) <<< ((32 : Int32) &&& 0x3f).toInt64)) w_NONE w_PROTOBUF w_JSON w_MSGPACK w_BSON w_RAW), (own_of ((((p1 &&& (15 : Int32)) - (5 : Int32)).toInt64) ^^^ (((p1 >>> ((4 : Int32) &&& 31)).toInt64) <<< ((32 : Int32) &&& 0x3f).toInt64)) w_NONE w_PROTOBUF w_JSON w_MSGPACK w_BSON w_RAW)]))
  refine ogo (fun t k => Jvm.RoadKit.acmp (g := (mkF m 65 #[.val (.long q0), .second, .val (.int p1), .val (.long (((p1 &&& (15 : Int32)) - (5 : Int32)).toInt64)), .second, .val (.long ((((p1 &&& (15 : Int32)) - (5 : Int32)).toInt64) ^^^ (((p1 >>> ((4 : Int32) &&& 31)).toInt64) <<< ((32 : Int32) &&& 0x3f).toInt64))), .second, .val (.int (1 : Int32)), .val (.int (1 : Int32)), .unset] [(own_of ((((p1 &&& (15 : Int32)) - (5 : Int32)).toInt64) ^^^ (((p1 >>> ((4 : Int32) &&& 31)).toInt64) <<< ((32 : Int32) &&& 0x3f).toInt64)) w_NONE w_PROTOBUF w_JSON w_MSGPACK w_BSON w_RAW), (own_of ((((p1 &&& (15 : Int32)) - (5 : Int32)).toInt64) ^^^ (((p1 >>> ((4 : Int32) &&& 31)).toInt64) <<< ((32 : Int32) &&& 0x3f).toInt64)) w_NONE w_PROTOBUF w_JSON w_MSGPACK w_BSON w_RAW)])) X6 hx rfl (own_of_ref ((((p1 &&& (15 : Int32)) - (5 : Int32)).toInt64) ^^^ (((p1 >>> ((4 : Int32) &&& 31)).toInt64) <<< ((32 : Int32) &&& 0x3f).toInt64)) w_NONE w_PROTOBUF w_JSON w_MSGPACK w_BSON w_RAW) (own_of_ref ((((p1 &&& (15 : Int32)) - (5 : Int32)).toInt64) ^^^ (((p1 >>> ((4 : Int32) &&& 31)).toInt64) <<< ((32 : Int32) &&& 0x3f).toInt64)) w_NONE w_PROTOBUF w_JSON w_MSGPACK w_BSON w_RAW) (pc0 := 65) (pc' := 68) (same := true) rfl (hb hby at_65) rfl (decide_eq_true rfl) (by decide) (by decide) k) ?_
  show OwnEnds _ _ _ _ _ _ _ (T6.setTop (mkF m 68 #[.val (.long q0), .second, .val (.int p1), .val (.long (((p1 &&& (15 : Int32)) - (5 : Int32)).toInt64)), .second, .val (.long ((((p1 &&& (15 : Int32)) - (5 : Int32)).toInt64) ^^^ (((p1 >>> ((4 : Int32) &&& 31)).toInt64) <<< ((32 : Int32) &&& 0x3f).toInt64))), .second, .val (.int (1 : Int32)), .val (.int (1 : Int32)), .unset] []))
  refine ogo (fun t k => XS.iconst X6.here hx rfl (hb hby at_68) k) ?_
  show OwnEnds _ _ _ _ _ _ _ (T6.setTop (mkF m 69 #[.val (.long q0), .second, .val (.int p1), .val (.long (((p1 &&& (15 : Int32)) - (5 : Int32)).toInt64)), .second, .val (.long ((((p1 &&& (15 : Int32)) - (5 : Int32)).toInt64) ^^^ (((p1 >>> ((4 : Int32) &&& 31)).toInt64) <<< ((32 : Int32) &&& 0x3f).toInt64))), .second, .val (.int (1 : Int32)), .val (.int (1 : Int32)), .unset] [(.int (1 : Int32))]))
  refine ogo (fun t k => XS.goto X6.here hx rfl (pc0 := 69) (pc' := 73) rfl (hb hby at_69) (by decide) (by decide) k) ?_
  show OwnEnds _ _ _ _ _ _ _ (T6.setTop (mkF m 73 #[.val (.long q0), .second, .val (.int p1), .val (.long (((p1 &&& (15 : Int32)) - (5 : Int32)).toInt64)), .second, .val (.long ((((p1 &&& (15 : Int32)) - (5 : Int32)).toInt64) ^^^ (((p1 >>> ((4 : Int32) &&& 31)).toInt64) <<< ((32 : Int32) &&& 0x3f).toInt64))), .second, .val (.int (1 : Int32)), .val (.int (1 : Int32)), .unset] [(.int (1 : Int32))]))
  refine ogo (fun t k => XS.istore X6.here hx rfl (hb hby at_73) rfl (l' := #[.val (.long q0), .second, .val (.int p1), .val (.long (((p1 &&& (15 : Int32)) - (5 : Int32)).toInt64)), .second, .val (.long ((((p1 &&& (15 : Int32)) - (5 : Int32)).toInt64) ^^^ (((p1 >>> ((4 : Int32) &&& 31)).toInt64) <<< ((32 : Int32) &&& 0x3f).toInt64))), .second, .val (.int (1 : Int32)), .val (.int (1 : Int32)), .val (.int (1 : Int32))]) rfl k) ?_
  show OwnEnds _ _ _ _ _ _ _ (T6.setTop (mkF m 75 #[.val (.long q0), .second, .val (.int p1), .val (.long (((p1 &&& (15 : Int32)) - (5 : Int32)).toInt64)), .second, .val (.long ((((p1 &&& (15 : Int32)) - (5 : Int32)).toInt64) ^^^ (((p1 >>> ((4 : Int32) &&& 31)).toInt64) <<< ((32 : Int32) &&& 0x3f).toInt64))), .second, .val (.int (1 : Int32)), .val (.int (1 : Int32)), .val (.int (1 : Int32))] []))
  refine ogo (fun t k => XS.iload X6.here hx rfl (hb hby at_75) rfl k) ?_
  show OwnEnds _ _ _ _ _ _ _ (T6.setTop (mkF m 77 #[.val (.long q0), .second, .val (.int p1), .val (.long (((p1 &&& (15 : Int32)) - (5 : Int32)).toInt64)), .second, .val (.long ((((p1 &&& (15 : Int32)) - (5 : Int32)).toInt64) ^^^ (((p1 >>> ((4 : Int32) &&& 31)).toInt64) <<< ((32 : Int32) &&& 0x3f).toInt64))), .second, .val (.int (1 : Int32)), .val (.int (1 : Int32)), .val (.int (1 : Int32))] [(.int (1 : Int32))]))
  refine ogo (fun t k => XS.ifNo X6.here hx rfl (hb hby at_77) rfl ((if0 _ _).trans (feq (by decide : ¬ ((1 : Int32) = (0 : Int32)))).1) k) ?_
  show OwnEnds _ _ _ _ _ _ _ (T6.setTop (mkF m 80 #[.val (.long q0), .second, .val (.int p1), .val (.long (((p1 &&& (15 : Int32)) - (5 : Int32)).toInt64)), .second, .val (.long ((((p1 &&& (15 : Int32)) - (5 : Int32)).toInt64) ^^^ (((p1 >>> ((4 : Int32) &&& 31)).toInt64) <<< ((32 : Int32) &&& 0x3f).toInt64))), .second, .val (.int (1 : Int32)), .val (.int (1 : Int32)), .val (.int (1 : Int32))] []))
  refine ogo (fun t k => XS.iload X6.here hx rfl (hb hby at_80) rfl k) ?_
  show OwnEnds _ _ _ _ _ _ _ (T6.setTop (mkF m 82 #[.val (.long q0), .second, .val (.int p1), .val (.long (((p1 &&& (15 : Int32)) - (5 : Int32)).toInt64)), .second, .val (.long ((((p1 &&& (15 : Int32)) - (5 : Int32)).toInt64) ^^^ (((p1 >>> ((4 : Int32) &&& 31)).toInt64) <<< ((32 : Int32) &&& 0x3f).toInt64))), .second, .val (.int (1 : Int32)), .val (.int (1 : Int32)), .val (.int (1 : Int32))] [(.int (1 : Int32))]))
  refine ogo (fun t k => XS.ifNo X6.here hx rfl (hb hby at_82) rfl ((if0 _ _).trans (feq (by decide : ¬ ((1 : Int32) = (0 : Int32)))).1) k) ?_
  show OwnEnds _ _ _ _ _ _ _ (T6.setTop (mkF m 85 #[.val (.long q0), .second, .val (.int p1), .val (.long (((p1 &&& (15 : Int32)) - (5 : Int32)).toInt64)), .second, .val (.long ((((p1 &&& (15 : Int32)) - (5 : Int32)).toInt64) ^^^ (((p1 >>> ((4 : Int32) &&& 31)).toInt64) <<< ((32 : Int32) &&& 0x3f).toInt64))), .second, .val (.int (1 : Int32)), .val (.int (1 : Int32)), .val (.int (1 : Int32))] []))
  refine ogo (fun t k => XS.iload X6.here hx rfl (hb hby at_85) rfl k) ?_
  show OwnEnds _ _ _ _ _ _ _ (T6.setTop (mkF m 87 #[.val (.long q0), .second, .val (.int p1), .val (.long (((p1 &&& (15 : Int32)) - (5 : Int32)).toInt64)), .second, .val (.long ((((p1 &&& (15 : Int32)) - (5 : Int32)).toInt64) ^^^ (((p1 >>> ((4 : Int32) &&& 31)).toInt64) <<< ((32 : Int32) &&& 0x3f).toInt64))), .second, .val (.int (1 : Int32)), .val (.int (1 : Int32)), .val (.int (1 : Int32))] [(.int (1 : Int32))]))
  refine ogo (fun t k => XS.ifNo X6.here hx rfl (hb hby at_87) rfl ((if0 _ _).trans (feq (by decide : ¬ ((1 : Int32) = (0 : Int32)))).1) k) ?_
  show OwnEnds _ _ _ _ _ _ _ (T6.setTop (mkF m 90 #[.val (.long q0), .second, .val (.int p1), .val (.long (((p1 &&& (15 : Int32)) - (5 : Int32)).toInt64)), .second, .val (.long ((((p1 &&& (15 : Int32)) - (5 : Int32)).toInt64) ^^^ (((p1 >>> ((4 : Int32) &&& 31)).toInt64) <<< ((32 : Int32) &&& 0x3f).toInt64))), .second, .val (.int (1 : Int32)), .val (.int (1 : Int32)), .val (.int (1 : Int32))] []))
  refine ogo (fun t k => XS.iconst X6.here hx rfl (hb hby at_90) k) ?_
  show OwnEnds _ _ _ _ _ _ _ (T6.setTop (mkF m 91 #[.val (.long q0), .second, .val (.int p1), .val (.long (((p1 &&& (15 : Int32)) - (5 : Int32)).toInt64)), .second, .val (.long ((((p1 &&& (15 : Int32)) - (5 : Int32)).toInt64) ^^^ (((p1 >>> ((4 : Int32) &&& 31)).toInt64) <<< ((32 : Int32) &&& 0x3f).toInt64))), .second, .val (.int (1 : Int32)), .val (.int (1 : Int32)), .val (.int (1 : Int32))] [(.int (1 : Int32))]))
  refine ogo (fun t k => XS.goto X6.here hx rfl (pc0 := 91) (pc' := 95) rfl (hb hby at_91) (by decide) (by decide) k) ?_
  show OwnEnds _ _ _ _ _ _ _ (T6.setTop (mkF m 95 #[.val (.long q0), .second, .val (.int p1), .val (.long (((p1 &&& (15 : Int32)) - (5 : Int32)).toInt64)), .second, .val (.long ((((p1 &&& (15 : Int32)) - (5 : Int32)).toInt64) ^^^ (((p1 >>> ((4 : Int32) &&& 31)).toInt64) <<< ((32 : Int32) &&& 0x3f).toInt64))), .second, .val (.int (1 : Int32)), .val (.int (1 : Int32)), .val (.int (1 : Int32))] [(.int (1 : Int32))]))
  refine endZ X6 hx hlk Bd.returns rfl (hb hby at_95) (by decide) (by decide) ?_
  show Q0 Z q0 p1 w_NONE w_PROTOBUF w_JSON w_MSGPACK w_BSON w_RAW w_ENCODINGS h0 n0 _ T6.heap _
  rw [e6]
  exact ⟨rfl, N6⟩
set_option maxRecDepth 65536 in
set_option maxHeartbeats 40000000 in
theorem comes_1 {Post : Tables → Env → Array Value → State → Outcome → State → Prop} (hpost : ∀ tb e args s v u, (limb_1_1.after args s (.returned v) u = true ∧ limb_1_2.after args s (.returned v) u = true ∧ True) → FrameEnd s (.returned v) u (Jvm.fieldLocs frame_1_writes args s ++ Jvm.arrayLocs frame_1_arrays args s ++ Jvm.staticLocs frame_1_statics s) 0 0 → Post tb e args s (.returned v) u) :
    ArmFor flags0 classFile x code maxLocals ret World_1 tables_1 room_1 Calls_1 rest_1 Pre_1 Post := by
  intro l hfl _ _ p e ha hc hk s m args below hf hA hF happ hP
  obtain ⟨hcalls, hrest, hpre⟩ := hP
  obtain ⟨-, -, -, hnamed, -, -, -, hat⟩ := (Spec.applies_iff hf).mp happ
  obtain ⟨hg, hn⟩ := and_e (Cond.before_iff.mp (show (Jvm.Cond.and given_1 narrow_1).before args s = true from hpre))
  obtain ⟨hcount, hg0⟩ := and_e hg
  obtain ⟨hk0, hg1⟩ := and_e hg0
  have hk1 := hg1
  obtain ⟨w0, w1, rfl⟩ : ∃ w0 w1 : Value, args = #[w0, w1] := by
    have hs : args.size = 2 := by simpa [Cond.value, given_1] using hcount
    obtain ⟨L⟩ := args
    match L, hs with
    | [w0, w1], _ => exact ⟨w0, w1, rfl⟩
  have hw := fun d (hd : d ∈ tables_1) => atoms_spec (ws := Jvm.Cond.code x code maxLocals ret :: tables_1) hat d (List.mem_cons_of_mem _ hd)
  have hfit : Fit s := fun {y c} hc i hi => by
    obtain ⟨ha, rfl⟩ := Array.getElem?_eq_some_iff.mp hc
    have q := List.all_eq_true.mp ((Array.all_eq_true_iff_forall_mem.mp hF) _ (Array.getElem_mem ha)) i (List.mem_range.mpr hi)
    simpa [Array.getElem?_eq_getElem hi] using q
  obtain ⟨i0, ei0⟩ := isL_v hk0
  obtain rfl : w0 = (.long i0) := Option.some.inj ei0
  obtain ⟨i1, ei1⟩ := is_v hk1
  obtain rfl : w1 = (.int i1) := Option.some.inj ei1
  obtain ⟨u1a, u1b⟩ := and_e hn
  obtain ⟨u2a, u2b⟩ := and_e u1b
  obtain ⟨u3a, u3b⟩ := and_e u2b
  obtain ⟨u4a, u4b⟩ := and_e u3b
  obtain ⟨u5a, u5b⟩ := and_e u4b
  obtain ⟨u6a, u6b⟩ := and_e u5b
  obtain ⟨u7a, u7b⟩ := and_e u6b
  obtain ⟨u8a, u8b⟩ := and_e u7b
  obtain ⟨u9a, u9b⟩ := and_e u8b
  obtain ⟨u10a, u10b⟩ := and_e u9b
  obtain ⟨u11a, u11b⟩ := and_e u10b
  obtain ⟨u12a, u12b⟩ := and_e u11b
  obtain ⟨u13a, u13b⟩ := and_e u12b
  obtain ⟨u14a, u14b⟩ := and_e u13b
  obtain ⟨u15a, u15b⟩ := and_e u14b
  obtain ⟨u16a, u16b⟩ := and_e u15b
  obtain ⟨u17a, u17b⟩ := and_e u16b
  obtain ⟨u18a, u18b⟩ := and_e u17b
  obtain ⟨u19a, u19b⟩ := and_e u18b
  obtain ⟨w_NONE, ev_NONE⟩ := exa_v u3a
  have S_NONE : Sta s s.heap "com/example/packframe/packframe/onebyte/Encoding" "NONE" "Lcom/example/packframe/packframe/onebyte/Encoding;" (.ref w_NONE) := Sta.start ev_NONE (Or.inr ⟨(hw _ (List.mem_of_getElem? (i := 2) rfl)), (hw _ (List.mem_of_getElem? (i := 6) rfl))⟩)
  have E_NONE : Exa s s.heap w_NONE "com/example/packframe/packframe/onebyte/Encoding" := Exa.start ev_NONE u3a
  obtain ⟨w_PROTOBUF, ev_PROTOBUF⟩ := exa_v u6a
  have S_PROTOBUF : Sta s s.heap "com/example/packframe/packframe/onebyte/Encoding" "PROTOBUF" "Lcom/example/packframe/packframe/onebyte/Encoding;" (.ref w_PROTOBUF) := Sta.start ev_PROTOBUF (Or.inr ⟨(hw _ (List.mem_of_getElem? (i := 2) rfl)), (hw _ (List.mem_of_getElem? (i := 9) rfl))⟩)
  have E_PROTOBUF : Exa s s.heap w_PROTOBUF "com/example/packframe/packframe/onebyte/Encoding" := Exa.start ev_PROTOBUF u6a
  obtain ⟨w_JSON, ev_JSON⟩ := exa_v u9a
  have S_JSON : Sta s s.heap "com/example/packframe/packframe/onebyte/Encoding" "JSON" "Lcom/example/packframe/packframe/onebyte/Encoding;" (.ref w_JSON) := Sta.start ev_JSON (Or.inr ⟨(hw _ (List.mem_of_getElem? (i := 2) rfl)), (hw _ (List.mem_of_getElem? (i := 10) rfl))⟩)
  have E_JSON : Exa s s.heap w_JSON "com/example/packframe/packframe/onebyte/Encoding" := Exa.start ev_JSON u9a
  obtain ⟨w_MSGPACK, ev_MSGPACK⟩ := exa_v u12a
  have S_MSGPACK : Sta s s.heap "com/example/packframe/packframe/onebyte/Encoding" "MSGPACK" "Lcom/example/packframe/packframe/onebyte/Encoding;" (.ref w_MSGPACK) := Sta.start ev_MSGPACK (Or.inr ⟨(hw _ (List.mem_of_getElem? (i := 2) rfl)), (hw _ (List.mem_of_getElem? (i := 11) rfl))⟩)
  have E_MSGPACK : Exa s s.heap w_MSGPACK "com/example/packframe/packframe/onebyte/Encoding" := Exa.start ev_MSGPACK u12a
  obtain ⟨w_BSON, ev_BSON⟩ := exa_v u15a
  have S_BSON : Sta s s.heap "com/example/packframe/packframe/onebyte/Encoding" "BSON" "Lcom/example/packframe/packframe/onebyte/Encoding;" (.ref w_BSON) := Sta.start ev_BSON (Or.inr ⟨(hw _ (List.mem_of_getElem? (i := 2) rfl)), (hw _ (List.mem_of_getElem? (i := 19) rfl))⟩)
  have E_BSON : Exa s s.heap w_BSON "com/example/packframe/packframe/onebyte/Encoding" := Exa.start ev_BSON u15a
  obtain ⟨w_RAW, ev_RAW⟩ := exa_v u18a
  have S_RAW : Sta s s.heap "com/example/packframe/packframe/onebyte/Encoding" "RAW" "Lcom/example/packframe/packframe/onebyte/Encoding;" (.ref w_RAW) := Sta.start ev_RAW (Or.inr ⟨(hw _ (List.mem_of_getElem? (i := 2) rfl)), (hw _ (List.mem_of_getElem? (i := 20) rfl))⟩)
  have E_RAW : Exa s s.heap w_RAW "com/example/packframe/packframe/onebyte/Encoding" := Exa.start ev_RAW u18a
  have F_code_NONE : Fld s s.heap w_NONE "com/example/packframe/packframe/onebyte/Encoding" "code" "I" (.int (0 : Int32)) := own_fld u5a ev_NONE
  have F_code_PROTOBUF : Fld s s.heap w_PROTOBUF "com/example/packframe/packframe/onebyte/Encoding" "code" "I" (.int (1 : Int32)) := own_fld u8a ev_PROTOBUF
  have F_code_JSON : Fld s s.heap w_JSON "com/example/packframe/packframe/onebyte/Encoding" "code" "I" (.int (2 : Int32)) := own_fld u11a ev_JSON
  have F_code_MSGPACK : Fld s s.heap w_MSGPACK "com/example/packframe/packframe/onebyte/Encoding" "code" "I" (.int (3 : Int32)) := own_fld u14a ev_MSGPACK
  have F_code_BSON : Fld s s.heap w_BSON "com/example/packframe/packframe/onebyte/Encoding" "code" "I" (.int (4 : Int32)) := own_fld u17a ev_BSON
  have F_code_RAW : Fld s s.heap w_RAW "com/example/packframe/packframe/onebyte/Encoding" "code" "I" (.int (5 : Int32)) := own_fld u19b ev_RAW
  obtain ⟨w_ENCODINGS, ev_ENCODINGS⟩ := arr_v u1a
  have S_ENCODINGS : Sta s s.heap "com/example/packframe/packframe/onebyte/Encoding" "ENCODINGS" "[Lcom/example/packframe/packframe/onebyte/Encoding;" (.ref w_ENCODINGS) := Sta.start ev_ENCODINGS (Or.inr ⟨(hw _ (List.mem_of_getElem? (i := 2) rfl)), (hw _ (List.mem_of_getElem? (i := 5) rfl))⟩)
  obtain ⟨cl_ENCODINGS, Ar_ENCODINGS⟩ := Arr.start ev_ENCODINGS u1a
  obtain ⟨hl_ENCODINGS, hk_ENCODINGS⟩ := own_len u2a ev_ENCODINGS (Arr.fin (Vm.Alike.refl _) Ar_ENCODINGS)
  have V_ENCODINGS : ∃ k, Arv s s.heap w_ENCODINGS k (.object "com/example/packframe/packframe/onebyte/Encoding") (6 : Int32) [(.ref w_NONE), (.ref w_PROTOBUF), (.ref w_JSON), (.ref w_MSGPACK), (.ref w_BSON), (.ref w_RAW)] .null := ⟨_, Arv.start hfit Ar_ENCODINGS hl_ENCODINGS hk_ENCODINGS (by decide) rfl ⟨(own_elem u4a ev_ENCODINGS ev_NONE Ar_ENCODINGS.1), (own_elem u7a ev_ENCODINGS ev_PROTOBUF Ar_ENCODINGS.1), (own_elem u10a ev_ENCODINGS ev_JSON Ar_ENCODINGS.1), (own_elem u13a ev_ENCODINGS ev_MSGPACK Ar_ENCODINGS.1), (own_elem u16a ev_ENCODINGS ev_BSON Ar_ENCODINGS.1), (own_elem u19a ev_ENCODINGS ev_RAW Ar_ENCODINGS.1), trivial⟩⟩
  obtain ⟨n, o, h1, h2, h3, _, L, rfl, ⟨rfl, N⟩, hq⟩ := rm0 l s _ hw tables_1 i0 i1 w_NONE w_PROTOBUF w_JSON w_MSGPACK w_BSON w_RAW w_ENCODINGS s.heap s.heap.size (Nat.le_refl _) S_NONE E_NONE F_code_NONE S_PROTOBUF E_PROTOBUF F_code_PROTOBUF S_JSON E_JSON F_code_JSON S_MSGPACK E_MSGPACK F_code_MSGPACK S_BSON E_BSON F_code_BSON S_RAW E_RAW F_code_RAW S_ENCODINGS V_ENCODINGS p e ha hc hk s m _ below hf ((Spec.applies_iff_loose hf).mp happ).1 ⟨rfl, State.Warmed39.refl s, rfl⟩ trivial
  refine ⟨n, _, h1, h2, h3, hpost _ _ _ _ _ _ ⟨Cond.after_iff.mpr rfl, Cond.after_iff.mpr (eq_i res_at (Term.int_eval (1)) rfl), trivial⟩ ⟨hq.1, hq.2.1, (hq.2.2.sift fun y hy => Or.inr (N y hy)).mono (by decide) (by decide)⟩⟩
theorem main_1_1 : Claimed_1_1 := comes_1 fun _ _ _ _ _ _ h hF => ⟨h.1, hF⟩
theorem main_1_2 : Claimed_1_2 := comes_1 fun _ _ _ _ _ _ h hF => ⟨h.2.1, hF⟩
end Jvm.Pilot.@@N@@
namespace Jvm.Pilot.@@N@@
open Jvm Jvm.ClassFile Sem Op Lib Jvm.Free Jvm.Stand Jvm.Pilot.@@N@@.Jvm.D
/-! MADE BY PROGRAM (witnessworld.py) out of the Statement's table words and the real class files: 13 classes; the members and pool entries that the words name. The judged class is class 1, her method 2. -/
namespace start1
open Jvm.ClassFile
def u (s : String) : CpInfo := .utf8 (stringToUtf16 s)
/-- a pool by its gaps: so many unusable entries, then the entry; so many at the end -/
def gap : Nat → List CpInfo → List CpInfo
  | 0, r => r
  | n + 1, r => .unusable :: gap n r
def poolList (es : List (Nat × CpInfo)) (last : Nat) : List CpInfo := es.foldr (fun e r => gap e.1 (e.2 :: r)) (gap last [])
def pool (es : List (Nat × CpInfo)) (last : Nat) : Array CpInfo := ⟨poolList es last⟩
def fileOf (pool : Array CpInfo) (this : Nat) (attrs : Array Attribute := #[]) (ms : Array MethodInfo := #[]) (fl : Nat := 33) (sup : Nat := 0) (ifs : Array Nat := #[]) (fds : Array FieldInfo := #[]) : ClassFile where
  minorVersion := 0
  majorVersion := 65
  constantPool := pool
  accessFlags := fl
  thisClass := this
  superClass := sup
  interfaces := ifs
  fields := fds
  methods := ms
  attributes := attrs
def plain (name : String) (sup : Option ClassId) : Class where
  name := name
  kind := .ordinary
  loader := none
  accessFlags := 33
  super := sup
  interfaces := #[]
  cf := none
  fields := #[]
  methods := #[]
  instanceTypes := #[]
  staticTypes := #[]
  resolved := #[]
  callSites := []
  init := .initialized
  statics := none
  mirror := none

def pool0 : Array CpInfo := pool [(5, u "<init>"), (0, u "()V"), (1, .class_ 10), (1, u "java/lang/Object")] 113

def k0m0 : Method := { name := "<init>", desc := "()V", sig := { parameters := [], returnType := none }, accessFlags := 1, code := none }
/-- java/lang/Object -/
def k0 : Class := { plain "java/lang/Object" none with
  accessFlags := 33
  interfaces := #[]
  cf := some (fileOf pool0 8 #[] #[{ accessFlags := 1, nameIndex := 5, descriptorIndex := 6, attributes := #[] }] 33 0 #[] #[])
  fields := #[]
  methods := #[k0m0]
  instanceTypes := #[]
  staticTypes := #[]
  resolved := Array.replicate 124 none
  statics := none }

def pool1 : Array CpInfo := pool [(2, .class_ 4), (1, u "java/lang/Object"), (0, u "<init>"), (0, u "()V"), (0, .fieldref 8 9), (0, .class_ 10), (0, .nameAndType 11 12), (0, u "com/example/packframe/packframe/onebyte/Encoding"), (0, u "NONE"), (0, u "Lcom/example/packframe/packframe/onebyte/Encoding;"), (0, .fieldref 8 14), (0, .nameAndType 15 12), (0, u "PROTOBUF"), (0, .long 2), (1, .fieldref 8 19), (0, .nameAndType 20 12), (0, u "JSON"), (0, .long 3), (1, .fieldref 8 24), (0, .nameAndType 25 12), (0, u "MSGPACK"), (0, .long 4), (1, .fieldref 8 29), (0, .nameAndType 30 12), (0, u "BSON"), (0, .long 5), (1, .fieldref 8 34), (0, .nameAndType 35 12), (0, u "RAW"), (0, .methodref 8 37), (0, .nameAndType 38 39), (0, u "ofCode"), (0, u "(J)Lcom/example/packframe/packframe/onebyte/Encoding;"), (0, .methodref 41 42), (0, .class_ 43), (0, .nameAndType 44 39), (0, u "com/example/packframe/packframe/onebyte/EncodingOfCodePinLaw"), (0, u "expected"), (3, u "law"), (0, u "(JI)Z")] 2

def k1m0 : Method := { name := "<init>", desc := "()V", sig := { parameters := [], returnType := none }, accessFlags := 1, code := none }
def k1c1 : Code := { maxStack := 4, maxLocals := 2, code := method_2_code, exceptionTable := #[], attributes := #[] }
def k1m1 : Method := { name := "expected", desc := "(J)Lcom/example/packframe/packframe/onebyte/Encoding;", sig := { parameters := [.long], returnType := some (.object "com/example/packframe/packframe/onebyte/Encoding") }, accessFlags := 10, code := some k1c1 }
def k1c2 : Code := { maxStack := 5, maxLocals := 10, code := code, exceptionTable := #[], attributes := #[] }
def k1m2 : Method := { name := "law", desc := "(JI)Z", sig := { parameters := [.long, .int], returnType := some .boolean }, accessFlags := 9, code := some k1c2 }
/-- com/example/packframe/packframe/onebyte/EncodingOfCodePinLaw -/
def k1 : Class := { plain "com/example/packframe/packframe/onebyte/EncodingOfCodePinLaw" (some 0) with
  accessFlags := 49
  interfaces := #[]
  cf := some (fileOf pool1 41 #[] #[{ accessFlags := 1, nameIndex := 5, descriptorIndex := 6, attributes := #[] }, { accessFlags := 10, nameIndex := 44, descriptorIndex := 39, attributes := #[] }, { accessFlags := 9, nameIndex := 48, descriptorIndex := 49, attributes := #[] }] 49 2 #[] #[])
  fields := #[]
  methods := #[k1m0, k1m1, k1m2]
  instanceTypes := #[]
  staticTypes := #[]
  resolved := Array.replicate 52 none
  statics := none }

def pool2 : Array CpInfo := pool [(1, .class_ 2), (0, u "java/lang/constant/Constable"), (0, .class_ 4), (0, u "java/lang/Object")] 6

/-- java/lang/constant/Constable -/
def k2 : Class := { plain "java/lang/constant/Constable" (some 0) with
  accessFlags := 1537
  interfaces := #[]
  cf := some (fileOf pool2 1 #[] #[] 1537 3 #[] #[])
  fields := #[]
  methods := #[]
  instanceTypes := #[]
  staticTypes := #[]
  resolved := Array.replicate 11 none
  statics := none }

def pool3 : Array CpInfo := pool [(1, .class_ 2), (0, u "java/lang/Comparable"), (0, .class_ 4), (0, u "java/lang/Object")] 7

/-- java/lang/Comparable -/
def k3 : Class := { plain "java/lang/Comparable" (some 0) with
  accessFlags := 1537
  interfaces := #[]
  cf := some (fileOf pool3 1 #[] #[] 1537 3 #[] #[])
  fields := #[]
  methods := #[]
  instanceTypes := #[]
  staticTypes := #[]
  resolved := Array.replicate 12 none
  statics := none }

def pool4 : Array CpInfo := pool [(1, .class_ 2), (0, u "java/io/Serializable"), (0, .class_ 4), (0, u "java/lang/Object")] 2

/-- java/io/Serializable -/
def k4 : Class := { plain "java/io/Serializable" (some 0) with
  accessFlags := 1537
  interfaces := #[]
  cf := some (fileOf pool4 1 #[] #[] 1537 3 #[] #[])
  fields := #[]
  methods := #[]
  instanceTypes := #[]
  staticTypes := #[]
  resolved := Array.replicate 7 none
  statics := none }

def pool5 : Array CpInfo := pool [(2, .class_ 4), (1, u "java/lang/Enum"), (0, u "name"), (0, u "Ljava/lang/String;"), (2, u "ordinal"), (0, u "I"), (1, .class_ 14), (1, u "java/lang/Object"), (4, u "hash"), (86, .class_ 108), (1, u "java/lang/Enum$EnumDesc"), (2, .class_ 112), (0, u "java/lang/constant/Constable"), (0, .class_ 114), (0, u "java/lang/Comparable"), (0, .class_ 116), (0, u "java/io/Serializable")] 87

/-- java/lang/Enum -/
def k5 : Class := { plain "java/lang/Enum" (some 0) with
  accessFlags := 1057
  interfaces := #[2, 3, 4]
  cf := some (fileOf pool5 2 #[.nestMembers #[106]] #[] 1057 12 #[111, 113, 115] #[{ accessFlags := 18, nameIndex := 5, descriptorIndex := 6, attributes := #[] }, { accessFlags := 18, nameIndex := 9, descriptorIndex := 10, attributes := #[] }, { accessFlags := 2, nameIndex := 19, descriptorIndex := 10, attributes := #[] }])
  fields := #[{ name := "name", type := (.object "java/lang/String"), accessFlags := 18, slot := 0, constantValue := 0 }, { name := "ordinal", type := .int, accessFlags := 18, slot := 1, constantValue := 0 }, { name := "hash", type := .int, accessFlags := 2, slot := 2, constantValue := 0 }]
  methods := #[]
  instanceTypes := #[(.object "java/lang/String"), .int, .int]
  staticTypes := #[]
  resolved := Array.replicate 204 none
  statics := none }

def pool6 : Array CpInfo := pool [(1, .class_ 2), (0, u "com/example/packframe/packframe/onebyte/Encoding"), (2, u "NONE"), (0, u "Lcom/example/packframe/packframe/onebyte/Encoding;"), (2, u "PROTOBUF"), (2, u "JSON"), (2, u "MSGPACK"), (2, u "BSON"), (2, u "RAW"), (2, u "$VALUES"), (0, u "[Lcom/example/packframe/packframe/onebyte/Encoding;"), (6, .class_ 34), (1, u "java/lang/Enum"), (6, .fieldref 1 42), (0, .nameAndType 43 44), (0, u "code"), (0, u "I"), (0, .fieldref 1 46), (0, .nameAndType 47 25), (0, u "ENCODINGS"), (26, u "ofCode"), (0, u "(J)Lcom/example/packframe/packframe/onebyte/Encoding;")] 5

def k6c0 : Code := { maxStack := 4, maxLocals := 6, code := prog_19_method_6_code, exceptionTable := #[], attributes := #[] }
def k6m0 : Method := { name := "ofCode", desc := "(J)Lcom/example/packframe/packframe/onebyte/Encoding;", sig := { parameters := [.long], returnType := some (.object "com/example/packframe/packframe/onebyte/Encoding") }, accessFlags := 9, code := some k6c0 }
/-- com/example/packframe/packframe/onebyte/Encoding -/
def k6 : Class := { plain "com/example/packframe/packframe/onebyte/Encoding" (some 5) with
  accessFlags := 16433
  interfaces := #[]
  cf := some (fileOf pool6 1 #[] #[{ accessFlags := 9, nameIndex := 74, descriptorIndex := 75, attributes := #[] }] 16433 32 #[] #[{ accessFlags := 16409, nameIndex := 5, descriptorIndex := 6, attributes := #[] }, { accessFlags := 16409, nameIndex := 9, descriptorIndex := 6, attributes := #[] }, { accessFlags := 16409, nameIndex := 12, descriptorIndex := 6, attributes := #[] }, { accessFlags := 16409, nameIndex := 15, descriptorIndex := 6, attributes := #[] }, { accessFlags := 16409, nameIndex := 18, descriptorIndex := 6, attributes := #[] }, { accessFlags := 16409, nameIndex := 21, descriptorIndex := 6, attributes := #[] }, { accessFlags := 26, nameIndex := 47, descriptorIndex := 25, attributes := #[] }, { accessFlags := 18, nameIndex := 43, descriptorIndex := 44, attributes := #[] }, { accessFlags := 4122, nameIndex := 24, descriptorIndex := 25, attributes := #[] }])
  fields := #[{ name := "NONE", type := (.object "com/example/packframe/packframe/onebyte/Encoding"), accessFlags := 16409, slot := 0, constantValue := 0 }, { name := "PROTOBUF", type := (.object "com/example/packframe/packframe/onebyte/Encoding"), accessFlags := 16409, slot := 1, constantValue := 0 }, { name := "JSON", type := (.object "com/example/packframe/packframe/onebyte/Encoding"), accessFlags := 16409, slot := 2, constantValue := 0 }, { name := "MSGPACK", type := (.object "com/example/packframe/packframe/onebyte/Encoding"), accessFlags := 16409, slot := 3, constantValue := 0 }, { name := "BSON", type := (.object "com/example/packframe/packframe/onebyte/Encoding"), accessFlags := 16409, slot := 4, constantValue := 0 }, { name := "RAW", type := (.object "com/example/packframe/packframe/onebyte/Encoding"), accessFlags := 16409, slot := 5, constantValue := 0 }, { name := "ENCODINGS", type := (.array (.object "com/example/packframe/packframe/onebyte/Encoding")), accessFlags := 26, slot := 6, constantValue := 0 }, { name := "code", type := .int, accessFlags := 18, slot := 3, constantValue := 0 }, { name := "$VALUES", type := (.array (.object "com/example/packframe/packframe/onebyte/Encoding")), accessFlags := 4122, slot := 7, constantValue := 0 }]
  methods := #[k6m0]
  instanceTypes := #[(.object "java/lang/String"), .int, .int, .int]
  staticTypes := #[(.object "com/example/packframe/packframe/onebyte/Encoding"), (.object "com/example/packframe/packframe/onebyte/Encoding"), (.object "com/example/packframe/packframe/onebyte/Encoding"), (.object "com/example/packframe/packframe/onebyte/Encoding"), (.object "com/example/packframe/packframe/onebyte/Encoding"), (.object "com/example/packframe/packframe/onebyte/Encoding"), (.array (.object "com/example/packframe/packframe/onebyte/Encoding")), (.array (.object "com/example/packframe/packframe/onebyte/Encoding"))]
  resolved := Array.replicate 81 none
  statics := some 0 }

def pool7 : Array CpInfo := pool [(1, u "java/lang/Cloneable"), (0, .class_ 1), (0, u "java/lang/Object"), (0, .class_ 3)] 3

/-- java/lang/Cloneable -/
def k7 : Class := { plain "java/lang/Cloneable" (some 0) with
  accessFlags := 1537
  interfaces := #[]
  cf := some (fileOf pool7 2 #[] #[] 1537 4 #[] #[])
  fields := #[]
  methods := #[]
  instanceTypes := #[]
  staticTypes := #[]
  resolved := Array.replicate 8 none
  statics := none }

/-- the primitive byte -/
def k8 : Class := { plain "byte" none with kind := .primitive 'B', accessFlags := 0x411 }
/-- [B -/
def k9 : Class := { plain "[B" (some 0) with kind := .array 8 .byte, interfaces := #[7, 4], accessFlags := 1041 }

/-- the primitive int -/
def k10 : Class := { plain "int" none with kind := .primitive 'I', accessFlags := 0x411 }
/-- [I -/
def k11 : Class := { plain "[I" (some 0) with kind := .array 10 .int, interfaces := #[7, 4], accessFlags := 1041 }

/-- [Lcom/example/packframe/packframe/onebyte/Encoding; -/
def k12 : Class := { plain "[Lcom/example/packframe/packframe/onebyte/Encoding;" (some 0) with kind := .array 6 (.object "com/example/packframe/packframe/onebyte/Encoding"), interfaces := #[7, 4], accessFlags := 1041 }

def heap : Heap := #[{ cls := 6, slots := #[.ref 2, .ref 3, .ref 4, .ref 5, .ref 6, .ref 7, .ref 1, .null], vm := .statics 6 },
  { cls := 12, slots := #[.ref 2, .ref 3, .ref 4, .ref 5, .ref 6, .ref 7], vm := .none },
  { cls := 6, slots := #[.null, .int 0, .int 0, .int 0], vm := .none },
  { cls := 6, slots := #[.null, .int 0, .int 0, .int 1], vm := .none },
  { cls := 6, slots := #[.null, .int 0, .int 0, .int 2], vm := .none },
  { cls := 6, slots := #[.null, .int 0, .int 0, .int 3], vm := .none },
  { cls := 6, slots := #[.null, .int 0, .int 0, .int 4], vm := .none },
  { cls := 6, slots := #[.null, .int 0, .int 0, .int 5], vm := .none }]
def classes : Array Class := #[k0, k1, k2, k3, k4, k5, k6, k7, k8, k9, k10, k11, k12]
def interned : List (Array UInt16 × Addr) := []
def slotsUsed : Nat := 38
def theMethod : MethodId := ⟨1, 2⟩
def args0 : Array Value := #[.long 5, .int 5]
def aboutOver (below : List Frame) : State where
  vm := { classes := classes, interned := interned.toArray }
  heap := heap
  slotsUsed := slotsUsed
  threads := #[{ frames := .invoking theMethod args0 :: below }]
def below0 : List Frame := [.native { method := ⟨0, 0⟩, args := #[] }]
def about1 : State := aboutOver below0
def p0 : Program := .bare "" "" ""
def e0 : Env := launch0.env 0 0 0
theorem w_frames : about1.frames = Frame.invoking theMethod args0 :: below0 := rfl
set_option maxRecDepth 65536 in
theorem w_args : argsFit about1.vm theMethod args0 = true := by decide +kernel
set_option maxRecDepth 65536 in
theorem w_heap : heapFits about1 = true := by decide +kernel
set_option maxRecDepth 65536 in
theorem w_runnable : about1.curStatus? = some .runnable := by decide +kernel
set_option maxRecDepth 65536 in
theorem w_alone : about1.alone = true := by decide +kernel
set_option maxRecDepth 65536 in
theorem w_named : about1.methodNamed? x = some theMethod := by decide +kernel
set_option maxRecDepth 65536 in
theorem w_hears : about1.hears theMethod below0 = true := by decide +kernel
set_option maxRecDepth 65536 in
theorem w_ripe : about1.ripe theMethod args0 below0 = true := by decide +kernel
theorem w_running : about1.status = .running := rfl
set_option maxRecDepth 65536 in
theorem w_room : about1.hasRoom e0.platform room_1 = true :=
  launch0.hasRoom_least _ room_1 (by decide +kernel) (by decide +kernel) (by decide +kernel) (by decide +kernel) (by decide +kernel) (by decide +kernel)
theorem allAtoms_all (ts : List Jvm.Cond) (a : Array Jvm.Value) (st : Jvm.State) : (allAtoms ts).before a st = ts.all (fun c => c.before a st) := by
  induction ts with
  | nil => rfl
  | cons c t ih =>
    show (Jvm.Cond.and c (allAtoms t)).before a st = _
    rw [Jvm.Cond.before_and, ih, List.all_cons]
def words1 : List Jvm.Cond := Jvm.Cond.code x code maxLocals ret :: tables_1
/-- a 'code' word, met by the world's own term for the bytes: nothing is compared byte by byte -/
theorem code_word {y : MethodName} {bytes : ByteArray} {mx : Nat} {rt : Option FieldType} {a : Array Value} {s : State} {m : MethodId} {meth : Method} {c : Code} (h1 : s.methodNamed? y = some m) (h2 : s.vm.method? m = some meth) (h3 : meth.code = some c) (h4 : c.code = bytes)
    (h5 : (c.maxLocals == mx && c.exceptionTable.isEmpty && decide (c.maxStack ≤ mostOperands) && decide (meth.sig.returnType = rt) && !meth.locks && decide (parseMethodDescriptor y.desc = some meth.sig)) = true) : (Jvm.Cond.code y bytes mx rt).before a s = true := by
  simp only [Bool.and_eq_true, beq_iff_eq, Bool.not_eq_true', decide_eq_true_eq] at h5
  obtain ⟨⟨⟨⟨⟨g1, g2⟩, g3⟩, g4⟩, g5⟩, g6⟩ := h5
  simp [Cond.before, Cond.holds, Cond.value, h1, h2, h3, h4, g1, g2, g3, g4, g5, g6]
def isCode : Jvm.Cond → Bool
  | .code _ _ _ _ => true
  | _ => false
theorem all_split {L : List Jvm.Cond} {P : Jvm.Cond → Bool} (h1 : L.all (fun c => isCode c || P c) = true) (h2 : ∀ c ∈ L.filter isCode, P c = true) : L.all P = true := by
  refine List.all_eq_true.mpr fun c hc => ?_
  have h := List.all_eq_true.mp h1 c hc
  rcases Bool.eq_false_or_eq_true (isCode c) with hi | hi
  · exact h2 c (List.mem_filter.mpr ⟨hc, hi⟩)
  · simpa [hi] using h
set_option maxRecDepth 65536 in
theorem w_c0 : (Jvm.Cond.code x code maxLocals ret).before args0 about1 = true := code_word (m := ⟨1, 2⟩) (meth := k1m2) (c := k1c2) (by decide +kernel) rfl rfl rfl (by decide +kernel)
set_option maxRecDepth 65536 in
theorem w_c1 : (Jvm.Cond.code ({ cls := "com/example/packframe/packframe/onebyte/Encoding", name := "ofCode", desc := "(J)Lcom/example/packframe/packframe/onebyte/Encoding;" } : Jvm.MethodName) prog_19_method_6_code (6 : Nat) (Option.some (Jvm.ClassFile.FieldType.object "com/example/packframe/packframe/onebyte/Encoding"))).before args0 about1 = true := code_word (m := ⟨6, 0⟩) (meth := k6m0) (c := k6c0) (by decide +kernel) rfl rfl rfl (by decide +kernel)
set_option maxRecDepth 65536 in
theorem w_c2 : (Jvm.Cond.code ({ cls := "com/example/packframe/packframe/onebyte/EncodingOfCodePinLaw", name := "expected", desc := "(J)Lcom/example/packframe/packframe/onebyte/Encoding;" } : Jvm.MethodName) method_2_code (2 : Nat) (Option.some (Jvm.ClassFile.FieldType.object "com/example/packframe/packframe/onebyte/Encoding"))).before args0 about1 = true := code_word (m := ⟨1, 1⟩) (meth := k1m1) (c := k1c1) (by decide +kernel) rfl rfl rfl (by decide +kernel)
def codes1 : List Jvm.Cond := [Jvm.Cond.code x code maxLocals ret, Jvm.Cond.code ({ cls := "com/example/packframe/packframe/onebyte/Encoding", name := "ofCode", desc := "(J)Lcom/example/packframe/packframe/onebyte/Encoding;" } : Jvm.MethodName) prog_19_method_6_code (6 : Nat) (Option.some (Jvm.ClassFile.FieldType.object "com/example/packframe/packframe/onebyte/Encoding")), Jvm.Cond.code ({ cls := "com/example/packframe/packframe/onebyte/EncodingOfCodePinLaw", name := "expected", desc := "(J)Lcom/example/packframe/packframe/onebyte/Encoding;" } : Jvm.MethodName) method_2_code (2 : Nat) (Option.some (Jvm.ClassFile.FieldType.object "com/example/packframe/packframe/onebyte/Encoding"))]
set_option maxRecDepth 65536 in
theorem codes_eq : words1.filter isCode = codes1 := rfl
theorem w_codes : ∀ c ∈ words1.filter isCode, c.before args0 about1 = true := by
  rw [codes_eq]
  intro c hc
  simp only [codes1, List.mem_cons, List.not_mem_nil, or_false] at hc
  rcases hc with rfl | rfl | rfl
  · exact w_c0
  · exact w_c1
  · exact w_c2
set_option maxRecDepth 65536 in
theorem w_t1 : (words1.take 24).all (fun c => isCode c || c.before args0 about1) = true := by decide +kernel
set_option maxRecDepth 65536 in
theorem w_t2 : (words1.drop 24).all (fun c => isCode c || c.before args0 about1) = true := by decide +kernel
theorem w_tables : (allAtoms (Jvm.Cond.code x code maxLocals ret :: tables_1)).before args0 about1 = true := by
  rw [allAtoms_all]
  show words1.all (fun c => c.before args0 about1) = true
  refine all_split ?_ w_codes
  rw [← List.take_append_drop 24 words1, List.all_append, w_t1, w_t2]
  rfl
set_option maxRecDepth 65536 in
theorem w_case : (Jvm.Cond.and given_1 narrow_1).before args0 about1 = true := by decide +kernel
theorem w_applies : (headSpec (Jvm.Cond.code x code maxLocals ret :: tables_1) room_1).applies x e0.platform about1 = true :=
  (Spec.applies_iff w_frames).mpr ⟨w_running, w_runnable, w_alone, w_named, w_hears, w_ripe, w_room, w_tables⟩
theorem atStart : AtStart classFile x code maxLocals ret World_1 tables_1 room_1 Calls_1 rest_1 Pre_1 launch0 p0 e0 about1 theMethod args0 below0 :=
  ⟨lists_1, trivial, launch0.admits_env _ _ _, launch0.least_env, fairChoices_fair.cas, fairChoices_fair.clock, w_frames, w_args, w_heap, w_applies, trivial, trivial, w_case⟩
end start1
theorem witness_1 : WitnessClaimed_1 := ⟨start1.p0, start1.e0, start1.about1, start1.theMethod, start1.args0, start1.below0, start1.atStart⟩
end Jvm.Pilot.@@N@@
