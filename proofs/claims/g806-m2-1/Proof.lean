import JvmDerived
import JvmDerived.Pilot.@@N@@Statement
import JvmDerived.Pilot.@@N@@Code
set_option linter.unusedVariables false
set_option linter.unusedSimpArgs false
@@BLOCK:NumsL.lean.txt@@
namespace Jvm.OwnW
open Sem ClassFile Op Lib Jvm.Stand Jvm.Free Jvm.LawKit Jvm.RoadKit
section Own
variable {p : Program} {l : Launch} {e : Env} {R : Room} {s : State} {m : MethodId} {args : Array Value} {below : List Frame} {meth : Method} {c : Code} {T : State} {locs : List Loc} {cells slots : Nat} {K N : Nat} {Q : Option Value → Heap → List Loc → Prop}
/-- from U the run comes to the method's end, and what it leaves there is Q -/
def OwnEnds (tb : Tables) (e : Env) (below : List Frame) (s : State) (K N : Nat) (Q : Option Value → Heap → List Loc → Prop) (U : State) : Prop :=
  ∃ s₂ o, Steps tb e below U s₂ ∧ s₂.status = .running ∧ Ended s₂ below o ∧ ∃ v L, o = .returned v ∧ Q v s₂.heap L ∧ FrameEnd s o s₂ L K N
theorem ogo {tb : Tables} {U U' : State} (st : ∀ t, Steps tb e below U' t → Steps tb e below U t) (h : OwnEnds tb e below s K N Q U') : OwnEnds tb e below s K N Q U := by
  obtain ⟨s₂, o, h1, h2⟩ := h
  exact ⟨s₂, o, st _ h1, h2⟩
theorem endR (X : Stand p l e R s m args below meth c T locs cells slots) (hx : p.tables.exec = Jvm.exec) (hlk : meth.locks = false) {pc : Nat} {Ls : Array Slot} {w : Value} {t : FieldType} {i : Instr} {rest : List Value} (hret : meth.sig.returnType = some t) (hn : narrow t w = w)
    (hi : (i = .ireturn ∧ (t = .int ∨ t = .boolean ∨ t = .byte ∨ t = .char ∨ t = .short) ∧ ∃ z, w = .int z) ∨ (i = .lreturn ∧ t = .long ∧ ∃ z, w = .long z) ∨ (i = .dreturn ∧ t = .double ∧ ∃ z, w = .double z) ∨ (i = .freturn ∧ t = .float ∧ ∃ z, w = .float z) ∨ (i = .areturn ∧ t.isReference = true ∧ w.isRef = true))
    (hd : decode c.code pc = .ok (i, 1)) (hK : cells ≤ K) (hN : slots ≤ N) (hQ : Q (some w) T.heap locs) : OwnEnds p.tables e below s K N Q (T.setTop (mkF m pc Ls (w :: rest))) := by
  obtain ⟨fs, hr, hrun, hended, hW, hsame⟩ := X.leave (v := some w) (fun h => by rw [hret] at h; cases h) hlk
  exact ⟨_, _, retOut X hx hret hn hi hd hr, hrun, hended, _, _, rfl, hQ, ⟨_, rfl⟩, hW, hsame.mono hK hN⟩
theorem endI (X : Stand p l e R s m args below meth c T locs cells slots) (hx : p.tables.exec = Jvm.exec) (hlk : meth.locks = false) {pc : Nat} {Ls : Array Slot} {z : Int32} {rest : List Value} (hret : meth.sig.returnType = some .int)
    (hd : decode c.code pc = .ok (.ireturn, 1)) (hK : cells ≤ K) (hN : slots ≤ N) (hQ : Q (some (.int z)) T.heap locs) : OwnEnds p.tables e below s K N Q (T.setTop (mkF m pc Ls (.int z :: rest))) :=
  endR X hx hlk hret rfl (Or.inl ⟨rfl, Or.inl rfl, z, rfl⟩) hd hK hN hQ
theorem endZ (X : Stand p l e R s m args below meth c T locs cells slots) (hx : p.tables.exec = Jvm.exec) (hlk : meth.locks = false) {pc : Nat} {Ls : Array Slot} {z : Int32} {rest : List Value} (hret : meth.sig.returnType = some .boolean) (hn : narrow .boolean (.int z) = .int z)
    (hd : decode c.code pc = .ok (.ireturn, 1)) (hK : cells ≤ K) (hN : slots ≤ N) (hQ : Q (some (.int z)) T.heap locs) : OwnEnds p.tables e below s K N Q (T.setTop (mkF m pc Ls (.int z :: rest))) :=
  endR X hx hlk hret hn (Or.inl ⟨rfl, Or.inr (Or.inl rfl), z, rfl⟩) hd hK hN hQ
theorem endJ (X : Stand p l e R s m args below meth c T locs cells slots) (hx : p.tables.exec = Jvm.exec) (hlk : meth.locks = false) {pc : Nat} {Ls : Array Slot} {z : Int64} {rest : List Value} (hret : meth.sig.returnType = some .long)
    (hd : decode c.code pc = .ok (.lreturn, 1)) (hK : cells ≤ K) (hN : slots ≤ N) (hQ : Q (some (.long z)) T.heap locs) : OwnEnds p.tables e below s K N Q (T.setTop (mkF m pc Ls (.long z :: rest))) :=
  endR X hx hlk hret rfl (Or.inr (Or.inl ⟨rfl, rfl, z, rfl⟩)) hd hK hN hQ
theorem endA (X : Stand p l e R s m args below meth c T locs cells slots) (hx : p.tables.exec = Jvm.exec) (hlk : meth.locks = false) {pc : Nat} {Ls : Array Slot} {w : Value} {t : FieldType} {rest : List Value} (hret : meth.sig.returnType = some t) (ht : t.isReference = true) (hw : w.isRef = true)
    (hd : decode c.code pc = .ok (.areturn, 1)) (hK : cells ≤ K) (hN : slots ≤ N) (hQ : Q (some w) T.heap locs) : OwnEnds p.tables e below s K N Q (T.setTop (mkF m pc Ls (w :: rest))) :=
  endR X hx hlk hret (by rcases ref_cases hw with rfl | ⟨a, rfl⟩ <;> cases t <;> simp_all [narrow, FieldType.isReference]) (Or.inr (Or.inr (Or.inr (Or.inr ⟨rfl, ht, hw⟩)))) hd hK hN hQ
theorem endV (X : Stand p l e R s m args below meth c T locs cells slots) (hx : p.tables.exec = Jvm.exec) (hlk : meth.locks = false) {pc : Nat} {Ls : Array Slot} (hret : meth.sig.returnType = none)
    (hd : decode c.code pc = .ok (.return_, 1)) (hK : cells ≤ K) (hN : slots ≤ N) (hQ : Q none T.heap locs) : OwnEnds p.tables e below s K N Q (T.setTop (mkF m pc Ls [])) := by
  obtain ⟨fs, hr, hrun, hended, hW, hsame⟩ := X.leave (v := none) (fun _ => rfl) hlk
  exact ⟨_, _, X.returnOut hx hret hd hr, hrun, hended, _, _, rfl, hQ, ⟨_, rfl⟩, hW, hsame.mono hK hN⟩
end Own
end Jvm.OwnW
namespace Jvm.Pilot.@@N@@
open Jvm Jvm.ClassFile Sem Op Lib Jvm.Free Jvm.Stand Jvm.LawKit Jvm.RoadKit Jvm.OwnW Bundle Jvm.Pilot.@@N@@.Jvm.D
theorem own_cat {v : Value} (h : v.isRef = true) : v.category = 1 := by rcases ref_cases h with rfl | ⟨a, rfl⟩ <;> rfl
theorem own_ite {q : Prop} [Decidable q] {a b : Value} (ha : a.isRef = true) (hb : b.isRef = true) : (if q then a else b).isRef = true := by split <;> assumption
theorem own_fld {args : Array Value} {s : State} {t : Term} {C n d : String} {k : Int32} {a : Addr} (h : (Cond.eq (.field t C n d) (.int k)).value args s none s [] = some true) (ev : t.eval args s none [] s = some (.ref a)) : Fld s s.heap a C n d (.int k) := by
  obtain ⟨x, y, e1, e2, -, -⟩ := cmp_v (Or.inl h)
  have e3 : y = .int k := (Option.some.inj (e2.symm.trans (Term.int_eval k)))
  subst e3
  have e4 : s.fieldOf? a C n d = some x := by simpa [Term.eval, ev] using e1
  cases x <;> simp [Cond.value, e1, e2] at h
  subst h
  exact Fld.start e4
theorem own_len {args : Array Value} {s : State} {t : Term} {k : Int32} {a : Addr} {cl : Cell} (h : (Cond.eq (.length t) (.int k)).value args s none s [] = some true) (ev : t.eval args s none [] s = some (.ref a)) (hc : s.arrayAt? a = some cl) : cl.slots.size < 2 ^ 31 ∧ cl.slots.size.toInt32 = k := by
  obtain ⟨x, y, e1, e2, -, -⟩ := cmp_v (Or.inl h)
  have e3 : y = .int k := Option.some.inj (e2.symm.trans (Term.int_eval k))
  subst e3
  by_cases hl : cl.slots.size < 2 ^ 31
  · have e4 := len_f (args := args) (first := s) (o := none) (idx := []) ev hc hl
    refine ⟨hl, ?_⟩
    have e5 : x = .int cl.slots.size.toInt32 := Option.some.inj (e1.symm.trans e4)
    subst e5
    simpa [Cond.value, e1, e2] using h
  · exfalso
    simp [Term.eval, ev, hc, hl] at e1
theorem own_elem {args : Array Value} {s : State} {t u : Term} {j : Int32} {a b : Addr} {cl : Cell} (h : (Cond.eq (.elem t (.int j)) u).value args s none s [] = some true) (ev : t.eval args s none [] s = some (.ref a)) (evu : u.eval args s none [] s = some (.ref b)) (hc : s.heap[a]? = some cl) : cl.slots[j.toNatClampNeg]? = some (.ref b) := by
  obtain ⟨x, y, e1, e2, -, -⟩ := cmp_v (Or.inl h)
  cases e2.symm.trans evu
  obtain ⟨-, q⟩ := elem_in e1 ev (Term.int_eval j) hc
  rw [q]
  cases x <;> simp [Cond.value, e1, e2] at h ⊢
  exact h

def own_of (q : Int64) (w_PING w_REQUEST w_NOTIFY w_RESPONSE : Addr) : Value := if q = 0 then .ref w_PING else if q = 1 then .ref w_REQUEST else if q = 2 then .ref w_NOTIFY else if q = 3 then .ref w_RESPONSE else .null
theorem own_of_ref (q : Int64) (w_PING w_REQUEST w_NOTIFY w_RESPONSE : Addr) : (own_of q w_PING w_REQUEST w_NOTIFY w_RESPONSE).isRef = true := by
  unfold own_of
  exact own_ite rfl (own_ite rfl (own_ite rfl (own_ite rfl (rfl))))
theorem d1_0 : decode prog_21_method_8_code 0 = .ok (.getstatic 49, 3) := by decide +kernel
theorem d1_3 : decode prog_21_method_8_code 3 = .ok (.astore_n 2, 1) := by decide +kernel
theorem d1_4 : decode prog_21_method_8_code 4 = .ok (.aload_n 2, 1) := by decide +kernel
theorem d1_5 : decode prog_21_method_8_code 5 = .ok (.arraylength, 1) := by decide +kernel
theorem d1_6 : decode prog_21_method_8_code 6 = .ok (.istore_n 3, 1) := by decide +kernel
theorem d1_7 : decode prog_21_method_8_code 7 = .ok (.iconst 0, 1) := by decide +kernel
theorem d1_8 : decode prog_21_method_8_code 8 = .ok (.istore 4, 2) := by decide +kernel
theorem d1_10 : decode prog_21_method_8_code 10 = .ok (.iload 4, 2) := by decide +kernel
theorem d1_12 : decode prog_21_method_8_code 12 = .ok (.iload_n 3, 1) := by decide +kernel
theorem d1_13 : decode prog_21_method_8_code 13 = .ok (.if_icmp .ge 29, 3) := by decide +kernel
theorem d1_16 : decode prog_21_method_8_code 16 = .ok (.aload_n 2, 1) := by decide +kernel
theorem d1_17 : decode prog_21_method_8_code 17 = .ok (.iload 4, 2) := by decide +kernel
theorem d1_19 : decode prog_21_method_8_code 19 = .ok (.aaload, 1) := by decide +kernel
theorem d1_20 : decode prog_21_method_8_code 20 = .ok (.astore 5, 2) := by decide +kernel
theorem d1_22 : decode prog_21_method_8_code 22 = .ok (.aload 5, 2) := by decide +kernel
theorem d1_24 : decode prog_21_method_8_code 24 = .ok (.getfield 35, 3) := by decide +kernel
theorem d1_27 : decode prog_21_method_8_code 27 = .ok (.i2l, 1) := by decide +kernel
theorem d1_28 : decode prog_21_method_8_code 28 = .ok (.lload_n 0, 1) := by decide +kernel
theorem d1_29 : decode prog_21_method_8_code 29 = .ok (.lcmp, 1) := by decide +kernel
theorem d1_30 : decode prog_21_method_8_code 30 = .ok (.ifCond .ne 6, 3) := by decide +kernel
theorem d1_33 : decode prog_21_method_8_code 33 = .ok (.aload 5, 2) := by decide +kernel
theorem d1_35 : decode prog_21_method_8_code 35 = .ok (.areturn, 1) := by decide +kernel
theorem d1_36 : decode prog_21_method_8_code 36 = .ok (.iinc 4 1, 3) := by decide +kernel
theorem d1_39 : decode prog_21_method_8_code 39 = .ok (.goto (-29), 3) := by decide +kernel
theorem d1_42 : decode prog_21_method_8_code 42 = .ok (.aconst_null, 1) := by decide +kernel
theorem d1_43 : decode prog_21_method_8_code 43 = .ok (.areturn, 1) := by decide +kernel
theorem pn_Kind : plainName "com/example/packframe/packframe/onebyte/Kind" = true := by first | (simp [plainName, overriddenIn]; done) | decide +kernel
theorem ef_1 (m : MethodId) (x0 : Int64) : entryFrame m #[(.long x0)] 6 = mkF m 0 #[.val (.long x0), .second, .unset, .unset, .unset, .unset] [] := by first | (simp [entryFrame, mkF, argsToLocals, Value.category]; done) | rfl
def Q1 (Z : State) (qv : Int64) (w_PING w_REQUEST w_NOTIFY w_RESPONSE w_KINDS : Addr) (h0 : Heap) (n0 : Nat) (v : Option Value) (h : Heap) (L : List Loc) : Prop := v = some (own_of qv w_PING w_REQUEST w_NOTIFY w_RESPONSE) ∧ Fr n0 L ∧ h = h0
set_option maxRecDepth 65536 in
set_option maxHeartbeats 40000000 in
theorem rm1 (l : Launch) (Z : State) (a0 : Array Value) (hw : ∀ d ∈ tables_1, d.before a0 Z = true) (ws : List Jvm.Cond) (qv : Int64) (w_PING w_REQUEST w_NOTIFY w_RESPONSE w_KINDS : Addr) (h0 : Heap) (n0 : Nat) (Z0 : n0 ≤ h0.size) (S_PING : Sta Z h0 "com/example/packframe/packframe/onebyte/Kind" "PING" "Lcom/example/packframe/packframe/onebyte/Kind;" (.ref w_PING)) (E_PING : Exa Z h0 w_PING "com/example/packframe/packframe/onebyte/Kind") (F_code_PING : Fld Z h0 w_PING "com/example/packframe/packframe/onebyte/Kind" "code" "I" (.int (0 : Int32))) (S_REQUEST : Sta Z h0 "com/example/packframe/packframe/onebyte/Kind" "REQUEST" "Lcom/example/packframe/packframe/onebyte/Kind;" (.ref w_REQUEST)) (E_REQUEST : Exa Z h0 w_REQUEST "com/example/packframe/packframe/onebyte/Kind") (F_code_REQUEST : Fld Z h0 w_REQUEST "com/example/packframe/packframe/onebyte/Kind" "code" "I" (.int (1 : Int32))) (S_NOTIFY : Sta Z h0 "com/example/packframe/packframe/onebyte/Kind" "NOTIFY" "Lcom/example/packframe/packframe/onebyte/Kind;" (.ref w_NOTIFY)) (E_NOTIFY : Exa Z h0 w_NOTIFY "com/example/packframe/packframe/onebyte/Kind") (F_code_NOTIFY : Fld Z h0 w_NOTIFY "com/example/packframe/packframe/onebyte/Kind" "code" "I" (.int (2 : Int32))) (S_RESPONSE : Sta Z h0 "com/example/packframe/packframe/onebyte/Kind" "RESPONSE" "Lcom/example/packframe/packframe/onebyte/Kind;" (.ref w_RESPONSE)) (E_RESPONSE : Exa Z h0 w_RESPONSE "com/example/packframe/packframe/onebyte/Kind") (F_code_RESPONSE : Fld Z h0 w_RESPONSE "com/example/packframe/packframe/onebyte/Kind" "code" "I" (.int (3 : Int32))) (S_KINDS : Sta Z h0 "com/example/packframe/packframe/onebyte/Kind" "KINDS" "[Lcom/example/packframe/packframe/onebyte/Kind;" (.ref w_KINDS)) (V_KINDS : ∃ k, Arv Z h0 w_KINDS k (.object "com/example/packframe/packframe/onebyte/Kind") (4 : Int32) [(.ref w_PING), (.ref w_REQUEST), (.ref w_NOTIFY), (.ref w_RESPONSE)] .null) :
    MetFree l (⟨"com/example/packframe/packframe/onebyte/Kind", "ofCode", "(J)Lcom/example/packframe/packframe/onebyte/Kind;"⟩ : MethodName) (head1 (Jvm.Cond.code (⟨"com/example/packframe/packframe/onebyte/Kind", "ofCode", "(J)Lcom/example/packframe/packframe/onebyte/Kind;"⟩ : MethodName) prog_21_method_8_code 6 (some (.object "com/example/packframe/packframe/onebyte/Kind")) :: ws) ({ frames := 0, cells := 0, slots := 0, locals := 0 } : Room)) (fun a U => a = #[(.long qv)] ∧ Z.Warmed39 U.vm ∧ U.heap = h0) (fun _ _ _ _ _ => True) (fun _ U o U' => ∃ v L, o = .returned v ∧ Q1 Z qv w_PING w_REQUEST w_NOTIFY w_RESPONSE w_KINDS h0 n0 v U'.heap L ∧ FrameEnd U o U' L ({ frames := 0, cells := 0, slots := 0, locals := 0 } : Room).cells ({ frames := 0, cells := 0, slots := 0, locals := 0 } : Room).slots) := by
  refine MetFree.of_bodySF (plainFor_of_name pn_Kind) hisR ?_
  intro p e s m args below meth c s₁ Bd hml0 hP hK
  obtain ⟨rfl, hZ, hh⟩ := hP
  have hx := Bd.exec
  have hby := Bd.bytes
  have hml : c.maxLocals = 6 := hml0
  have hown : s.vm.findClass "com/example/packframe/packframe/onebyte/Kind" = some m.cls := findClass_of_methodNamed Bd.named
  have hnm := (name_of_methodNamed Bd.named Bd.method).1
  have hlk : meth.locks = false := BodyLoose.notSynchronized Bd
  have X0 : Stand p l e ({ frames := 0, cells := 0, slots := 0, locals := 0 } : Room) s m #[(.long qv)] below meth c s₁ [] 0 0 := Stand.of_body Bd
  have e0 : s₁.heap = h0 := by rw [← hh, Bd.state]; rfl
  have N0 := Fr.nil n0
  refine ogo (U' := s₁.setTop (mkF m 0 #[.val (.long qv), .second, .unset, .unset, .unset, .unset] [])) (Q := Q1 Z qv w_PING w_REQUEST w_NOTIFY w_RESPONSE w_KINDS h0 n0) (K := ({ frames := 0, cells := 0, slots := 0, locals := 0 } : Room).cells) (N := ({ frames := 0, cells := 0, slots := 0, locals := 0 } : Room).slots) (fun t k => castTop (ef_1 m qv) k) ?_
  show OwnEnds _ _ _ _ _ _ _ (s₁.setTop (mkF m 0 #[.val (.long qv), .second, .unset, .unset, .unset, .unset] []))
  obtain ⟨T1, X1, e1, st1⟩ := getS2 X0 hx hZ hown (host := "") (Or.inl (hw _ (List.mem_of_getElem? (i := 4) rfl))) Via.refl e0 S_KINDS (g := (mkF m 0 #[.val (.long qv), .second, .unset, .unset, .unset, .unset] [])) rfl (hb hby d1_0)
  refine ogo st1 ?_
  show OwnEnds _ _ _ _ _ _ _ (T1.setTop (mkF m 3 #[.val (.long qv), .second, .unset, .unset, .unset, .unset] [(.ref w_KINDS)]))
  refine ogo (fun t k => XS.astoreN X1.here hx rfl (hb hby d1_3) rfl rfl (l' := #[.val (.long qv), .second, .val (.ref w_KINDS), .unset, .unset, .unset]) rfl k) ?_
  show OwnEnds _ _ _ _ _ _ _ (T1.setTop (mkF m 4 #[.val (.long qv), .second, .val (.ref w_KINDS), .unset, .unset, .unset] []))
  refine ogo (fun t k => XS.aloadN X1.here hx rfl (hb hby d1_4) rfl rfl k) ?_
  show OwnEnds _ _ _ _ _ _ _ (T1.setTop (mkF m 5 #[.val (.long qv), .second, .val (.ref w_KINDS), .unset, .unset, .unset] [(.ref w_KINDS)]))
  obtain ⟨ak2, cl2, Ar2, Aq2, As2, An2, Ah2, Ag2⟩ := id V_KINDS
  refine ogo (fun t k => X1.arraylength hx (by rw [e1]; exact Ar2.1) (State.isArrayOf_alike hZ.alike Ar2.2.1) (g := (mkF m 5 #[.val (.long qv), .second, .val (.ref w_KINDS), .unset, .unset, .unset] [(.ref w_KINDS)])) rfl rfl (hb hby d1_5) t k) ?_
  rw [len_of As2 An2]
  show OwnEnds _ _ _ _ _ _ _ (T1.setTop (mkF m 6 #[.val (.long qv), .second, .val (.ref w_KINDS), .unset, .unset, .unset] [(.int (4 : Int32))]))
  refine ogo (fun t k => XS.istoreN X1.here hx rfl (hb hby d1_6) rfl (l' := #[.val (.long qv), .second, .val (.ref w_KINDS), .val (.int (4 : Int32)), .unset, .unset]) rfl k) ?_
  show OwnEnds _ _ _ _ _ _ _ (T1.setTop (mkF m 7 #[.val (.long qv), .second, .val (.ref w_KINDS), .val (.int (4 : Int32)), .unset, .unset] []))
  refine ogo (fun t k => XS.iconst X1.here hx rfl (hb hby d1_7) k) ?_
  show OwnEnds _ _ _ _ _ _ _ (T1.setTop (mkF m 8 #[.val (.long qv), .second, .val (.ref w_KINDS), .val (.int (4 : Int32)), .unset, .unset] [(.int (0 : Int32))]))
  refine ogo (fun t k => XS.istore X1.here hx rfl (hb hby d1_8) rfl (l' := #[.val (.long qv), .second, .val (.ref w_KINDS), .val (.int (4 : Int32)), .val (.int (0 : Int32)), .unset]) rfl k) ?_
  show OwnEnds _ _ _ _ _ _ _ (T1.setTop (mkF m 10 #[.val (.long qv), .second, .val (.ref w_KINDS), .val (.int (4 : Int32)), .val (.int (0 : Int32)), .unset] []))
  refine ogo (fun t k => XS.iload X1.here hx rfl (hb hby d1_10) rfl k) ?_
  show OwnEnds _ _ _ _ _ _ _ (T1.setTop (mkF m 12 #[.val (.long qv), .second, .val (.ref w_KINDS), .val (.int (4 : Int32)), .val (.int (0 : Int32)), .unset] [(.int (0 : Int32))]))
  refine ogo (fun t k => XS.iloadN X1.here hx rfl (hb hby d1_12) rfl k) ?_
  show OwnEnds _ _ _ _ _ _ _ (T1.setTop (mkF m 13 #[.val (.long qv), .second, .val (.ref w_KINDS), .val (.int (4 : Int32)), .val (.int (0 : Int32)), .unset] [(.int (4 : Int32)), (.int (0 : Int32))]))
  refine ogo (fun t k => XS.icmpNo X1.here hx rfl (hb hby d1_13) rfl (tlt (by decide : (0 : Int32) < (4 : Int32))).2.1 k) ?_
  show OwnEnds _ _ _ _ _ _ _ (T1.setTop (mkF m 16 #[.val (.long qv), .second, .val (.ref w_KINDS), .val (.int (4 : Int32)), .val (.int (0 : Int32)), .unset] []))
  refine ogo (fun t k => XS.aloadN X1.here hx rfl (hb hby d1_16) rfl rfl k) ?_
  show OwnEnds _ _ _ _ _ _ _ (T1.setTop (mkF m 17 #[.val (.long qv), .second, .val (.ref w_KINDS), .val (.int (4 : Int32)), .val (.int (0 : Int32)), .unset] [(.ref w_KINDS)]))
  refine ogo (fun t k => XS.iload X1.here hx rfl (hb hby d1_17) rfl k) ?_
  show OwnEnds _ _ _ _ _ _ _ (T1.setTop (mkF m 19 #[.val (.long qv), .second, .val (.ref w_KINDS), .val (.int (4 : Int32)), .val (.int (0 : Int32)), .unset] [(.int (0 : Int32)), (.ref w_KINDS)]))
  obtain ⟨ak3, cl3, Ar3, Aq3, As3, An3, Ah3, Ag3⟩ := id V_KINDS
  refine ogo (fun t k => X1.aaload hx (j := (0 : Int32)) (v := (.ref w_PING)) (by rw [e1]; exact Ar3.1) (State.isArrayOf_alike hZ.alike Ar3.2.1) rfl Ar3.2.2 (inb_of As3 ⟨by decide, by decide⟩) (Ah3.at (inb_of As3 ⟨by decide, by decide⟩) rfl) (g := (mkF m 19 #[.val (.long qv), .second, .val (.ref w_KINDS), .val (.int (4 : Int32)), .val (.int (0 : Int32)), .unset] [(.int (0 : Int32)), (.ref w_KINDS)])) rfl rfl (hb hby d1_19) t k) ?_
  show OwnEnds _ _ _ _ _ _ _ (T1.setTop (mkF m 20 #[.val (.long qv), .second, .val (.ref w_KINDS), .val (.int (4 : Int32)), .val (.int (0 : Int32)), .unset] [(.ref w_PING)]))
  refine ogo (fun t k => XS.astore X1.here hx rfl (hb hby d1_20) rfl rfl (l' := #[.val (.long qv), .second, .val (.ref w_KINDS), .val (.int (4 : Int32)), .val (.int (0 : Int32)), .val (.ref w_PING)]) rfl k) ?_
  show OwnEnds _ _ _ _ _ _ _ (T1.setTop (mkF m 22 #[.val (.long qv), .second, .val (.ref w_KINDS), .val (.int (4 : Int32)), .val (.int (0 : Int32)), .val (.ref w_PING)] []))
  refine ogo (fun t k => XS.aload X1.here hx rfl (hb hby d1_22) rfl rfl k) ?_
  show OwnEnds _ _ _ _ _ _ _ (T1.setTop (mkF m 24 #[.val (.long qv), .second, .val (.ref w_KINDS), .val (.int (4 : Int32)), .val (.int (0 : Int32)), .val (.ref w_PING)] [(.ref w_PING)]))
  obtain ⟨T4, X4, e4, st4⟩ := getF X1 hx hZ hown (host := "") (Or.inl (hw _ (List.mem_of_getElem? (i := 7) rfl))) Via.refl e1 F_code_PING (g := (mkF m 24 #[.val (.long qv), .second, .val (.ref w_KINDS), .val (.int (4 : Int32)), .val (.int (0 : Int32)), .val (.ref w_PING)] [(.ref w_PING)])) rfl rfl (hb hby d1_24)
  refine ogo st4 ?_
  show OwnEnds _ _ _ _ _ _ _ (T4.setTop (mkF m 27 #[.val (.long qv), .second, .val (.ref w_KINDS), .val (.int (4 : Int32)), .val (.int (0 : Int32)), .val (.ref w_PING)] [(.int (0 : Int32))]))
  refine ogo (fun t k => XS.i2l X4.here hx rfl (hb hby d1_27) rfl k) ?_
  show OwnEnds _ _ _ _ _ _ _ (T4.setTop (mkF m 28 #[.val (.long qv), .second, .val (.ref w_KINDS), .val (.int (4 : Int32)), .val (.int (0 : Int32)), .val (.ref w_PING)] [(.long (0 : Int64))]))
  refine ogo (fun t k => XS.lloadN X4.here hx rfl (hb hby d1_28) rfl k) ?_
  show OwnEnds _ _ _ _ _ _ _ (T4.setTop (mkF m 29 #[.val (.long qv), .second, .val (.ref w_KINDS), .val (.int (4 : Int32)), .val (.int (0 : Int32)), .val (.ref w_PING)] [(.long qv), (.long (0 : Int64))]))
  refine ogo (fun t k => XS.lcmp X4.here hx rfl (hb hby d1_29) rfl k) ?_
  show OwnEnds _ _ _ _ _ _ _ (T4.setTop (mkF m 30 #[.val (.long qv), .second, .val (.ref w_KINDS), .val (.int (4 : Int32)), .val (.int (0 : Int32)), .val (.ref w_PING)] [(.int (lcmpW (0 : Int64) qv))]))
  by_cases hc5 : qv = (0 : Int64)
  · refine ogo (fun t k => XS.ifNo X4.here hx rfl (hb hby d1_30) rfl ((if0 _ _).trans (teq ((lw_eq (0 : Int64) qv).mpr (Eq.symm hc5))).2) k) ?_
    show OwnEnds _ _ _ _ _ _ _ (T4.setTop (mkF m 33 #[.val (.long qv), .second, .val (.ref w_KINDS), .val (.int (4 : Int32)), .val (.int (0 : Int32)), .val (.ref w_PING)] []))
    refine ogo (fun t k => XS.aload X4.here hx rfl (hb hby d1_33) rfl rfl k) ?_
    show OwnEnds _ _ _ _ _ _ _ (T4.setTop (mkF m 35 #[.val (.long qv), .second, .val (.ref w_KINDS), .val (.int (4 : Int32)), .val (.int (0 : Int32)), .val (.ref w_PING)] [(.ref w_PING)]))
    refine endA X4 hx hlk Bd.returns rfl rfl (hb hby d1_35) (by decide) (by decide) ?_
    show Q1 Z qv w_PING w_REQUEST w_NOTIFY w_RESPONSE w_KINDS h0 n0 _ T4.heap _
    rw [e4]
    exact ⟨by simp [own_of, hc5], N0, rfl⟩
  · refine ogo (fun t k => XS.ifYes X4.here hx rfl (pc0 := 30) (pc' := 36) rfl (hb hby d1_30) rfl ((if0 _ _).trans (feq (fun q => (fun q => hc5 (Eq.symm q)) ((lw_eq (0 : Int64) qv).mp q))).2) (by decide) (by decide) k) ?_
    show OwnEnds _ _ _ _ _ _ _ (T4.setTop (mkF m 36 #[.val (.long qv), .second, .val (.ref w_KINDS), .val (.int (4 : Int32)), .val (.int (0 : Int32)), .val (.ref w_PING)] []))
    refine ogo (fun t k => XS.iinc X4.here hx rfl (hb hby d1_36) rfl (l' := #[.val (.long qv), .second, .val (.ref w_KINDS), .val (.int (4 : Int32)), .val (.int (1 : Int32)), .val (.ref w_PING)]) rfl k) ?_
    show OwnEnds _ _ _ _ _ _ _ (T4.setTop (mkF m 39 #[.val (.long qv), .second, .val (.ref w_KINDS), .val (.int (4 : Int32)), .val (.int (1 : Int32)), .val (.ref w_PING)] []))
    refine ogo (fun t k => XS.goto X4.here hx rfl (pc0 := 39) (pc' := 10) rfl (hb hby d1_39) (by decide) (by decide) k) ?_
    show OwnEnds _ _ _ _ _ _ _ (T4.setTop (mkF m 10 #[.val (.long qv), .second, .val (.ref w_KINDS), .val (.int (4 : Int32)), .val (.int (1 : Int32)), .val (.ref w_PING)] []))
    refine ogo (fun t k => XS.iload X4.here hx rfl (hb hby d1_10) rfl k) ?_
    show OwnEnds _ _ _ _ _ _ _ (T4.setTop (mkF m 12 #[.val (.long qv), .second, .val (.ref w_KINDS), .val (.int (4 : Int32)), .val (.int (1 : Int32)), .val (.ref w_PING)] [(.int (1 : Int32))]))
    refine ogo (fun t k => XS.iloadN X4.here hx rfl (hb hby d1_12) rfl k) ?_
    show OwnEnds _ _ _ _ _ _ _ (T4.setTop (mkF m 13 #[.val (.long qv), .second, .val (.ref w_KINDS), .val (.int (4 : Int32)), .val (.int (1 : Int32)), .val (.ref w_PING)] [(.int (4 : Int32)), (.int (1 : Int32))]))
    refine ogo (fun t k => XS.icmpNo X4.here hx rfl (hb hby d1_13) rfl (tlt (by decide : (1 : Int32) < (4 : Int32))).2.1 k) ?_
    show OwnEnds _ _ _ _ _ _ _ (T4.setTop (mkF m 16 #[.val (.long qv), .second, .val (.ref w_KINDS), .val (.int (4 : Int32)), .val (.int (1 : Int32)), .val (.ref w_PING)] []))
    refine ogo (fun t k => XS.aloadN X4.here hx rfl (hb hby d1_16) rfl rfl k) ?_
    show OwnEnds _ _ _ _ _ _ _ (T4.setTop (mkF m 17 #[.val (.long qv), .second, .val (.ref w_KINDS), .val (.int (4 : Int32)), .val (.int (1 : Int32)), .val (.ref w_PING)] [(.ref w_KINDS)]))
    refine ogo (fun t k => XS.iload X4.here hx rfl (hb hby d1_17) rfl k) ?_
    show OwnEnds _ _ _ _ _ _ _ (T4.setTop (mkF m 19 #[.val (.long qv), .second, .val (.ref w_KINDS), .val (.int (4 : Int32)), .val (.int (1 : Int32)), .val (.ref w_PING)] [(.int (1 : Int32)), (.ref w_KINDS)]))
    obtain ⟨ak6, cl6, Ar6, Aq6, As6, An6, Ah6, Ag6⟩ := id V_KINDS
    refine ogo (fun t k => X4.aaload hx (j := (1 : Int32)) (v := (.ref w_REQUEST)) (by rw [e4]; exact Ar6.1) (State.isArrayOf_alike hZ.alike Ar6.2.1) rfl Ar6.2.2 (inb_of As6 ⟨by decide, by decide⟩) (Ah6.at (inb_of As6 ⟨by decide, by decide⟩) rfl) (g := (mkF m 19 #[.val (.long qv), .second, .val (.ref w_KINDS), .val (.int (4 : Int32)), .val (.int (1 : Int32)), .val (.ref w_PING)] [(.int (1 : Int32)), (.ref w_KINDS)])) rfl rfl (hb hby d1_19) t k) ?_
    show OwnEnds _ _ _ _ _ _ _ (T4.setTop (mkF m 20 #[.val (.long qv), .second, .val (.ref w_KINDS), .val (.int (4 : Int32)), .val (.int (1 : Int32)), .val (.ref w_PING)] [(.ref w_REQUEST)]))
    refine ogo (fun t k => XS.astore X4.here hx rfl (hb hby d1_20) rfl rfl (l' := #[.val (.long qv), .second, .val (.ref w_KINDS), .val (.int (4 : Int32)), .val (.int (1 : Int32)), .val (.ref w_REQUEST)]) rfl k) ?_
    show OwnEnds _ _ _ _ _ _ _ (T4.setTop (mkF m 22 #[.val (.long qv), .second, .val (.ref w_KINDS), .val (.int (4 : Int32)), .val (.int (1 : Int32)), .val (.ref w_REQUEST)] []))
    refine ogo (fun t k => XS.aload X4.here hx rfl (hb hby d1_22) rfl rfl k) ?_
    show OwnEnds _ _ _ _ _ _ _ (T4.setTop (mkF m 24 #[.val (.long qv), .second, .val (.ref w_KINDS), .val (.int (4 : Int32)), .val (.int (1 : Int32)), .val (.ref w_REQUEST)] [(.ref w_REQUEST)]))
    obtain ⟨T7, X7, e7, st7⟩ := getF X4 hx hZ hown (host := "") (Or.inl (hw _ (List.mem_of_getElem? (i := 7) rfl))) Via.refl e4 F_code_REQUEST (g := (mkF m 24 #[.val (.long qv), .second, .val (.ref w_KINDS), .val (.int (4 : Int32)), .val (.int (1 : Int32)), .val (.ref w_REQUEST)] [(.ref w_REQUEST)])) rfl rfl (hb hby d1_24)
    refine ogo st7 ?_
    show OwnEnds _ _ _ _ _ _ _ (T7.setTop (mkF m 27 #[.val (.long qv), .second, .val (.ref w_KINDS), .val (.int (4 : Int32)), .val (.int (1 : Int32)), .val (.ref w_REQUEST)] [(.int (1 : Int32))]))
    refine ogo (fun t k => XS.i2l X7.here hx rfl (hb hby d1_27) rfl k) ?_
    show OwnEnds _ _ _ _ _ _ _ (T7.setTop (mkF m 28 #[.val (.long qv), .second, .val (.ref w_KINDS), .val (.int (4 : Int32)), .val (.int (1 : Int32)), .val (.ref w_REQUEST)] [(.long (1 : Int64))]))
    refine ogo (fun t k => XS.lloadN X7.here hx rfl (hb hby d1_28) rfl k) ?_
    show OwnEnds _ _ _ _ _ _ _ (T7.setTop (mkF m 29 #[.val (.long qv), .second, .val (.ref w_KINDS), .val (.int (4 : Int32)), .val (.int (1 : Int32)), .val (.ref w_REQUEST)] [(.long qv), (.long (1 : Int64))]))
    refine ogo (fun t k => XS.lcmp X7.here hx rfl (hb hby d1_29) rfl k) ?_
    show OwnEnds _ _ _ _ _ _ _ (T7.setTop (mkF m 30 #[.val (.long qv), .second, .val (.ref w_KINDS), .val (.int (4 : Int32)), .val (.int (1 : Int32)), .val (.ref w_REQUEST)] [(.int (lcmpW (1 : Int64) qv))]))
    by_cases hc8 : qv = (1 : Int64)
    · refine ogo (fun t k => XS.ifNo X7.here hx rfl (hb hby d1_30) rfl ((if0 _ _).trans (teq ((lw_eq (1 : Int64) qv).mpr (Eq.symm hc8))).2) k) ?_
      show OwnEnds _ _ _ _ _ _ _ (T7.setTop (mkF m 33 #[.val (.long qv), .second, .val (.ref w_KINDS), .val (.int (4 : Int32)), .val (.int (1 : Int32)), .val (.ref w_REQUEST)] []))
      refine ogo (fun t k => XS.aload X7.here hx rfl (hb hby d1_33) rfl rfl k) ?_
      show OwnEnds _ _ _ _ _ _ _ (T7.setTop (mkF m 35 #[.val (.long qv), .second, .val (.ref w_KINDS), .val (.int (4 : Int32)), .val (.int (1 : Int32)), .val (.ref w_REQUEST)] [(.ref w_REQUEST)]))
      refine endA X7 hx hlk Bd.returns rfl rfl (hb hby d1_35) (by decide) (by decide) ?_
      show Q1 Z qv w_PING w_REQUEST w_NOTIFY w_RESPONSE w_KINDS h0 n0 _ T7.heap _
      rw [e7]
      exact ⟨by simp [own_of, hc5, hc8], N0, rfl⟩
    · refine ogo (fun t k => XS.ifYes X7.here hx rfl (pc0 := 30) (pc' := 36) rfl (hb hby d1_30) rfl ((if0 _ _).trans (feq (fun q => (fun q => hc8 (Eq.symm q)) ((lw_eq (1 : Int64) qv).mp q))).2) (by decide) (by decide) k) ?_
      show OwnEnds _ _ _ _ _ _ _ (T7.setTop (mkF m 36 #[.val (.long qv), .second, .val (.ref w_KINDS), .val (.int (4 : Int32)), .val (.int (1 : Int32)), .val (.ref w_REQUEST)] []))
      refine ogo (fun t k => XS.iinc X7.here hx rfl (hb hby d1_36) rfl (l' := #[.val (.long qv), .second, .val (.ref w_KINDS), .val (.int (4 : Int32)), .val (.int (2 : Int32)), .val (.ref w_REQUEST)]) rfl k) ?_
      show OwnEnds _ _ _ _ _ _ _ (T7.setTop (mkF m 39 #[.val (.long qv), .second, .val (.ref w_KINDS), .val (.int (4 : Int32)), .val (.int (2 : Int32)), .val (.ref w_REQUEST)] []))
      refine ogo (fun t k => XS.goto X7.here hx rfl (pc0 := 39) (pc' := 10) rfl (hb hby d1_39) (by decide) (by decide) k) ?_
      show OwnEnds _ _ _ _ _ _ _ (T7.setTop (mkF m 10 #[.val (.long qv), .second, .val (.ref w_KINDS), .val (.int (4 : Int32)), .val (.int (2 : Int32)), .val (.ref w_REQUEST)] []))
      refine ogo (fun t k => XS.iload X7.here hx rfl (hb hby d1_10) rfl k) ?_
      show OwnEnds _ _ _ _ _ _ _ (T7.setTop (mkF m 12 #[.val (.long qv), .second, .val (.ref w_KINDS), .val (.int (4 : Int32)), .val (.int (2 : Int32)), .val (.ref w_REQUEST)] [(.int (2 : Int32))]))
      refine ogo (fun t k => XS.iloadN X7.here hx rfl (hb hby d1_12) rfl k) ?_
      show OwnEnds _ _ _ _ _ _ _ (T7.setTop (mkF m 13 #[.val (.long qv), .second, .val (.ref w_KINDS), .val (.int (4 : Int32)), .val (.int (2 : Int32)), .val (.ref w_REQUEST)] [(.int (4 : Int32)), (.int (2 : Int32))]))
      refine ogo (fun t k => XS.icmpNo X7.here hx rfl (hb hby d1_13) rfl (tlt (by decide : (2 : Int32) < (4 : Int32))).2.1 k) ?_
      show OwnEnds _ _ _ _ _ _ _ (T7.setTop (mkF m 16 #[.val (.long qv), .second, .val (.ref w_KINDS), .val (.int (4 : Int32)), .val (.int (2 : Int32)), .val (.ref w_REQUEST)] []))
      refine ogo (fun t k => XS.aloadN X7.here hx rfl (hb hby d1_16) rfl rfl k) ?_
      show OwnEnds _ _ _ _ _ _ _ (T7.setTop (mkF m 17 #[.val (.long qv), .second, .val (.ref w_KINDS), .val (.int (4 : Int32)), .val (.int (2 : Int32)), .val (.ref w_REQUEST)] [(.ref w_KINDS)]))
      refine ogo (fun t k => XS.iload X7.here hx rfl (hb hby d1_17) rfl k) ?_
      show OwnEnds _ _ _ _ _ _ _ (T7.setTop (mkF m 19 #[.val (.long qv), .second, .val (.ref w_KINDS), .val (.int (4 : Int32)), .val (.int (2 : Int32)), .val (.ref w_REQUEST)] [(.int (2 : Int32)), (.ref w_KINDS)]))
      obtain ⟨ak9, cl9, Ar9, Aq9, As9, An9, Ah9, Ag9⟩ := id V_KINDS
      refine ogo (fun t k => X7.aaload hx (j := (2 : Int32)) (v := (.ref w_NOTIFY)) (by rw [e7]; exact Ar9.1) (State.isArrayOf_alike hZ.alike Ar9.2.1) rfl Ar9.2.2 (inb_of As9 ⟨by decide, by decide⟩) (Ah9.at (inb_of As9 ⟨by decide, by decide⟩) rfl) (g := (mkF m 19 #[.val (.long qv), .second, .val (.ref w_KINDS), .val (.int (4 : Int32)), .val (.int (2 : Int32)), .val (.ref w_REQUEST)] [(.int (2 : Int32)), (.ref w_KINDS)])) rfl rfl (hb hby d1_19) t k) ?_
      show OwnEnds _ _ _ _ _ _ _ (T7.setTop (mkF m 20 #[.val (.long qv), .second, .val (.ref w_KINDS), .val (.int (4 : Int32)), .val (.int (2 : Int32)), .val (.ref w_REQUEST)] [(.ref w_NOTIFY)]))
      refine ogo (fun t k => XS.astore X7.here hx rfl (hb hby d1_20) rfl rfl (l' := #[.val (.long qv), .second, .val (.ref w_KINDS), .val (.int (4 : Int32)), .val (.int (2 : Int32)), .val (.ref w_NOTIFY)]) rfl k) ?_
      show OwnEnds _ _ _ _ _ _ _ (T7.setTop (mkF m 22 #[.val (.long qv), .second, .val (.ref w_KINDS), .val (.int (4 : Int32)), .val (.int (2 : Int32)), .val (.ref w_NOTIFY)] []))
      refine ogo (fun t k => XS.aload X7.here hx rfl (hb hby d1_22) rfl rfl k) ?_
      show OwnEnds _ _ _ _ _ _ _ (T7.setTop (mkF m 24 #[.val (.long qv), .second, .val (.ref w_KINDS), .val (.int (4 : Int32)), .val (.int (2 : Int32)), .val (.ref w_NOTIFY)] [(.ref w_NOTIFY)]))
      obtain ⟨T10, X10, e10, st10⟩ := getF X7 hx hZ hown (host := "") (Or.inl (hw _ (List.mem_of_getElem? (i := 7) rfl))) Via.refl e7 F_code_NOTIFY (g := (mkF m 24 #[.val (.long qv), .second, .val (.ref w_KINDS), .val (.int (4 : Int32)), .val (.int (2 : Int32)), .val (.ref w_NOTIFY)] [(.ref w_NOTIFY)])) rfl rfl (hb hby d1_24)
      refine ogo st10 ?_
      show OwnEnds _ _ _ _ _ _ _ (T10.setTop (mkF m 27 #[.val (.long qv), .second, .val (.ref w_KINDS), .val (.int (4 : Int32)), .val (.int (2 : Int32)), .val (.ref w_NOTIFY)] [(.int (2 : Int32))]))
      refine ogo (fun t k => XS.i2l X10.here hx rfl (hb hby d1_27) rfl k) ?_
      show OwnEnds _ _ _ _ _ _ _ (T10.setTop (mkF m 28 #[.val (.long qv), .second, .val (.ref w_KINDS), .val (.int (4 : Int32)), .val (.int (2 : Int32)), .val (.ref w_NOTIFY)] [(.long (2 : Int64))]))
      refine ogo (fun t k => XS.lloadN X10.here hx rfl (hb hby d1_28) rfl k) ?_
      show OwnEnds _ _ _ _ _ _ _ (T10.setTop (mkF m 29 #[.val (.long qv), .second, .val (.ref w_KINDS), .val (.int (4 : Int32)), .val (.int (2 : Int32)), .val (.ref w_NOTIFY)] [(.long qv), (.long (2 : Int64))]))
      refine ogo (fun t k => XS.lcmp X10.here hx rfl (hb hby d1_29) rfl k) ?_
      show OwnEnds _ _ _ _ _ _ _ (T10.setTop (mkF m 30 #[.val (.long qv), .second, .val (.ref w_KINDS), .val (.int (4 : Int32)), .val (.int (2 : Int32)), .val (.ref w_NOTIFY)] [(.int (lcmpW (2 : Int64) qv))]))
      by_cases hc11 : qv = (2 : Int64)
      · refine ogo (fun t k => XS.ifNo X10.here hx rfl (hb hby d1_30) rfl ((if0 _ _).trans (teq ((lw_eq (2 : Int64) qv).mpr (Eq.symm hc11))).2) k) ?_
        show OwnEnds _ _ _ _ _ _ _ (T10.setTop (mkF m 33 #[.val (.long qv), .second, .val (.ref w_KINDS), .val (.int (4 : Int32)), .val (.int (2 : Int32)), .val (.ref w_NOTIFY)] []))
        refine ogo (fun t k => XS.aload X10.here hx rfl (hb hby d1_33) rfl rfl k) ?_
        show OwnEnds _ _ _ _ _ _ _ (T10.setTop (mkF m 35 #[.val (.long qv), .second, .val (.ref w_KINDS), .val (.int (4 : Int32)), .val (.int (2 : Int32)), .val (.ref w_NOTIFY)] [(.ref w_NOTIFY)]))
        refine endA X10 hx hlk Bd.returns rfl rfl (hb hby d1_35) (by decide) (by decide) ?_
        show Q1 Z qv w_PING w_REQUEST w_NOTIFY w_RESPONSE w_KINDS h0 n0 _ T10.heap _
        rw [e10]
        exact ⟨by simp [own_of, hc5, hc8, hc11], N0, rfl⟩
      · refine ogo (fun t k => XS.ifYes X10.here hx rfl (pc0 := 30) (pc' := 36) rfl (hb hby d1_30) rfl ((if0 _ _).trans (feq (fun q => (fun q => hc11 (Eq.symm q)) ((lw_eq (2 : Int64) qv).mp q))).2) (by decide) (by decide) k) ?_
        show OwnEnds _ _ _ _ _ _ _ (T10.setTop (mkF m 36 #[.val (.long qv), .second, .val (.ref w_KINDS), .val (.int (4 : Int32)), .val (.int (2 : Int32)), .val (.ref w_NOTIFY)] []))
        refine ogo (fun t k => XS.iinc X10.here hx rfl (hb hby d1_36) rfl (l' := #[.val (.long qv), .second, .val (.ref w_KINDS), .val (.int (4 : Int32)), .val (.int (3 : Int32)), .val (.ref w_NOTIFY)]) rfl k) ?_
        show OwnEnds _ _ _ _ _ _ _ (T10.setTop (mkF m 39 #[.val (.long qv), .second, .val (.ref w_KINDS), .val (.int (4 : Int32)), .val (.int (3 : Int32)), .val (.ref w_NOTIFY)] []))
        refine ogo (fun t k => XS.goto X10.here hx rfl (pc0 := 39) (pc' := 10) rfl (hb hby d1_39) (by decide) (by decide) k) ?_
        show OwnEnds _ _ _ _ _ _ _ (T10.setTop (mkF m 10 #[.val (.long qv), .second, .val (.ref w_KINDS), .val (.int (4 : Int32)), .val (.int (3 : Int32)), .val (.ref w_NOTIFY)] []))
        refine ogo (fun t k => XS.iload X10.here hx rfl (hb hby d1_10) rfl k) ?_
        show OwnEnds _ _ _ _ _ _ _ (T10.setTop (mkF m 12 #[.val (.long qv), .second, .val (.ref w_KINDS), .val (.int (4 : Int32)), .val (.int (3 : Int32)), .val (.ref w_NOTIFY)] [(.int (3 : Int32))]))
        refine ogo (fun t k => XS.iloadN X10.here hx rfl (hb hby d1_12) rfl k) ?_
        show OwnEnds _ _ _ _ _ _ _ (T10.setTop (mkF m 13 #[.val (.long qv), .second, .val (.ref w_KINDS), .val (.int (4 : Int32)), .val (.int (3 : Int32)), .val (.ref w_NOTIFY)] [(.int (4 : Int32)), (.int (3 : Int32))]))
        refine ogo (fun t k => XS.icmpNo X10.here hx rfl (hb hby d1_13) rfl (tlt (by decide : (3 : Int32) < (4 : Int32))).2.1 k) ?_
        show OwnEnds _ _ _ _ _ _ _ (T10.setTop (mkF m 16 #[.val (.long qv), .second, .val (.ref w_KINDS), .val (.int (4 : Int32)), .val (.int (3 : Int32)), .val (.ref w_NOTIFY)] []))
        refine ogo (fun t k => XS.aloadN X10.here hx rfl (hb hby d1_16) rfl rfl k) ?_
        show OwnEnds _ _ _ _ _ _ _ (T10.setTop (mkF m 17 #[.val (.long qv), .second, .val (.ref w_KINDS), .val (.int (4 : Int32)), .val (.int (3 : Int32)), .val (.ref w_NOTIFY)] [(.ref w_KINDS)]))
        refine ogo (fun t k => XS.iload X10.here hx rfl (hb hby d1_17) rfl k) ?_
        show OwnEnds _ _ _ _ _ _ _ (T10.setTop (mkF m 19 #[.val (.long qv), .second, .val (.ref w_KINDS), .val (.int (4 : Int32)), .val (.int (3 : Int32)), .val (.ref w_NOTIFY)] [(.int (3 : Int32)), (.ref w_KINDS)]))
        obtain ⟨ak12, cl12, Ar12, Aq12, As12, An12, Ah12, Ag12⟩ := id V_KINDS
        refine ogo (fun t k => X10.aaload hx (j := (3 : Int32)) (v := (.ref w_RESPONSE)) (by rw [e10]; exact Ar12.1) (State.isArrayOf_alike hZ.alike Ar12.2.1) rfl Ar12.2.2 (inb_of As12 ⟨by decide, by decide⟩) (Ah12.at (inb_of As12 ⟨by decide, by decide⟩) rfl) (g := (mkF m 19 #[.val (.long qv), .second, .val (.ref w_KINDS), .val (.int (4 : Int32)), .val (.int (3 : Int32)), .val (.ref w_NOTIFY)] [(.int (3 : Int32)), (.ref w_KINDS)])) rfl rfl (hb hby d1_19) t k) ?_
        show OwnEnds _ _ _ _ _ _ _ (T10.setTop (mkF m 20 #[.val (.long qv), .second, .val (.ref w_KINDS), .val (.int (4 : Int32)), .val (.int (3 : Int32)), .val (.ref w_NOTIFY)] [(.ref w_RESPONSE)]))
        refine ogo (fun t k => XS.astore X10.here hx rfl (hb hby d1_20) rfl rfl (l' := #[.val (.long qv), .second, .val (.ref w_KINDS), .val (.int (4 : Int32)), .val (.int (3 : Int32)), .val (.ref w_RESPONSE)]) rfl k) ?_
        show OwnEnds _ _ _ _ _ _ _ (T10.setTop (mkF m 22 #[.val (.long qv), .second, .val (.ref w_KINDS), .val (.int (4 : Int32)), .val (.int (3 : Int32)), .val (.ref w_RESPONSE)] []))
        refine ogo (fun t k => XS.aload X10.here hx rfl (hb hby d1_22) rfl rfl k) ?_
        show OwnEnds _ _ _ _ _ _ _ (T10.setTop (mkF m 24 #[.val (.long qv), .second, .val (.ref w_KINDS), .val (.int (4 : Int32)), .val (.int (3 : Int32)), .val (.ref w_RESPONSE)] [(.ref w_RESPONSE)]))
        obtain ⟨T13, X13, e13, st13⟩ := getF X10 hx hZ hown (host := "") (Or.inl (hw _ (List.mem_of_getElem? (i := 7) rfl))) Via.refl e10 F_code_RESPONSE (g := (mkF m 24 #[.val (.long qv), .second, .val (.ref w_KINDS), .val (.int (4 : Int32)), .val (.int (3 : Int32)), .val (.ref w_RESPONSE)] [(.ref w_RESPONSE)])) rfl rfl (hb hby d1_24)
        refine ogo st13 ?_
        show OwnEnds _ _ _ _ _ _ _ (T13.setTop (mkF m 27 #[.val (.long qv), .second, .val (.ref w_KINDS), .val (.int (4 : Int32)), .val (.int (3 : Int32)), .val (.ref w_RESPONSE)] [(.int (3 : Int32))]))
        refine ogo (fun t k => XS.i2l X13.here hx rfl (hb hby d1_27) rfl k) ?_
        show OwnEnds _ _ _ _ _ _ _ (T13.setTop (mkF m 28 #[.val (.long qv), .second, .val (.ref w_KINDS), .val (.int (4 : Int32)), .val (.int (3 : Int32)), .val (.ref w_RESPONSE)] [(.long (3 : Int64))]))
        refine ogo (fun t k => XS.lloadN X13.here hx rfl (hb hby d1_28) rfl k) ?_
        show OwnEnds _ _ _ _ _ _ _ (T13.setTop (mkF m 29 #[.val (.long qv), .second, .val (.ref w_KINDS), .val (.int (4 : Int32)), .val (.int (3 : Int32)), .val (.ref w_RESPONSE)] [(.long qv), (.long (3 : Int64))]))
        refine ogo (fun t k => XS.lcmp X13.here hx rfl (hb hby d1_29) rfl k) ?_
        show OwnEnds _ _ _ _ _ _ _ (T13.setTop (mkF m 30 #[.val (.long qv), .second, .val (.ref w_KINDS), .val (.int (4 : Int32)), .val (.int (3 : Int32)), .val (.ref w_RESPONSE)] [(.int (lcmpW (3 : Int64) qv))]))
        by_cases hc14 : qv = (3 : Int64)
        · refine ogo (fun t k => XS.ifNo X13.here hx rfl (hb hby d1_30) rfl ((if0 _ _).trans (teq ((lw_eq (3 : Int64) qv).mpr (Eq.symm hc14))).2) k) ?_
          show OwnEnds _ _ _ _ _ _ _ (T13.setTop (mkF m 33 #[.val (.long qv), .second, .val (.ref w_KINDS), .val (.int (4 : Int32)), .val (.int (3 : Int32)), .val (.ref w_RESPONSE)] []))
          refine ogo (fun t k => XS.aload X13.here hx rfl (hb hby d1_33) rfl rfl k) ?_
          show OwnEnds _ _ _ _ _ _ _ (T13.setTop (mkF m 35 #[.val (.long qv), .second, .val (.ref w_KINDS), .val (.int (4 : Int32)), .val (.int (3 : Int32)), .val (.ref w_RESPONSE)] [(.ref w_RESPONSE)]))
          refine endA X13 hx hlk Bd.returns rfl rfl (hb hby d1_35) (by decide) (by decide) ?_
          show Q1 Z qv w_PING w_REQUEST w_NOTIFY w_RESPONSE w_KINDS h0 n0 _ T13.heap _
          rw [e13]
          exact ⟨by simp [own_of, hc5, hc8, hc11, hc14], N0, rfl⟩
        · refine ogo (fun t k => XS.ifYes X13.here hx rfl (pc0 := 30) (pc' := 36) rfl (hb hby d1_30) rfl ((if0 _ _).trans (feq (fun q => (fun q => hc14 (Eq.symm q)) ((lw_eq (3 : Int64) qv).mp q))).2) (by decide) (by decide) k) ?_
          show OwnEnds _ _ _ _ _ _ _ (T13.setTop (mkF m 36 #[.val (.long qv), .second, .val (.ref w_KINDS), .val (.int (4 : Int32)), .val (.int (3 : Int32)), .val (.ref w_RESPONSE)] []))
          refine ogo (fun t k => XS.iinc X13.here hx rfl (hb hby d1_36) rfl (l' := #[.val (.long qv), .second, .val (.ref w_KINDS), .val (.int (4 : Int32)), .val (.int (4 : Int32)), .val (.ref w_RESPONSE)]) rfl k) ?_
          show OwnEnds _ _ _ _ _ _ _ (T13.setTop (mkF m 39 #[.val (.long qv), .second, .val (.ref w_KINDS), .val (.int (4 : Int32)), .val (.int (4 : Int32)), .val (.ref w_RESPONSE)] []))
          refine ogo (fun t k => XS.goto X13.here hx rfl (pc0 := 39) (pc' := 10) rfl (hb hby d1_39) (by decide) (by decide) k) ?_
          show OwnEnds _ _ _ _ _ _ _ (T13.setTop (mkF m 10 #[.val (.long qv), .second, .val (.ref w_KINDS), .val (.int (4 : Int32)), .val (.int (4 : Int32)), .val (.ref w_RESPONSE)] []))
          refine ogo (fun t k => XS.iload X13.here hx rfl (hb hby d1_10) rfl k) ?_
          show OwnEnds _ _ _ _ _ _ _ (T13.setTop (mkF m 12 #[.val (.long qv), .second, .val (.ref w_KINDS), .val (.int (4 : Int32)), .val (.int (4 : Int32)), .val (.ref w_RESPONSE)] [(.int (4 : Int32))]))
          refine ogo (fun t k => XS.iloadN X13.here hx rfl (hb hby d1_12) rfl k) ?_
          show OwnEnds _ _ _ _ _ _ _ (T13.setTop (mkF m 13 #[.val (.long qv), .second, .val (.ref w_KINDS), .val (.int (4 : Int32)), .val (.int (4 : Int32)), .val (.ref w_RESPONSE)] [(.int (4 : Int32)), (.int (4 : Int32))]))
          refine ogo (fun t k => XS.icmpYes X13.here hx rfl (pc0 := 13) (pc' := 42) rfl (hb hby d1_13) rfl (flt (by decide : ¬ ((4 : Int32) < (4 : Int32)))).2.1 (by decide) (by decide) k) ?_
          show OwnEnds _ _ _ _ _ _ _ (T13.setTop (mkF m 42 #[.val (.long qv), .second, .val (.ref w_KINDS), .val (.int (4 : Int32)), .val (.int (4 : Int32)), .val (.ref w_RESPONSE)] []))
          refine ogo (fun t k => XS.aconstNull X13.here hx rfl (hb hby d1_42) k) ?_
          show OwnEnds _ _ _ _ _ _ _ (T13.setTop (mkF m 43 #[.val (.long qv), .second, .val (.ref w_KINDS), .val (.int (4 : Int32)), .val (.int (4 : Int32)), .val (.ref w_RESPONSE)] [.null]))
          refine endA X13 hx hlk Bd.returns rfl rfl (hb hby d1_43) (by decide) (by decide) ?_
          show Q1 Z qv w_PING w_REQUEST w_NOTIFY w_RESPONSE w_KINDS h0 n0 _ T13.heap _
          rw [e13]
          exact ⟨by simp [own_of, hc5, hc8, hc11, hc14], N0, rfl⟩
theorem pn_KindOfCodePinLaw : plainName "com/example/packframe/packframe/onebyte/KindOfCodePinLaw" = true := by first | (simp [plainName, overriddenIn]; done) | decide +kernel
theorem pd__J_Lcom_example_packframe_packframe_onebyte_Kind_ : parseMethodDescriptor "(J)Lcom/example/packframe/packframe/onebyte/Kind;" = some ⟨[.long], some (.object "com/example/packframe/packframe/onebyte/Kind")⟩ := by decide +kernel
theorem ef_0 (m : MethodId) (x0 : Int64) (x1 : Int32) : entryFrame m #[(.long x0), (.int x1)] maxLocals = mkF m 0 #[.val (.long x0), .second, .val (.int x1), .unset, .unset, .unset, .unset] [] := by first | (simp [entryFrame, mkF, argsToLocals, Value.category, maxLocals]; done) | rfl
def Q0 (Z : State) (q0 : Int64) (p1 : Int32) (w_PING w_REQUEST w_NOTIFY w_RESPONSE w_KINDS : Addr) (h0 : Heap) (n0 : Nat) (v : Option Value) (h : Heap) (L : List Loc) : Prop := v = some (.int 1) ∧ Fr n0 L
set_option maxRecDepth 65536 in
set_option maxHeartbeats 40000000 in
theorem rm0 (l : Launch) (Z : State) (a0 : Array Value) (hw : ∀ d ∈ tables_1, d.before a0 Z = true) (ws : List Jvm.Cond) (q0 : Int64) (p1 : Int32) (w_PING w_REQUEST w_NOTIFY w_RESPONSE w_KINDS : Addr) (h0 : Heap) (n0 : Nat) (Z0 : n0 ≤ h0.size) (S_PING : Sta Z h0 "com/example/packframe/packframe/onebyte/Kind" "PING" "Lcom/example/packframe/packframe/onebyte/Kind;" (.ref w_PING)) (E_PING : Exa Z h0 w_PING "com/example/packframe/packframe/onebyte/Kind") (F_code_PING : Fld Z h0 w_PING "com/example/packframe/packframe/onebyte/Kind" "code" "I" (.int (0 : Int32))) (S_REQUEST : Sta Z h0 "com/example/packframe/packframe/onebyte/Kind" "REQUEST" "Lcom/example/packframe/packframe/onebyte/Kind;" (.ref w_REQUEST)) (E_REQUEST : Exa Z h0 w_REQUEST "com/example/packframe/packframe/onebyte/Kind") (F_code_REQUEST : Fld Z h0 w_REQUEST "com/example/packframe/packframe/onebyte/Kind" "code" "I" (.int (1 : Int32))) (S_NOTIFY : Sta Z h0 "com/example/packframe/packframe/onebyte/Kind" "NOTIFY" "Lcom/example/packframe/packframe/onebyte/Kind;" (.ref w_NOTIFY)) (E_NOTIFY : Exa Z h0 w_NOTIFY "com/example/packframe/packframe/onebyte/Kind") (F_code_NOTIFY : Fld Z h0 w_NOTIFY "com/example/packframe/packframe/onebyte/Kind" "code" "I" (.int (2 : Int32))) (S_RESPONSE : Sta Z h0 "com/example/packframe/packframe/onebyte/Kind" "RESPONSE" "Lcom/example/packframe/packframe/onebyte/Kind;" (.ref w_RESPONSE)) (E_RESPONSE : Exa Z h0 w_RESPONSE "com/example/packframe/packframe/onebyte/Kind") (F_code_RESPONSE : Fld Z h0 w_RESPONSE "com/example/packframe/packframe/onebyte/Kind" "code" "I" (.int (3 : Int32))) (S_KINDS : Sta Z h0 "com/example/packframe/packframe/onebyte/Kind" "KINDS" "[Lcom/example/packframe/packframe/onebyte/Kind;" (.ref w_KINDS)) (V_KINDS : ∃ k, Arv Z h0 w_KINDS k (.object "com/example/packframe/packframe/onebyte/Kind") (4 : Int32) [(.ref w_PING), (.ref w_REQUEST), (.ref w_NOTIFY), (.ref w_RESPONSE)] .null) :
    MetFree l x (head1 (Jvm.Cond.code x code maxLocals ret :: ws) room_1) (fun a U => a = #[(.long q0), (.int p1)] ∧ Z.Warmed39 U.vm ∧ U.heap = h0) (fun _ _ _ _ _ => True) (fun _ U o U' => ∃ v L, o = .returned v ∧ Q0 Z q0 p1 w_PING w_REQUEST w_NOTIFY w_RESPONSE w_KINDS h0 n0 v U'.heap L ∧ FrameEnd U o U' L 0 0) := by
  refine MetFree.of_bodySF (plainFor_of_name pn_KindOfCodePinLaw) hisR ?_
  intro p e s m args below meth c s₁ Bd hml0 hP hK
  obtain ⟨rfl, hZ, hh⟩ := hP
  have hx := Bd.exec
  have hby := Bd.bytes
  have hml : c.maxLocals = 7 := hml0
  have hown : s.vm.findClass "com/example/packframe/packframe/onebyte/KindOfCodePinLaw" = some m.cls := findClass_of_methodNamed Bd.named
  have hnm := (name_of_methodNamed Bd.named Bd.method).1
  have hlk : meth.locks = false := BodyLoose.notSynchronized Bd
  have X0 : Stand p l e room_1 s m #[(.long q0), (.int p1)] below meth c s₁ [] 0 0 := Stand.of_body Bd
  have e0 : s₁.heap = h0 := by rw [← hh, Bd.state]; rfl
  have N0 := Fr.nil n0
  refine ogo (U' := s₁.setTop (mkF m 0 #[.val (.long q0), .second, .val (.int p1), .unset, .unset, .unset, .unset] [])) (Q := Q0 Z q0 p1 w_PING w_REQUEST w_NOTIFY w_RESPONSE w_KINDS h0 n0) (K := 0) (N := 0) (fun t k => castTop (ef_0 m q0 p1) k) ?_
  show OwnEnds _ _ _ _ _ _ _ (s₁.setTop (mkF m 0 #[.val (.long q0), .second, .val (.int p1), .unset, .unset, .unset, .unset] []))
  refine ogo (fun t k => XS.iloadN X0.here hx rfl (hb hby at_0) rfl k) ?_
  show OwnEnds _ _ _ _ _ _ _ (s₁.setTop (mkF m 1 #[.val (.long q0), .second, .val (.int p1), .unset, .unset, .unset, .unset] [(.int p1)]))
  refine ogo (fun t k => XS.iconst X0.here hx rfl (hb hby at_1) k) ?_
  show OwnEnds _ _ _ _ _ _ _ (s₁.setTop (mkF m 2 #[.val (.long q0), .second, .val (.int p1), .unset, .unset, .unset, .unset] [(.int (1 : Int32)), (.int p1)]))
  refine ogo (fun t k => XS.iand X0.here hx rfl (hb hby at_2) rfl k) ?_
  show OwnEnds _ _ _ _ _ _ _ (s₁.setTop (mkF m 3 #[.val (.long q0), .second, .val (.int p1), .unset, .unset, .unset, .unset] [(.int (p1 &&& (1 : Int32)))]))
  by_cases hc1 : (p1 &&& (1 : Int32)) = (0 : Int32)
  · refine ogo (fun t k => XS.ifYes X0.here hx rfl (pc0 := 3) (pc' := 19) rfl (hb hby at_3) rfl ((if0 _ _).trans (teq hc1).1) (by decide) (by decide) k) ?_
    show OwnEnds _ _ _ _ _ _ _ (s₁.setTop (mkF m 19 #[.val (.long q0), .second, .val (.int p1), .unset, .unset, .unset, .unset] []))
    refine ogo (fun t k => XS.lloadN X0.here hx rfl (hb hby at_19) rfl k) ?_
    show OwnEnds _ _ _ _ _ _ _ (s₁.setTop (mkF m 20 #[.val (.long q0), .second, .val (.int p1), .unset, .unset, .unset, .unset] [(.long q0)]))
    refine ogo (fun t k => XS.lstoreN X0.here hx rfl (hb hby at_20) rfl (l' := #[.val (.long q0), .second, .val (.int p1), .val (.long q0), .second, .unset, .unset]) rfl k) ?_
    show OwnEnds _ _ _ _ _ _ _ (s₁.setTop (mkF m 21 #[.val (.long q0), .second, .val (.int p1), .val (.long q0), .second, .unset, .unset] []))
    refine ogo (fun t k => XS.lloadN X0.here hx rfl (hb hby at_21) rfl k) ?_
    show OwnEnds _ _ _ _ _ _ _ (s₁.setTop (mkF m 22 #[.val (.long q0), .second, .val (.int p1), .val (.long q0), .second, .unset, .unset] [(.long q0)]))
    obtain ⟨v2, _, ⟨T2, L2, k2, n2⟩, -, X2, ⟨Lc2, hQ2, l2, y2, z2⟩, st2⟩ := Jvm.LawKit.callS X0 hx (y := (⟨"com/example/packframe/packframe/onebyte/Kind", "ofCode", "(J)Lcom/example/packframe/packframe/onebyte/Kind;"⟩ : MethodName)) hown (mvT hZ (hw _ (List.mem_of_getElem? (i := 0) rfl))) (mvT hZ (hw _ (List.mem_of_getElem? (i := 1) rfl))) (mvT hZ (hw _ (List.mem_of_getElem? (i := 2) rfl))) (mvT hZ (hw _ (List.mem_of_getElem? (i := 3) rfl))) (by decide) (backOf (W := 0) (rm1 l Z a0 hw [] q0 w_PING w_REQUEST w_NOTIFY w_RESPONSE w_KINDS h0 n0 Z0 S_PING E_PING F_code_PING S_REQUEST E_REQUEST F_code_REQUEST S_NOTIFY E_NOTIFY F_code_NOTIFY S_RESPONSE E_RESPONSE F_code_RESPONSE S_KINDS V_KINDS) hZ (hw _ (List.mem_of_getElem? (i := 3) rfl)) (hw _ (List.mem_of_getElem? (i := 2) rfl)) (by decide) (by decide)) (g := (mkF m 22 #[.val (.long q0), .second, .val (.int p1), .val (.long q0), .second, .unset, .unset] [(.long q0)])) rfl (by rw [hml]; rfl) (argsL := [(.long q0)]) (rest := []) (lenOf pd__J_Lcom_example_packframe_packframe_onebyte_Kind_ rfl) rfl (by show 2 * 0 + _ ≤ _; exact Nat.le_of_eq rfl) (hb hby at_22) (fun _ _ => ⟨rfl, e0, (by decide : 0 + 0 ≤ _), (by decide : 0 + 0 ≤ _)⟩)
    dsimp only [Pt.U, Pt.locs, Pt.cells, Pt.slots] at X2 l2 y2 z2 st2 hQ2
    subst l2 y2 z2
    obtain ⟨rfl, N2q, e2⟩ := hQ2
    have N2 := Fr.app N0 N2q
    refine ogo (fun t k => st2 t k) ?_
    show OwnEnds _ _ _ _ _ _ _ (T2.setTop (mkF m 25 #[.val (.long q0), .second, .val (.int p1), .val (.long q0), .second, .unset, .unset] [(own_of q0 w_PING w_REQUEST w_NOTIFY w_RESPONSE)]))
    refine ogo (fun t k => XS.astore X2.here hx rfl (hb hby at_25) rfl (own_of_ref q0 w_PING w_REQUEST w_NOTIFY w_RESPONSE) (l' := #[.val (.long q0), .second, .val (.int p1), .val (.long q0), .second, .val (own_of q0 w_PING w_REQUEST w_NOTIFY w_RESPONSE), .unset]) (by rcases ref_cases (own_of_ref q0 w_PING w_REQUEST w_NOTIFY w_RESPONSE) with q | ⟨r, q⟩ <;> rw [q] <;> rfl) k) ?_
    show OwnEnds _ _ _ _ _ _ _ (T2.setTop (mkF m 27 #[.val (.long q0), .second, .val (.int p1), .val (.long q0), .second, .val (own_of q0 w_PING w_REQUEST w_NOTIFY w_RESPONSE), .unset] []))
    refine ogo (fun t k => XS.lloadN X2.here hx rfl (hb hby at_27) rfl k) ?_
    show OwnEnds _ _ _ _ _ _ _ (T2.setTop (mkF m 28 #[.val (.long q0), .second, .val (.int p1), .val (.long q0), .second, .val (own_of q0 w_PING w_REQUEST w_NOTIFY w_RESPONSE), .unset] [(.long q0)]))
    refine ogo (fun t k => XS.lconst X2.here hx rfl (hb hby at_28) k) ?_
    show OwnEnds _ _ _ _ _ _ _ (T2.setTop (mkF m 29 #[.val (.long q0), .second, .val (.int p1), .val (.long q0), .second, .val (own_of q0 w_PING w_REQUEST w_NOTIFY w_RESPONSE), .unset] [(.long (0 : Int64)), (.long q0)]))
    refine ogo (fun t k => XS.lcmp X2.here hx rfl (hb hby at_29) rfl k) ?_
    show OwnEnds _ _ _ _ _ _ _ (T2.setTop (mkF m 30 #[.val (.long q0), .second, .val (.int p1), .val (.long q0), .second, .val (own_of q0 w_PING w_REQUEST w_NOTIFY w_RESPONSE), .unset] [(.int (lcmpW q0 (0 : Int64)))]))
    by_cases hc3 : q0 = (0 : Int64)
    · refine ogo (fun t k => XS.ifNo X2.here hx rfl (hb hby at_30) rfl ((if0 _ _).trans (teq ((lw_eq q0 (0 : Int64)).mpr hc3)).2) k) ?_
      show OwnEnds _ _ _ _ _ _ _ (T2.setTop (mkF m 33 #[.val (.long q0), .second, .val (.int p1), .val (.long q0), .second, .val (own_of q0 w_PING w_REQUEST w_NOTIFY w_RESPONSE), .unset] []))
      obtain ⟨T4, X4, e4, st4⟩ := getS2 X2 hx hZ hown (host := "") (Or.inl (hw _ (List.mem_of_getElem? (i := 17) rfl))) Via.refl e2 S_PING (g := (mkF m 33 #[.val (.long q0), .second, .val (.int p1), .val (.long q0), .second, .val (own_of q0 w_PING w_REQUEST w_NOTIFY w_RESPONSE), .unset] [])) rfl (hb hby at_33)
      refine ogo st4 ?_
      show OwnEnds _ _ _ _ _ _ _ (T4.setTop (mkF m 36 #[.val (.long q0), .second, .val (.int p1), .val (.long q0), .second, .val (own_of q0 w_PING w_REQUEST w_NOTIFY w_RESPONSE), .unset] [(.ref w_PING)]))
      refine ogo (fun t k => XS.astore X4.here hx rfl (hb hby at_36) rfl rfl (l' := #[.val (.long q0), .second, .val (.int p1), .val (.long q0), .second, .val (own_of q0 w_PING w_REQUEST w_NOTIFY w_RESPONSE), .val (.ref w_PING)]) rfl k) ?_
      show OwnEnds _ _ _ _ _ _ _ (T4.setTop (mkF m 38 #[.val (.long q0), .second, .val (.int p1), .val (.long q0), .second, .val (own_of q0 w_PING w_REQUEST w_NOTIFY w_RESPONSE), .val (.ref w_PING)] []))
      refine ogo (fun t k => XS.goto X4.here hx rfl (pc0 := 38) (pc' := 90) rfl (hb hby at_38) (by decide) (by decide) k) ?_
      show OwnEnds _ _ _ _ _ _ _ (T4.setTop (mkF m 90 #[.val (.long q0), .second, .val (.int p1), .val (.long q0), .second, .val (own_of q0 w_PING w_REQUEST w_NOTIFY w_RESPONSE), .val (.ref w_PING)] []))
      refine ogo (fun t k => XS.aload X4.here hx rfl (hb hby at_90) rfl (own_of_ref q0 w_PING w_REQUEST w_NOTIFY w_RESPONSE) k) ?_
      show OwnEnds _ _ _ _ _ _ _ (T4.setTop (mkF m 92 #[.val (.long q0), .second, .val (.int p1), .val (.long q0), .second, .val (own_of q0 w_PING w_REQUEST w_NOTIFY w_RESPONSE), .val (.ref w_PING)] [(own_of q0 w_PING w_REQUEST w_NOTIFY w_RESPONSE)]))
      refine ogo (fun t k => XS.aload X4.here hx rfl (hb hby at_92) rfl rfl k) ?_
      show OwnEnds _ _ _ _ _ _ _ (T4.setTop (mkF m 94 #[.val (.long q0), .second, .val (.int p1), .val (.long q0), .second, .val (own_of q0 w_PING w_REQUEST w_NOTIFY w_RESPONSE), .val (.ref w_PING)] [(.ref w_PING), (own_of q0 w_PING w_REQUEST w_NOTIFY w_RESPONSE)]))
      refine ogo (fun t k => Jvm.RoadKit.acmp (g := (mkF m 94 #[.val (.long q0), .second, .val (.int p1), .val (.long q0), .second, .val (own_of q0 w_PING w_REQUEST w_NOTIFY w_RESPONSE), .val (.ref w_PING)] [(.ref w_PING), (own_of q0 w_PING w_REQUEST w_NOTIFY w_RESPONSE)])) X4 hx rfl (own_of_ref q0 w_PING w_REQUEST w_NOTIFY w_RESPONSE) rfl (pc0 := 94) (pc' := 97) (same := true) rfl (hb hby at_94) rfl (decide_eq_true (by simp [own_of, hc1, hc3])) (by decide) (by decide) k) ?_
      show OwnEnds _ _ _ _ _ _ _ (T4.setTop (mkF m 97 #[.val (.long q0), .second, .val (.int p1), .val (.long q0), .second, .val (own_of q0 w_PING w_REQUEST w_NOTIFY w_RESPONSE), .val (.ref w_PING)] []))
      refine ogo (fun t k => XS.iconst X4.here hx rfl (hb hby at_97) k) ?_
      show OwnEnds _ _ _ _ _ _ _ (T4.setTop (mkF m 98 #[.val (.long q0), .second, .val (.int p1), .val (.long q0), .second, .val (own_of q0 w_PING w_REQUEST w_NOTIFY w_RESPONSE), .val (.ref w_PING)] [(.int (1 : Int32))]))
      refine ogo (fun t k => XS.goto X4.here hx rfl (pc0 := 98) (pc' := 102) rfl (hb hby at_98) (by decide) (by decide) k) ?_
      show OwnEnds _ _ _ _ _ _ _ (T4.setTop (mkF m 102 #[.val (.long q0), .second, .val (.int p1), .val (.long q0), .second, .val (own_of q0 w_PING w_REQUEST w_NOTIFY w_RESPONSE), .val (.ref w_PING)] [(.int (1 : Int32))]))
      refine endZ X4 hx hlk Bd.returns rfl (hb hby at_102) (by decide) (by decide) ?_
      show Q0 Z q0 p1 w_PING w_REQUEST w_NOTIFY w_RESPONSE w_KINDS h0 n0 _ T4.heap _
      rw [e4]
      exact ⟨rfl, N2⟩
    · refine ogo (fun t k => XS.ifYes X2.here hx rfl (pc0 := 30) (pc' := 41) rfl (hb hby at_30) rfl ((if0 _ _).trans (feq (fun q => hc3 ((lw_eq q0 (0 : Int64)).mp q))).2) (by decide) (by decide) k) ?_
      show OwnEnds _ _ _ _ _ _ _ (T2.setTop (mkF m 41 #[.val (.long q0), .second, .val (.int p1), .val (.long q0), .second, .val (own_of q0 w_PING w_REQUEST w_NOTIFY w_RESPONSE), .unset] []))
      refine ogo (fun t k => XS.lloadN X2.here hx rfl (hb hby at_41) rfl k) ?_
      show OwnEnds _ _ _ _ _ _ _ (T2.setTop (mkF m 42 #[.val (.long q0), .second, .val (.int p1), .val (.long q0), .second, .val (own_of q0 w_PING w_REQUEST w_NOTIFY w_RESPONSE), .unset] [(.long q0)]))
      refine ogo (fun t k => XS.lconst X2.here hx rfl (hb hby at_42) k) ?_
      show OwnEnds _ _ _ _ _ _ _ (T2.setTop (mkF m 43 #[.val (.long q0), .second, .val (.int p1), .val (.long q0), .second, .val (own_of q0 w_PING w_REQUEST w_NOTIFY w_RESPONSE), .unset] [(.long (1 : Int64)), (.long q0)]))
      refine ogo (fun t k => XS.lcmp X2.here hx rfl (hb hby at_43) rfl k) ?_
      show OwnEnds _ _ _ _ _ _ _ (T2.setTop (mkF m 44 #[.val (.long q0), .second, .val (.int p1), .val (.long q0), .second, .val (own_of q0 w_PING w_REQUEST w_NOTIFY w_RESPONSE), .unset] [(.int (lcmpW q0 (1 : Int64)))]))
      by_cases hc5 : q0 = (1 : Int64)
      · refine ogo (fun t k => XS.ifNo X2.here hx rfl (hb hby at_44) rfl ((if0 _ _).trans (teq ((lw_eq q0 (1 : Int64)).mpr hc5)).2) k) ?_
        show OwnEnds _ _ _ _ _ _ _ (T2.setTop (mkF m 47 #[.val (.long q0), .second, .val (.int p1), .val (.long q0), .second, .val (own_of q0 w_PING w_REQUEST w_NOTIFY w_RESPONSE), .unset] []))
        obtain ⟨T6, X6, e6, st6⟩ := getS2 X2 hx hZ hown (host := "") (Or.inl (hw _ (List.mem_of_getElem? (i := 15) rfl))) Via.refl e2 S_REQUEST (g := (mkF m 47 #[.val (.long q0), .second, .val (.int p1), .val (.long q0), .second, .val (own_of q0 w_PING w_REQUEST w_NOTIFY w_RESPONSE), .unset] [])) rfl (hb hby at_47)
        refine ogo st6 ?_
        show OwnEnds _ _ _ _ _ _ _ (T6.setTop (mkF m 50 #[.val (.long q0), .second, .val (.int p1), .val (.long q0), .second, .val (own_of q0 w_PING w_REQUEST w_NOTIFY w_RESPONSE), .unset] [(.ref w_REQUEST)]))
        refine ogo (fun t k => XS.astore X6.here hx rfl (hb hby at_50) rfl rfl (l' := #[.val (.long q0), .second, .val (.int p1), .val (.long q0), .second, .val (own_of q0 w_PING w_REQUEST w_NOTIFY w_RESPONSE), .val (.ref w_REQUEST)]) rfl k) ?_
        show OwnEnds _ _ _ _ _ _ _ (T6.setTop (mkF m 52 #[.val (.long q0), .second, .val (.int p1), .val (.long q0), .second, .val (own_of q0 w_PING w_REQUEST w_NOTIFY w_RESPONSE), .val (.ref w_REQUEST)] []))
        refine ogo (fun t k => XS.goto X6.here hx rfl (pc0 := 52) (pc' := 90) rfl (hb hby at_52) (by decide) (by decide) k) ?_
        show OwnEnds _ _ _ _ _ _ _ (T6.setTop (mkF m 90 #[.val (.long q0), .second, .val (.int p1), .val (.long q0), .second, .val (own_of q0 w_PING w_REQUEST w_NOTIFY w_RESPONSE), .val (.ref w_REQUEST)] []))
        refine ogo (fun t k => XS.aload X6.here hx rfl (hb hby at_90) rfl (own_of_ref q0 w_PING w_REQUEST w_NOTIFY w_RESPONSE) k) ?_
        show OwnEnds _ _ _ _ _ _ _ (T6.setTop (mkF m 92 #[.val (.long q0), .second, .val (.int p1), .val (.long q0), .second, .val (own_of q0 w_PING w_REQUEST w_NOTIFY w_RESPONSE), .val (.ref w_REQUEST)] [(own_of q0 w_PING w_REQUEST w_NOTIFY w_RESPONSE)]))
        refine ogo (fun t k => XS.aload X6.here hx rfl (hb hby at_92) rfl rfl k) ?_
        show OwnEnds _ _ _ _ _ _ _ (T6.setTop (mkF m 94 #[.val (.long q0), .second, .val (.int p1), .val (.long q0), .second, .val (own_of q0 w_PING w_REQUEST w_NOTIFY w_RESPONSE), .val (.ref w_REQUEST)] [(.ref w_REQUEST), (own_of q0 w_PING w_REQUEST w_NOTIFY w_RESPONSE)]))
        refine ogo (fun t k => Jvm.RoadKit.acmp (g := (mkF m 94 #[.val (.long q0), .second, .val (.int p1), .val (.long q0), .second, .val (own_of q0 w_PING w_REQUEST w_NOTIFY w_RESPONSE), .val (.ref w_REQUEST)] [(.ref w_REQUEST), (own_of q0 w_PING w_REQUEST w_NOTIFY w_RESPONSE)])) X6 hx rfl (own_of_ref q0 w_PING w_REQUEST w_NOTIFY w_RESPONSE) rfl (pc0 := 94) (pc' := 97) (same := true) rfl (hb hby at_94) rfl (decide_eq_true (by simp [own_of, hc1, hc3, hc5])) (by decide) (by decide) k) ?_
        show OwnEnds _ _ _ _ _ _ _ (T6.setTop (mkF m 97 #[.val (.long q0), .second, .val (.int p1), .val (.long q0), .second, .val (own_of q0 w_PING w_REQUEST w_NOTIFY w_RESPONSE), .val (.ref w_REQUEST)] []))
        refine ogo (fun t k => XS.iconst X6.here hx rfl (hb hby at_97) k) ?_
        show OwnEnds _ _ _ _ _ _ _ (T6.setTop (mkF m 98 #[.val (.long q0), .second, .val (.int p1), .val (.long q0), .second, .val (own_of q0 w_PING w_REQUEST w_NOTIFY w_RESPONSE), .val (.ref w_REQUEST)] [(.int (1 : Int32))]))
        refine ogo (fun t k => XS.goto X6.here hx rfl (pc0 := 98) (pc' := 102) rfl (hb hby at_98) (by decide) (by decide) k) ?_
        show OwnEnds _ _ _ _ _ _ _ (T6.setTop (mkF m 102 #[.val (.long q0), .second, .val (.int p1), .val (.long q0), .second, .val (own_of q0 w_PING w_REQUEST w_NOTIFY w_RESPONSE), .val (.ref w_REQUEST)] [(.int (1 : Int32))]))
        refine endZ X6 hx hlk Bd.returns rfl (hb hby at_102) (by decide) (by decide) ?_
        show Q0 Z q0 p1 w_PING w_REQUEST w_NOTIFY w_RESPONSE w_KINDS h0 n0 _ T6.heap _
        rw [e6]
        exact ⟨rfl, N2⟩
      · refine ogo (fun t k => XS.ifYes X2.here hx rfl (pc0 := 44) (pc' := 55) rfl (hb hby at_44) rfl ((if0 _ _).trans (feq (fun q => hc5 ((lw_eq q0 (1 : Int64)).mp q))).2) (by decide) (by decide) k) ?_
        show OwnEnds _ _ _ _ _ _ _ (T2.setTop (mkF m 55 #[.val (.long q0), .second, .val (.int p1), .val (.long q0), .second, .val (own_of q0 w_PING w_REQUEST w_NOTIFY w_RESPONSE), .unset] []))
        refine ogo (fun t k => XS.lloadN X2.here hx rfl (hb hby at_55) rfl k) ?_
        show OwnEnds _ _ _ _ _ _ _ (T2.setTop (mkF m 56 #[.val (.long q0), .second, .val (.int p1), .val (.long q0), .second, .val (own_of q0 w_PING w_REQUEST w_NOTIFY w_RESPONSE), .unset] [(.long q0)]))
        refine ogo (fun t k => X2.ldc2Long hx hown (mvT hZ (hw _ (List.mem_of_getElem? (i := 12) rfl))) (g := (mkF m 56 #[.val (.long q0), .second, .val (.int p1), .val (.long q0), .second, .val (own_of q0 w_PING w_REQUEST w_NOTIFY w_RESPONSE), .unset] [(.long q0)])) rfl (hb hby at_56) t k) ?_
        show OwnEnds _ _ _ _ _ _ _ (T2.setTop (mkF m 59 #[.val (.long q0), .second, .val (.int p1), .val (.long q0), .second, .val (own_of q0 w_PING w_REQUEST w_NOTIFY w_RESPONSE), .unset] [(.long (2 : Int64)), (.long q0)]))
        refine ogo (fun t k => XS.lcmp X2.here hx rfl (hb hby at_59) rfl k) ?_
        show OwnEnds _ _ _ _ _ _ _ (T2.setTop (mkF m 60 #[.val (.long q0), .second, .val (.int p1), .val (.long q0), .second, .val (own_of q0 w_PING w_REQUEST w_NOTIFY w_RESPONSE), .unset] [(.int (lcmpW q0 (2 : Int64)))]))
        by_cases hc7 : q0 = (2 : Int64)
        · refine ogo (fun t k => XS.ifNo X2.here hx rfl (hb hby at_60) rfl ((if0 _ _).trans (teq ((lw_eq q0 (2 : Int64)).mpr hc7)).2) k) ?_
          show OwnEnds _ _ _ _ _ _ _ (T2.setTop (mkF m 63 #[.val (.long q0), .second, .val (.int p1), .val (.long q0), .second, .val (own_of q0 w_PING w_REQUEST w_NOTIFY w_RESPONSE), .unset] []))
          obtain ⟨T8, X8, e8, st8⟩ := getS2 X2 hx hZ hown (host := "") (Or.inl (hw _ (List.mem_of_getElem? (i := 16) rfl))) Via.refl e2 S_NOTIFY (g := (mkF m 63 #[.val (.long q0), .second, .val (.int p1), .val (.long q0), .second, .val (own_of q0 w_PING w_REQUEST w_NOTIFY w_RESPONSE), .unset] [])) rfl (hb hby at_63)
          refine ogo st8 ?_
          show OwnEnds _ _ _ _ _ _ _ (T8.setTop (mkF m 66 #[.val (.long q0), .second, .val (.int p1), .val (.long q0), .second, .val (own_of q0 w_PING w_REQUEST w_NOTIFY w_RESPONSE), .unset] [(.ref w_NOTIFY)]))
          refine ogo (fun t k => XS.astore X8.here hx rfl (hb hby at_66) rfl rfl (l' := #[.val (.long q0), .second, .val (.int p1), .val (.long q0), .second, .val (own_of q0 w_PING w_REQUEST w_NOTIFY w_RESPONSE), .val (.ref w_NOTIFY)]) rfl k) ?_
          show OwnEnds _ _ _ _ _ _ _ (T8.setTop (mkF m 68 #[.val (.long q0), .second, .val (.int p1), .val (.long q0), .second, .val (own_of q0 w_PING w_REQUEST w_NOTIFY w_RESPONSE), .val (.ref w_NOTIFY)] []))
          refine ogo (fun t k => XS.goto X8.here hx rfl (pc0 := 68) (pc' := 90) rfl (hb hby at_68) (by decide) (by decide) k) ?_
          show OwnEnds _ _ _ _ _ _ _ (T8.setTop (mkF m 90 #[.val (.long q0), .second, .val (.int p1), .val (.long q0), .second, .val (own_of q0 w_PING w_REQUEST w_NOTIFY w_RESPONSE), .val (.ref w_NOTIFY)] []))
          refine ogo (fun t k => XS.aload X8.here hx rfl (hb hby at_90) rfl (own_of_ref q0 w_PING w_REQUEST w_NOTIFY w_RESPONSE) k) ?_
          show OwnEnds _ _ _ _ _ _ _ (T8.setTop (mkF m 92 #[.val (.long q0), .second, .val (.int p1), .val (.long q0), .second, .val (own_of q0 w_PING w_REQUEST w_NOTIFY w_RESPONSE), .val (.ref w_NOTIFY)] [(own_of q0 w_PING w_REQUEST w_NOTIFY w_RESPONSE)]))
          refine ogo (fun t k => XS.aload X8.here hx rfl (hb hby at_92) rfl rfl k) ?_
          show OwnEnds _ _ _ _ _ _ _ (T8.setTop (mkF m 94 #[.val (.long q0), .second, .val (.int p1), .val (.long q0), .second, .val (own_of q0 w_PING w_REQUEST w_NOTIFY w_RESPONSE), .val (.ref w_NOTIFY)] [(.ref w_NOTIFY), (own_of q0 w_PING w_REQUEST w_NOTIFY w_RESPONSE)]))
          refine ogo (fun t k => Jvm.RoadKit.acmp (g := (mkF m 94 #[.val (.long q0), .second, .val (.int p1), .val (.long q0), .second, .val (own_of q0 w_PING w_REQUEST w_NOTIFY w_RESPONSE), .val (.ref w_NOTIFY)] [(.ref w_NOTIFY), (own_of q0 w_PING w_REQUEST w_NOTIFY w_RESPONSE)])) X8 hx rfl (own_of_ref q0 w_PING w_REQUEST w_NOTIFY w_RESPONSE) rfl (pc0 := 94) (pc' := 97) (same := true) rfl (hb hby at_94) rfl (decide_eq_true (by simp [own_of, hc1, hc3, hc5, hc7])) (by decide) (by decide) k) ?_
          show OwnEnds _ _ _ _ _ _ _ (T8.setTop (mkF m 97 #[.val (.long q0), .second, .val (.int p1), .val (.long q0), .second, .val (own_of q0 w_PING w_REQUEST w_NOTIFY w_RESPONSE), .val (.ref w_NOTIFY)] []))
          refine ogo (fun t k => XS.iconst X8.here hx rfl (hb hby at_97) k) ?_
          show OwnEnds _ _ _ _ _ _ _ (T8.setTop (mkF m 98 #[.val (.long q0), .second, .val (.int p1), .val (.long q0), .second, .val (own_of q0 w_PING w_REQUEST w_NOTIFY w_RESPONSE), .val (.ref w_NOTIFY)] [(.int (1 : Int32))]))
          refine ogo (fun t k => XS.goto X8.here hx rfl (pc0 := 98) (pc' := 102) rfl (hb hby at_98) (by decide) (by decide) k) ?_
          show OwnEnds _ _ _ _ _ _ _ (T8.setTop (mkF m 102 #[.val (.long q0), .second, .val (.int p1), .val (.long q0), .second, .val (own_of q0 w_PING w_REQUEST w_NOTIFY w_RESPONSE), .val (.ref w_NOTIFY)] [(.int (1 : Int32))]))
          refine endZ X8 hx hlk Bd.returns rfl (hb hby at_102) (by decide) (by decide) ?_
          show Q0 Z q0 p1 w_PING w_REQUEST w_NOTIFY w_RESPONSE w_KINDS h0 n0 _ T8.heap _
          rw [e8]
          exact ⟨rfl, N2⟩
        · refine ogo (fun t k => XS.ifYes X2.here hx rfl (pc0 := 60) (pc' := 71) rfl (hb hby at_60) rfl ((if0 _ _).trans (feq (fun q => hc7 ((lw_eq q0 (2 : Int64)).mp q))).2) (by decide) (by decide) k) ?_
          show OwnEnds _ _ _ _ _ _ _ (T2.setTop (mkF m 71 #[.val (.long q0), .second, .val (.int p1), .val (.long q0), .second, .val (own_of q0 w_PING w_REQUEST w_NOTIFY w_RESPONSE), .unset] []))
          refine ogo (fun t k => XS.lloadN X2.here hx rfl (hb hby at_71) rfl k) ?_
          show OwnEnds _ _ _ _ _ _ _ (T2.setTop (mkF m 72 #[.val (.long q0), .second, .val (.int p1), .val (.long q0), .second, .val (own_of q0 w_PING w_REQUEST w_NOTIFY w_RESPONSE), .unset] [(.long q0)]))
          refine ogo (fun t k => X2.ldc2Long hx hown (mvT hZ (hw _ (List.mem_of_getElem? (i := 13) rfl))) (g := (mkF m 72 #[.val (.long q0), .second, .val (.int p1), .val (.long q0), .second, .val (own_of q0 w_PING w_REQUEST w_NOTIFY w_RESPONSE), .unset] [(.long q0)])) rfl (hb hby at_72) t k) ?_
          show OwnEnds _ _ _ _ _ _ _ (T2.setTop (mkF m 75 #[.val (.long q0), .second, .val (.int p1), .val (.long q0), .second, .val (own_of q0 w_PING w_REQUEST w_NOTIFY w_RESPONSE), .unset] [(.long (3 : Int64)), (.long q0)]))
          refine ogo (fun t k => XS.lcmp X2.here hx rfl (hb hby at_75) rfl k) ?_
          show OwnEnds _ _ _ _ _ _ _ (T2.setTop (mkF m 76 #[.val (.long q0), .second, .val (.int p1), .val (.long q0), .second, .val (own_of q0 w_PING w_REQUEST w_NOTIFY w_RESPONSE), .unset] [(.int (lcmpW q0 (3 : Int64)))]))
          by_cases hc9 : q0 = (3 : Int64)
          · refine ogo (fun t k => XS.ifNo X2.here hx rfl (hb hby at_76) rfl ((if0 _ _).trans (teq ((lw_eq q0 (3 : Int64)).mpr hc9)).2) k) ?_
            show OwnEnds _ _ _ _ _ _ _ (T2.setTop (mkF m 79 #[.val (.long q0), .second, .val (.int p1), .val (.long q0), .second, .val (own_of q0 w_PING w_REQUEST w_NOTIFY w_RESPONSE), .unset] []))
            obtain ⟨T10, X10, e10, st10⟩ := getS2 X2 hx hZ hown (host := "") (Or.inl (hw _ (List.mem_of_getElem? (i := 14) rfl))) Via.refl e2 S_RESPONSE (g := (mkF m 79 #[.val (.long q0), .second, .val (.int p1), .val (.long q0), .second, .val (own_of q0 w_PING w_REQUEST w_NOTIFY w_RESPONSE), .unset] [])) rfl (hb hby at_79)
            refine ogo st10 ?_
            show OwnEnds _ _ _ _ _ _ _ (T10.setTop (mkF m 82 #[.val (.long q0), .second, .val (.int p1), .val (.long q0), .second, .val (own_of q0 w_PING w_REQUEST w_NOTIFY w_RESPONSE), .unset] [(.ref w_RESPONSE)]))
            refine ogo (fun t k => XS.astore X10.here hx rfl (hb hby at_82) rfl rfl (l' := #[.val (.long q0), .second, .val (.int p1), .val (.long q0), .second, .val (own_of q0 w_PING w_REQUEST w_NOTIFY w_RESPONSE), .val (.ref w_RESPONSE)]) rfl k) ?_
            show OwnEnds _ _ _ _ _ _ _ (T10.setTop (mkF m 84 #[.val (.long q0), .second, .val (.int p1), .val (.long q0), .second, .val (own_of q0 w_PING w_REQUEST w_NOTIFY w_RESPONSE), .val (.ref w_RESPONSE)] []))
            refine ogo (fun t k => XS.goto X10.here hx rfl (pc0 := 84) (pc' := 90) rfl (hb hby at_84) (by decide) (by decide) k) ?_
            show OwnEnds _ _ _ _ _ _ _ (T10.setTop (mkF m 90 #[.val (.long q0), .second, .val (.int p1), .val (.long q0), .second, .val (own_of q0 w_PING w_REQUEST w_NOTIFY w_RESPONSE), .val (.ref w_RESPONSE)] []))
            refine ogo (fun t k => XS.aload X10.here hx rfl (hb hby at_90) rfl (own_of_ref q0 w_PING w_REQUEST w_NOTIFY w_RESPONSE) k) ?_
            show OwnEnds _ _ _ _ _ _ _ (T10.setTop (mkF m 92 #[.val (.long q0), .second, .val (.int p1), .val (.long q0), .second, .val (own_of q0 w_PING w_REQUEST w_NOTIFY w_RESPONSE), .val (.ref w_RESPONSE)] [(own_of q0 w_PING w_REQUEST w_NOTIFY w_RESPONSE)]))
            refine ogo (fun t k => XS.aload X10.here hx rfl (hb hby at_92) rfl rfl k) ?_
            show OwnEnds _ _ _ _ _ _ _ (T10.setTop (mkF m 94 #[.val (.long q0), .second, .val (.int p1), .val (.long q0), .second, .val (own_of q0 w_PING w_REQUEST w_NOTIFY w_RESPONSE), .val (.ref w_RESPONSE)] [(.ref w_RESPONSE), (own_of q0 w_PING w_REQUEST w_NOTIFY w_RESPONSE)]))
            refine ogo (fun t k => Jvm.RoadKit.acmp (g := (mkF m 94 #[.val (.long q0), .second, .val (.int p1), .val (.long q0), .second, .val (own_of q0 w_PING w_REQUEST w_NOTIFY w_RESPONSE), .val (.ref w_RESPONSE)] [(.ref w_RESPONSE), (own_of q0 w_PING w_REQUEST w_NOTIFY w_RESPONSE)])) X10 hx rfl (own_of_ref q0 w_PING w_REQUEST w_NOTIFY w_RESPONSE) rfl (pc0 := 94) (pc' := 97) (same := true) rfl (hb hby at_94) rfl (decide_eq_true (by simp [own_of, hc1, hc3, hc5, hc7, hc9])) (by decide) (by decide) k) ?_
            show OwnEnds _ _ _ _ _ _ _ (T10.setTop (mkF m 97 #[.val (.long q0), .second, .val (.int p1), .val (.long q0), .second, .val (own_of q0 w_PING w_REQUEST w_NOTIFY w_RESPONSE), .val (.ref w_RESPONSE)] []))
            refine ogo (fun t k => XS.iconst X10.here hx rfl (hb hby at_97) k) ?_
            show OwnEnds _ _ _ _ _ _ _ (T10.setTop (mkF m 98 #[.val (.long q0), .second, .val (.int p1), .val (.long q0), .second, .val (own_of q0 w_PING w_REQUEST w_NOTIFY w_RESPONSE), .val (.ref w_RESPONSE)] [(.int (1 : Int32))]))
            refine ogo (fun t k => XS.goto X10.here hx rfl (pc0 := 98) (pc' := 102) rfl (hb hby at_98) (by decide) (by decide) k) ?_
            show OwnEnds _ _ _ _ _ _ _ (T10.setTop (mkF m 102 #[.val (.long q0), .second, .val (.int p1), .val (.long q0), .second, .val (own_of q0 w_PING w_REQUEST w_NOTIFY w_RESPONSE), .val (.ref w_RESPONSE)] [(.int (1 : Int32))]))
            refine endZ X10 hx hlk Bd.returns rfl (hb hby at_102) (by decide) (by decide) ?_
            show Q0 Z q0 p1 w_PING w_REQUEST w_NOTIFY w_RESPONSE w_KINDS h0 n0 _ T10.heap _
            rw [e10]
            exact ⟨rfl, N2⟩
          · refine ogo (fun t k => XS.ifYes X2.here hx rfl (pc0 := 76) (pc' := 87) rfl (hb hby at_76) rfl ((if0 _ _).trans (feq (fun q => hc9 ((lw_eq q0 (3 : Int64)).mp q))).2) (by decide) (by decide) k) ?_
            show OwnEnds _ _ _ _ _ _ _ (T2.setTop (mkF m 87 #[.val (.long q0), .second, .val (.int p1), .val (.long q0), .second, .val (own_of q0 w_PING w_REQUEST w_NOTIFY w_RESPONSE), .unset] []))
            refine ogo (fun t k => XS.aconstNull X2.here hx rfl (hb hby at_87) k) ?_
            show OwnEnds _ _ _ _ _ _ _ (T2.setTop (mkF m 88 #[.val (.long q0), .second, .val (.int p1), .val (.long q0), .second, .val (own_of q0 w_PING w_REQUEST w_NOTIFY w_RESPONSE), .unset] [.null]))
            refine ogo (fun t k => XS.astore X2.here hx rfl (hb hby at_88) rfl rfl (l' := #[.val (.long q0), .second, .val (.int p1), .val (.long q0), .second, .val (own_of q0 w_PING w_REQUEST w_NOTIFY w_RESPONSE), .val .null]) rfl k) ?_
            show OwnEnds _ _ _ _ _ _ _ (T2.setTop (mkF m 90 #[.val (.long q0), .second, .val (.int p1), .val (.long q0), .second, .val (own_of q0 w_PING w_REQUEST w_NOTIFY w_RESPONSE), .val .null] []))
            refine ogo (fun t k => XS.aload X2.here hx rfl (hb hby at_90) rfl (own_of_ref q0 w_PING w_REQUEST w_NOTIFY w_RESPONSE) k) ?_
            show OwnEnds _ _ _ _ _ _ _ (T2.setTop (mkF m 92 #[.val (.long q0), .second, .val (.int p1), .val (.long q0), .second, .val (own_of q0 w_PING w_REQUEST w_NOTIFY w_RESPONSE), .val .null] [(own_of q0 w_PING w_REQUEST w_NOTIFY w_RESPONSE)]))
            refine ogo (fun t k => XS.aload X2.here hx rfl (hb hby at_92) rfl rfl k) ?_
            show OwnEnds _ _ _ _ _ _ _ (T2.setTop (mkF m 94 #[.val (.long q0), .second, .val (.int p1), .val (.long q0), .second, .val (own_of q0 w_PING w_REQUEST w_NOTIFY w_RESPONSE), .val .null] [.null, (own_of q0 w_PING w_REQUEST w_NOTIFY w_RESPONSE)]))
            refine ogo (fun t k => Jvm.RoadKit.acmp (g := (mkF m 94 #[.val (.long q0), .second, .val (.int p1), .val (.long q0), .second, .val (own_of q0 w_PING w_REQUEST w_NOTIFY w_RESPONSE), .val .null] [.null, (own_of q0 w_PING w_REQUEST w_NOTIFY w_RESPONSE)])) X2 hx rfl (own_of_ref q0 w_PING w_REQUEST w_NOTIFY w_RESPONSE) rfl (pc0 := 94) (pc' := 97) (same := true) rfl (hb hby at_94) rfl (decide_eq_true (by simp [own_of, hc1, hc3, hc5, hc7, hc9])) (by decide) (by decide) k) ?_
            show OwnEnds _ _ _ _ _ _ _ (T2.setTop (mkF m 97 #[.val (.long q0), .second, .val (.int p1), .val (.long q0), .second, .val (own_of q0 w_PING w_REQUEST w_NOTIFY w_RESPONSE), .val .null] []))
            refine ogo (fun t k => XS.iconst X2.here hx rfl (hb hby at_97) k) ?_
            show OwnEnds _ _ _ _ _ _ _ (T2.setTop (mkF m 98 #[.val (.long q0), .second, .val (.int p1), .val (.long q0), .second, .val (own_of q0 w_PING w_REQUEST w_NOTIFY w_RESPONSE), .val .null] [(.int (1 : Int32))]))
            refine ogo (fun t k => XS.goto X2.here hx rfl (pc0 := 98) (pc' := 102) rfl (hb hby at_98) (by decide) (by decide) k) ?_
            show OwnEnds _ _ _ _ _ _ _ (T2.setTop (mkF m 102 #[.val (.long q0), .second, .val (.int p1), .val (.long q0), .second, .val (own_of q0 w_PING w_REQUEST w_NOTIFY w_RESPONSE), .val .null] [(.int (1 : Int32))]))
            refine endZ X2 hx hlk Bd.returns rfl (hb hby at_102) (by decide) (by decide) ?_
            show Q0 Z q0 p1 w_PING w_REQUEST w_NOTIFY w_RESPONSE w_KINDS h0 n0 _ T2.heap _
            rw [e2]
            exact ⟨rfl, N2⟩
  · refine ogo (fun t k => XS.ifNo X0.here hx rfl (hb hby at_3) rfl ((if0 _ _).trans (feq hc1).1) k) ?_
    show OwnEnds _ _ _ _ _ _ _ (s₁.setTop (mkF m 6 #[.val (.long q0), .second, .val (.int p1), .unset, .unset, .unset, .unset] []))
    refine ogo (fun t k => XS.iloadN X0.here hx rfl (hb hby at_6) rfl k) ?_
    show OwnEnds _ _ _ _ _ _ _ (s₁.setTop (mkF m 7 #[.val (.long q0), .second, .val (.int p1), .unset, .unset, .unset, .unset] [(.int p1)]))
    refine ogo (fun t k => XS.iconst X0.here hx rfl (hb hby at_7) k) ?_
    show OwnEnds _ _ _ _ _ _ _ (s₁.setTop (mkF m 8 #[.val (.long q0), .second, .val (.int p1), .unset, .unset, .unset, .unset] [(.int (1 : Int32)), (.int p1)]))
    refine ogo (fun t k => XS.ishr X0.here hx rfl (hb hby at_8) rfl k) ?_
    show OwnEnds _ _ _ _ _ _ _ (s₁.setTop (mkF m 9 #[.val (.long q0), .second, .val (.int p1), .unset, .unset, .unset, .unset] [(.int (p1 >>> ((1 : Int32) &&& 31)))]))
    refine ogo (fun t k => XS.bipush X0.here hx rfl (hb hby at_9) k) ?_
    show OwnEnds _ _ _ _ _ _ _ (s₁.setTop (mkF m 11 #[.val (.long q0), .second, .val (.int p1), .unset, .unset, .unset, .unset] [(.int (7 : Int32)), (.int (p1 >>> ((1 : Int32) &&& 31)))]))
    refine ogo (fun t k => XS.iand X0.here hx rfl (hb hby at_11) rfl k) ?_
    show OwnEnds _ _ _ _ _ _ _ (s₁.setTop (mkF m 12 #[.val (.long q0), .second, .val (.int p1), .unset, .unset, .unset, .unset] [(.int ((p1 >>> ((1 : Int32) &&& 31)) &&& (7 : Int32)))]))
    refine ogo (fun t k => XS.iconst X0.here hx rfl (hb hby at_12) k) ?_
    show OwnEnds _ _ _ _ _ _ _ (s₁.setTop (mkF m 13 #[.val (.long q0), .second, .val (.int p1), .unset, .unset, .unset, .unset] [(.int (2 : Int32)), (.int ((p1 >>> ((1 : Int32) &&& 31)) &&& (7 : Int32)))]))
    refine ogo (fun t k => XS.isub X0.here hx rfl (hb hby at_13) rfl k) ?_
    show OwnEnds _ _ _ _ _ _ _ (s₁.setTop (mkF m 14 #[.val (.long q0), .second, .val (.int p1), .unset, .unset, .unset, .unset] [(.int (((p1 >>> ((1 : Int32) &&& 31)) &&& (7 : Int32)) - (2 : Int32)))]))
    refine ogo (fun t k => XS.i2l X0.here hx rfl (hb hby at_14) rfl k) ?_
    show OwnEnds _ _ _ _ _ _ _ (s₁.setTop (mkF m 15 #[.val (.long q0), .second, .val (.int p1), .unset, .unset, .unset, .unset] [(.long ((((p1 >>> ((1 : Int32) &&& 31)) &&& (7 : Int32)) - (2 : Int32)).toInt64))]))
    refine ogo (fun t k => XS.lstoreN X0.here hx rfl (hb hby at_15) rfl (l' := #[.val (.long q0), .second, .val (.int p1), .val (.long ((((p1 >>> ((1 : Int32) &&& 31)) &&& (7 : Int32)) - (2 : Int32)).toInt64)), .second, .unset, .unset]) rfl k) ?_
    show OwnEnds _ _ _ _ _ _ _ (s₁.setTop (mkF m 16 #[.val (.long q0), .second, .val (.int p1), .val (.long ((((p1 >>> ((1 : Int32) &&& 31)) &&& (7 : Int32)) - (2 : Int32)).toInt64)), .second, .unset, .unset] []))
    refine ogo (fun t k => XS.goto X0.here hx rfl (pc0 := 16) (pc' := 21) rfl (hb hby at_16) (by decide) (by decide) k) ?_
    show OwnEnds _ _ _ _ _ _ _ (s₁.setTop (mkF m 21 #[.val (.long q0), .second, .val (.int p1), .val (.long ((((p1 >>> ((1 : Int32) &&& 31)) &&& (7 : Int32)) - (2 : Int32)).toInt64)), .second, .unset, .unset] []))
    refine ogo (fun t k => XS.lloadN X0.here hx rfl (hb hby at_21) rfl k) ?_
    show OwnEnds _ _ _ _ _ _ _ (s₁.setTop (mkF m 22 #[.val (.long q0), .second, .val (.int p1), .val (.long ((((p1 >>> ((1 : Int32) &&& 31)) &&& (7 : Int32)) - (2 : Int32)).toInt64)), .second, .unset, .unset] [(.long ((((p1 >>> ((1 : Int32) &&& 31)) &&& (7 : Int32)) - (2 : Int32)).toInt64))]))
    obtain ⟨v11, _, ⟨T11, L11, k11, n11⟩, -, X11, ⟨Lc11, hQ11, l11, y11, z11⟩, st11⟩ := Jvm.LawKit.callS X0 hx (y := (⟨"com/example/packframe/packframe/onebyte/Kind", "ofCode", "(J)Lcom/example/packframe/packframe/onebyte/Kind;"⟩ : MethodName)) hown (mvT hZ (hw _ (List.mem_of_getElem? (i := 0) rfl))) (mvT hZ (hw _ (List.mem_of_getElem? (i := 1) rfl))) (mvT hZ (hw _ (List.mem_of_getElem? (i := 2) rfl))) (mvT hZ (hw _ (List.mem_of_getElem? (i := 3) rfl))) (by decide) (backOf (W := 0) (rm1 l Z a0 hw [] ((((p1 >>> ((1 : Int32) &&& 31)) &&& (7 : Int32)) - (2 : Int32)).toInt64) w_PING w_REQUEST w_NOTIFY w_RESPONSE w_KINDS h0 n0 Z0 S_PING E_PING F_code_PING S_REQUEST E_REQUEST F_code_REQUEST S_NOTIFY E_NOTIFY F_code_NOTIFY S_RESPONSE E_RESPONSE F_code_RESPONSE S_KINDS V_KINDS) hZ (hw _ (List.mem_of_getElem? (i := 3) rfl)) (hw _ (List.mem_of_getElem? (i := 2) rfl)) (by decide) (by decide)) (g := (mkF m 22 #[.val (.long q0), .second, .val (.int p1), .val (.long ((((p1 >>> ((1 : Int32) &&& 31)) &&& (7 : Int32)) - (2 : Int32)).toInt64)), .second, .unset, .unset] [(.long ((((p1 >>> ((1 : Int32) &&& 31)) &&& (7 : Int32)) - (2 : Int32)).toInt64))])) rfl (by rw [hml]; rfl) (argsL := [(.long ((((p1 >>> ((1 : Int32) &&& 31)) &&& (7 : Int32)) - (2 : Int32)).toInt64))]) (rest := []) (lenOf pd__J_Lcom_example_packframe_packframe_onebyte_Kind_ rfl) rfl (by show 2 * 0 + _ ≤ _; exact Nat.le_of_eq rfl) (hb hby at_22) (fun _ _ => ⟨rfl, e0, (by decide : 0 + 0 ≤ _), (by decide : 0 + 0 ≤ _)⟩)
    dsimp only [Pt.U, Pt.locs, Pt.cells, Pt.slots] at X11 l11 y11 z11 st11 hQ11
    subst l11 y11 z11
    obtain ⟨rfl, N11q, e11⟩ := hQ11
    have N11 := Fr.app N0 N11q
    refine ogo (fun t k => st11 t k) ?_
    show OwnEnds _ _ _ _ _ _ _ (T11.setTop (mkF m 25 #[.val (.long q0), .second, .val (.int p1), .val (.long ((((p1 >>> ((1 : Int32) &&& 31)) &&& (7 : Int32)) - (2 : Int32)).toInt64)), .second, .unset, .unset] [(own_of ((((p1 >>> ((1 : Int32) &&& 31)) &&& (7 : Int32)) - (2 : Int32)).toInt64) w_PING w_REQUEST w_NOTIFY w_RESPONSE)]))
    refine ogo (fun t k => XS.astore X11.here hx rfl (hb hby at_25) rfl (own_of_ref ((((p1 >>> ((1 : Int32) &&& 31)) &&& (7 : Int32)) - (2 : Int32)).toInt64) w_PING w_REQUEST w_NOTIFY w_RESPONSE) (l' := #[.val (.long q0), .second, .val (.int p1), .val (.long ((((p1 >>> ((1 : Int32) &&& 31)) &&& (7 : Int32)) - (2 : Int32)).toInt64)), .second, .val (own_of ((((p1 >>> ((1 : Int32) &&& 31)) &&& (7 : Int32)) - (2 : Int32)).toInt64) w_PING w_REQUEST w_NOTIFY w_RESPONSE), .unset]) (by rcases ref_cases (own_of_ref ((((p1 >>> ((1 : Int32) &&& 31)) &&& (7 : Int32)) - (2 : Int32)).toInt64) w_PING w_REQUEST w_NOTIFY w_RESPONSE) with q | ⟨r, q⟩ <;> rw [q] <;> rfl) k) ?_
    show OwnEnds _ _ _ _ _ _ _ (T11.setTop (mkF m 27 #[.val (.long q0), .second, .val (.int p1), .val (.long ((((p1 >>> ((1 : Int32) &&& 31)) &&& (7 : Int32)) - (2 : Int32)).toInt64)), .second, .val (own_of ((((p1 >>> ((1 : Int32) &&& 31)) &&& (7 : Int32)) - (2 : Int32)).toInt64) w_PING w_REQUEST w_NOTIFY w_RESPONSE), .unset] []))
    refine ogo (fun t k => XS.lloadN X11.here hx rfl (hb hby at_27) rfl k) ?_
    show OwnEnds _ _ _ _ _ _ _ (T11.setTop (mkF m 28 #[.val (.long q0), .second, .val (.int p1), .val (.long ((((p1 >>> ((1 : Int32) &&& 31)) &&& (7 : Int32)) - (2 : Int32)).toInt64)), .second, .val (own_of ((((p1 >>> ((1 : Int32) &&& 31)) &&& (7 : Int32)) - (2 : Int32)).toInt64) w_PING w_REQUEST w_NOTIFY w_RESPONSE), .unset] [(.long ((((p1 >>> ((1 : Int32) &&& 31)) &&& (7 : Int32)) - (2 : Int32)).toInt64))]))
    refine ogo (fun t k => XS.lconst X11.here hx rfl (hb hby at_28) k) ?_
    show OwnEnds _ _ _ _ _ _ _ (T11.setTop (mkF m 29 #[.val (.long q0), .second, .val (.int p1), .val (.long ((((p1 >>> ((1 : Int32) &&& 31)) &&& (7 : Int32)) - (2 : Int32)).toInt64)), .second, .val (own_of ((((p1 >>> ((1 : Int32) &&& 31)) &&& (7 : Int32)) - (2 : Int32)).toInt64) w_PING w_REQUEST w_NOTIFY w_RESPONSE), .unset] [(.long (0 : Int64)), (.long ((((p1 >>> ((1 : Int32) &&& 31)) &&& (7 : Int32)) - (2 : Int32)).toInt64))]))
    refine ogo (fun t k => XS.lcmp X11.here hx rfl (hb hby at_29) rfl k) ?_
    show OwnEnds _ _ _ _ _ _ _ (T11.setTop (mkF m 30 #[.val (.long q0), .second, .val (.int p1), .val (.long ((((p1 >>> ((1 : Int32) &&& 31)) &&& (7 : Int32)) - (2 : Int32)).toInt64)), .second, .val (own_of ((((p1 >>> ((1 : Int32) &&& 31)) &&& (7 : Int32)) - (2 : Int32)).toInt64) w_PING w_REQUEST w_NOTIFY w_RESPONSE), .unset] [(.int (lcmpW ((((p1 >>> ((1 : Int32) &&& 31)) &&& (7 : Int32)) - (2 : Int32)).toInt64) (0 : Int64)))]))
    by_cases hc12 : ((((p1 >>> ((1 : Int32) &&& 31)) &&& (7 : Int32)) - (2 : Int32)).toInt64) = (0 : Int64)
    · refine ogo (fun t k => XS.ifNo X11.here hx rfl (hb hby at_30) rfl ((if0 _ _).trans (teq ((lw_eq ((((p1 >>> ((1 : Int32) &&& 31)) &&& (7 : Int32)) - (2 : Int32)).toInt64) (0 : Int64)).mpr hc12)).2) k) ?_
      show OwnEnds _ _ _ _ _ _ _ (T11.setTop (mkF m 33 #[.val (.long q0), .second, .val (.int p1), .val (.long ((((p1 >>> ((1 : Int32) &&& 31)) &&& (7 : Int32)) - (2 : Int32)).toInt64)), .second, .val (own_of ((((p1 >>> ((1 : Int32) &&& 31)) &&& (7 : Int32)) - (2 : Int32)).toInt64) w_PING w_REQUEST w_NOTIFY w_RESPONSE), .unset] []))
      obtain ⟨T13, X13, e13, st13⟩ := getS2 X11 hx hZ hown (host := "") (Or.inl (hw _ (List.mem_of_getElem? (i := 17) rfl))) Via.refl e11 S_PING (g := (mkF m 33 #[.val (.long q0), .second, .val (.int p1), .val (.long ((((p1 >>> ((1 : Int32) &&& 31)) &&& (7 : Int32)) - (2 : Int32)).toInt64)), .second, .val (own_of ((((p1 >>> ((1 : Int32) &&& 31)) &&& (7 : Int32)) - (2 : Int32)).toInt64) w_PING w_REQUEST w_NOTIFY w_RESPONSE), .unset] [])) rfl (hb hby at_33)
      refine ogo st13 ?_
      show OwnEnds _ _ _ _ _ _ _ (T13.setTop (mkF m 36 #[.val (.long q0), .second, .val (.int p1), .val (.long ((((p1 >>> ((1 : Int32) &&& 31)) &&& (7 : Int32)) - (2 : Int32)).toInt64)), .second, .val (own_of ((((p1 >>> ((1 : Int32) &&& 31)) &&& (7 : Int32)) - (2 : Int32)).toInt64) w_PING w_REQUEST w_NOTIFY w_RESPONSE), .unset] [(.ref w_PING)]))
      refine ogo (fun t k => XS.astore X13.here hx rfl (hb hby at_36) rfl rfl (l' := #[.val (.long q0), .second, .val (.int p1), .val (.long ((((p1 >>> ((1 : Int32) &&& 31)) &&& (7 : Int32)) - (2 : Int32)).toInt64)), .second, .val (own_of ((((p1 >>> ((1 : Int32) &&& 31)) &&& (7 : Int32)) - (2 : Int32)).toInt64) w_PING w_REQUEST w_NOTIFY w_RESPONSE), .val (.ref w_PING)]) rfl k) ?_
      show OwnEnds _ _ _ _ _ _ _ (T13.setTop (mkF m 38 #[.val (.long q0), .second, .val (.int p1), .val (.long ((((p1 >>> ((1 : Int32) &&& 31)) &&& (7 : Int32)) - (2 : Int32)).toInt64)), .second, .val (own_of ((((p1 >>> ((1 : Int32) &&& 31)) &&& (7 : Int32)) - (2 : Int32)).toInt64) w_PING w_REQUEST w_NOTIFY w_RESPONSE), .val (.ref w_PING)] []))
      refine ogo (fun t k => XS.goto X13.here hx rfl (pc0 := 38) (pc' := 90) rfl (hb hby at_38) (by decide) (by decide) k) ?_
      show OwnEnds _ _ _ _ _ _ _ (T13.setTop (mkF m 90 #[.val (.long q0), .second, .val (.int p1), .val (.long ((((p1 >>> ((1 : Int32) &&& 31)) &&& (7 : Int32)) - (2 : Int32)).toInt64)), .second, .val (own_of ((((p1 >>> ((1 : Int32) &&& 31)) &&& (7 : Int32)) - (2 : Int32)).toInt64) w_PING w_REQUEST w_NOTIFY w_RESPONSE), .val (.ref w_PING)] []))
      refine ogo (fun t k => XS.aload X13.here hx rfl (hb hby at_90) rfl (own_of_ref ((((p1 >>> ((1 : Int32) &&& 31)) &&& (7 : Int32)) - (2 : Int32)).toInt64) w_PING w_REQUEST w_NOTIFY w_RESPONSE) k) ?_
      show OwnEnds _ _ _ _ _ _ _ (T13.setTop (mkF m 92 #[.val (.long q0), .second, .val (.int p1), .val (.long ((((p1 >>> ((1 : Int32) &&& 31)) &&& (7 : Int32)) - (2 : Int32)).toInt64)), .second, .val (own_of ((((p1 >>> ((1 : Int32) &&& 31)) &&& (7 : Int32)) - (2 : Int32)).toInt64) w_PING w_REQUEST w_NOTIFY w_RESPONSE), .val (.ref w_PING)] [(own_of ((((p1 >>> ((1 : Int32) &&& 31)) &&& (7 : Int32)) - (2 : Int32)).toInt64) w_PING w_REQUEST w_NOTIFY w_RESPONSE)]))
      refine ogo (fun t k => XS.aload X13.here hx rfl (hb hby at_92) rfl rfl k) ?_
      show OwnEnds _ _ _ _ _ _ _ (T13.setTop (mkF m 94 #[.val (.long q0), .second, .val (.int p1), .val (.long ((((p1 >>> ((1 : Int32) &&& 31)) &&& (7 : Int32)) - (2 : Int32)).toInt64)), .second, .val (own_of ((((p1 >>> ((1 : Int32) &&& 31)) &&& (7 : Int32)) - (2 : Int32)).toInt64) w_PING w_REQUEST w_NOTIFY w_RESPONSE), .val (.ref w_PING)] [(.ref w_PING), (own_of ((((p1 >>> ((1 : Int32) &&& 31)) &&& (7 : Int32)) - (2 : Int32)).toInt64) w_PING w_REQUEST w_NOTIFY w_RESPONSE)]))
      refine ogo (fun t k => Jvm.RoadKit.acmp (g := (mkF m 94 #[.val (.long q0), .second, .val (.int p1), .val (.long ((((p1 >>> ((1 : Int32) &&& 31)) &&& (7 : Int32)) - (2 : Int32)).toInt64)), .second, .val (own_of ((((p1 >>> ((1 : Int32) &&& 31)) &&& (7 : Int32)) - (2 : Int32)).toInt64) w_PING w_REQUEST w_NOTIFY w_RESPONSE), .val (.ref w_PING)] [(.ref w_PING), (own_of ((((p1 >>> ((1 : Int32) &&& 31)) &&& (7 : Int32)) - (2 : Int32)).toInt64) w_PING w_REQUEST w_NOTIFY w_RESPONSE)])) X13 hx rfl (own_of_ref ((((p1 >>> ((1 : Int32) &&& 31)) &&& (7 : Int32)) - (2 : Int32)).toInt64) w_PING w_REQUEST w_NOTIFY w_RESPONSE) rfl (pc0 := 94) (pc' := 97) (same := true) rfl (hb hby at_94) rfl (decide_eq_true (by simp [own_of, hc1, hc12])) (by decide) (by decide) k) ?_
      show OwnEnds _ _ _ _ _ _ _ (T13.setTop (mkF m 97 #[.val (.long q0), .second, .val (.int p1), .val (.long ((((p1 >>> ((1 : Int32) &&& 31)) &&& (7 : Int32)) - (2 : Int32)).toInt64)), .second, .val (own_of ((((p1 >>> ((1 : Int32) &&& 31)) &&& (7 : Int32)) - (2 : Int32)).toInt64) w_PING w_REQUEST w_NOTIFY w_RESPONSE), .val (.ref w_PING)] []))
      refine ogo (fun t k => XS.iconst X13.here hx rfl (hb hby at_97) k) ?_
      show OwnEnds _ _ _ _ _ _ _ (T13.setTop (mkF m 98 #[.val (.long q0), .second, .val (.int p1), .val (.long ((((p1 >>> ((1 : Int32) &&& 31)) &&& (7 : Int32)) - (2 : Int32)).toInt64)), .second, .val (own_of ((((p1 >>> ((1 : Int32) &&& 31)) &&& (7 : Int32)) - (2 : Int32)).toInt64) w_PING w_REQUEST w_NOTIFY w_RESPONSE), .val (.ref w_PING)] [(.int (1 : Int32))]))
      refine ogo (fun t k => XS.goto X13.here hx rfl (pc0 := 98) (pc' := 102) rfl (hb hby at_98) (by decide) (by decide) k) ?_
      show OwnEnds _ _ _ _ _ _ _ (T13.setTop (mkF m 102 #[.val (.long q0), .second, .val (.int p1), .val (.long ((((p1 >>> ((1 : Int32) &&& 31)) &&& (7 : Int32)) - (2 : Int32)).toInt64)), .second, .val (own_of ((((p1 >>> ((1 : Int32) &&& 31)) &&& (7 : Int32)) - (2 : Int32)).toInt64) w_PING w_REQUEST w_NOTIFY w_RESPONSE), .val (.ref w_PING)] [(.int (1 : Int32))]))
      refine endZ X13 hx hlk Bd.returns rfl (hb hby at_102) (by decide) (by decide) ?_
      show Q0 Z q0 p1 w_PING w_REQUEST w_NOTIFY w_RESPONSE w_KINDS h0 n0 _ T13.heap _
      rw [e13]
      exact ⟨rfl, N11⟩
    · refine ogo (fun t k => XS.ifYes X11.here hx rfl (pc0 := 30) (pc' := 41) rfl (hb hby at_30) rfl ((if0 _ _).trans (feq (fun q => hc12 ((lw_eq ((((p1 >>> ((1 : Int32) &&& 31)) &&& (7 : Int32)) - (2 : Int32)).toInt64) (0 : Int64)).mp q))).2) (by decide) (by decide) k) ?_
      show OwnEnds _ _ _ _ _ _ _ (T11.setTop (mkF m 41 #[.val (.long q0), .second, .val (.int p1), .val (.long ((((p1 >>> ((1 : Int32) &&& 31)) &&& (7 : Int32)) - (2 : Int32)).toInt64)), .second, .val (own_of ((((p1 >>> ((1 : Int32) &&& 31)) &&& (7 : Int32)) - (2 : Int32)).toInt64) w_PING w_REQUEST w_NOTIFY w_RESPONSE), .unset] []))
      refine ogo (fun t k => XS.lloadN X11.here hx rfl (hb hby at_41) rfl k) ?_
      show OwnEnds _ _ _ _ _ _ _ (T11.setTop (mkF m 42 #[.val (.long q0), .second, .val (.int p1), .val (.long ((((p1 >>> ((1 : Int32) &&& 31)) &&& (7 : Int32)) - (2 : Int32)).toInt64)), .second, .val (own_of ((((p1 >>> ((1 : Int32) &&& 31)) &&& (7 : Int32)) - (2 : Int32)).toInt64) w_PING w_REQUEST w_NOTIFY w_RESPONSE), .unset] [(.long ((((p1 >>> ((1 : Int32) &&& 31)) &&& (7 : Int32)) - (2 : Int32)).toInt64))]))
      refine ogo (fun t k => XS.lconst X11.here hx rfl (hb hby at_42) k) ?_
      show OwnEnds _ _ _ _ _ _ _ (T11.setTop (mkF m 43 #[.val (.long q0), .second, .val (.int p1), .val (.long ((((p1 >>> ((1 : Int32) &&& 31)) &&& (7 : Int32)) - (2 : Int32)).toInt64)), .second, .val (own_of ((((p1 >>> ((1 : Int32) &&& 31)) &&& (7 : Int32)) - (2 : Int32)).toInt64) w_PING w_REQUEST w_NOTIFY w_RESPONSE), .unset] [(.long (1 : Int64)), (.long ((((p1 >>> ((1 : Int32) &&& 31)) &&& (7 : Int32)) - (2 : Int32)).toInt64))]))
      refine ogo (fun t k => XS.lcmp X11.here hx rfl (hb hby at_43) rfl k) ?_
      show OwnEnds _ _ _ _ _ _ _ (T11.setTop (mkF m 44 #[.val (.long q0), .second, .val (.int p1), .val (.long ((((p1 >>> ((1 : Int32) &&& 31)) &&& (7 : Int32)) - (2 : Int32)).toInt64)), .second, .val (own_of ((((p1 >>> ((1 : Int32) &&& 31)) &&& (7 : Int32)) - (2 : Int32)).toInt64) w_PING w_REQUEST w_NOTIFY w_RESPONSE), .unset] [(.int (lcmpW ((((p1 >>> ((1 : Int32) &&& 31)) &&& (7 : Int32)) - (2 : Int32)).toInt64) (1 : Int64)))]))
      by_cases hc14 : ((((p1 >>> ((1 : Int32) &&& 31)) &&& (7 : Int32)) - (2 : Int32)).toInt64) = (1 : Int64)
      · refine ogo (fun t k => XS.ifNo X11.here hx rfl (hb hby at_44) rfl ((if0 _ _).trans (teq ((lw_eq ((((p1 >>> ((1 : Int32) &&& 31)) &&& (7 : Int32)) - (2 : Int32)).toInt64) (1 : Int64)).mpr hc14)).2) k) ?_
        show OwnEnds _ _ _ _ _ _ _ (T11.setTop (mkF m 47 #[.val (.long q0), .second, .val (.int p1), .val (.long ((((p1 >>> ((1 : Int32) &&& 31)) &&& (7 : Int32)) - (2 : Int32)).toInt64)), .second, .val (own_of ((((p1 >>> ((1 : Int32) &&& 31)) &&& (7 : Int32)) - (2 : Int32)).toInt64) w_PING w_REQUEST w_NOTIFY w_RESPONSE), .unset] []))
        obtain ⟨T15, X15, e15, st15⟩ := getS2 X11 hx hZ hown (host := "") (Or.inl (hw _ (List.mem_of_getElem? (i := 15) rfl))) Via.refl e11 S_REQUEST (g := (mkF m 47 #[.val (.long q0), .second, .val (.int p1), .val (.long ((((p1 >>> ((1 : Int32) &&& 31)) &&& (7 : Int32)) - (2 : Int32)).toInt64)), .second, .val (own_of ((((p1 >>> ((1 : Int32) &&& 31)) &&& (7 : Int32)) - (2 : Int32)).toInt64) w_PING w_REQUEST w_NOTIFY w_RESPONSE), .unset] [])) rfl (hb hby at_47)
        refine ogo st15 ?_
        show OwnEnds _ _ _ _ _ _ _ (T15.setTop (mkF m 50 #[.val (.long q0), .second, .val (.int p1), .val (.long ((((p1 >>> ((1 : Int32) &&& 31)) &&& (7 : Int32)) - (2 : Int32)).toInt64)), .second, .val (own_of ((((p1 >>> ((1 : Int32) &&& 31)) &&& (7 : Int32)) - (2 : Int32)).toInt64) w_PING w_REQUEST w_NOTIFY w_RESPONSE), .unset] [(.ref w_REQUEST)]))
        refine ogo (fun t k => XS.astore X15.here hx rfl (hb hby at_50) rfl rfl (l' := #[.val (.long q0), .second, .val (.int p1), .val (.long ((((p1 >>> ((1 : Int32) &&& 31)) &&& (7 : Int32)) - (2 : Int32)).toInt64)), .second, .val (own_of ((((p1 >>> ((1 : Int32) &&& 31)) &&& (7 : Int32)) - (2 : Int32)).toInt64) w_PING w_REQUEST w_NOTIFY w_RESPONSE), .val (.ref w_REQUEST)]) rfl k) ?_
        show OwnEnds _ _ _ _ _ _ _ (T15.setTop (mkF m 52 #[.val (.long q0), .second, .val (.int p1), .val (.long ((((p1 >>> ((1 : Int32) &&& 31)) &&& (7 : Int32)) - (2 : Int32)).toInt64)), .second, .val (own_of ((((p1 >>> ((1 : Int32) &&& 31)) &&& (7 : Int32)) - (2 : Int32)).toInt64) w_PING w_REQUEST w_NOTIFY w_RESPONSE), .val (.ref w_REQUEST)] []))
        refine ogo (fun t k => XS.goto X15.here hx rfl (pc0 := 52) (pc' := 90) rfl (hb hby at_52) (by decide) (by decide) k) ?_
        show OwnEnds _ _ _ _ _ _ _ (T15.setTop (mkF m 90 #[.val (.long q0), .second, .val (.int p1), .val (.long ((((p1 >>> ((1 : Int32) &&& 31)) &&& (7 : Int32)) - (2 : Int32)).toInt64)), .second, .val (own_of ((((p1 >>> ((1 : Int32) &&& 31)) &&& (7 : Int32)) - (2 : Int32)).toInt64) w_PING w_REQUEST w_NOTIFY w_RESPONSE), .val (.ref w_REQUEST)] []))
        refine ogo (fun t k => XS.aload X15.here hx rfl (hb hby at_90) rfl (own_of_ref ((((p1 >>> ((1 : Int32) &&& 31)) &&& (7 : Int32)) - (2 : Int32)).toInt64) w_PING w_REQUEST w_NOTIFY w_RESPONSE) k) ?_
        show OwnEnds _ _ _ _ _ _ _ (T15.setTop (mkF m 92 #[.val (.long q0), .second, .val (.int p1), .val (.long ((((p1 >>> ((1 : Int32) &&& 31)) &&& (7 : Int32)) - (2 : Int32)).toInt64)), .second, .val (own_of ((((p1 >>> ((1 : Int32) &&& 31)) &&& (7 : Int32)) - (2 : Int32)).toInt64) w_PING w_REQUEST w_NOTIFY w_RESPONSE), .val (.ref w_REQUEST)] [(own_of ((((p1 >>> ((1 : Int32) &&& 31)) &&& (7 : Int32)) - (2 : Int32)).toInt64) w_PING w_REQUEST w_NOTIFY w_RESPONSE)]))
        refine ogo (fun t k => XS.aload X15.here hx rfl (hb hby at_92) rfl rfl k) ?_
        show OwnEnds _ _ _ _ _ _ _ (T15.setTop (mkF m 94 #[.val (.long q0), .second, .val (.int p1), .val (.long ((((p1 >>> ((1 : Int32) &&& 31)) &&& (7 : Int32)) - (2 : Int32)).toInt64)), .second, .val (own_of ((((p1 >>> ((1 : Int32) &&& 31)) &&& (7 : Int32)) - (2 : Int32)).toInt64) w_PING w_REQUEST w_NOTIFY w_RESPONSE), .val (.ref w_REQUEST)] [(.ref w_REQUEST), (own_of ((((p1 >>> ((1 : Int32) &&& 31)) &&& (7 : Int32)) - (2 : Int32)).toInt64) w_PING w_REQUEST w_NOTIFY w_RESPONSE)]))
        refine ogo (fun t k => Jvm.RoadKit.acmp (g := (mkF m 94 #[.val (.long q0), .second, .val (.int p1), .val (.long ((((p1 >>> ((1 : Int32) &&& 31)) &&& (7 : Int32)) - (2 : Int32)).toInt64)), .second, .val (own_of ((((p1 >>> ((1 : Int32) &&& 31)) &&& (7 : Int32)) - (2 : Int32)).toInt64) w_PING w_REQUEST w_NOTIFY w_RESPONSE), .val (.ref w_REQUEST)] [(.ref w_REQUEST), (own_of ((((p1 >>> ((1 : Int32) &&& 31)) &&& (7 : Int32)) - (2 : Int32)).toInt64) w_PING w_REQUEST w_NOTIFY w_RESPONSE)])) X15 hx rfl (own_of_ref ((((p1 >>> ((1 : Int32) &&& 31)) &&& (7 : Int32)) - (2 : Int32)).toInt64) w_PING w_REQUEST w_NOTIFY w_RESPONSE) rfl (pc0 := 94) (pc' := 97) (same := true) rfl (hb hby at_94) rfl (decide_eq_true (by simp [own_of, hc1, hc12, hc14])) (by decide) (by decide) k) ?_
        show OwnEnds _ _ _ _ _ _ _ (T15.setTop (mkF m 97 #[.val (.long q0), .second, .val (.int p1), .val (.long ((((p1 >>> ((1 : Int32) &&& 31)) &&& (7 : Int32)) - (2 : Int32)).toInt64)), .second, .val (own_of ((((p1 >>> ((1 : Int32) &&& 31)) &&& (7 : Int32)) - (2 : Int32)).toInt64) w_PING w_REQUEST w_NOTIFY w_RESPONSE), .val (.ref w_REQUEST)] []))
        refine ogo (fun t k => XS.iconst X15.here hx rfl (hb hby at_97) k) ?_
        show OwnEnds _ _ _ _ _ _ _ (T15.setTop (mkF m 98 #[.val (.long q0), .second, .val (.int p1), .val (.long ((((p1 >>> ((1 : Int32) &&& 31)) &&& (7 : Int32)) - (2 : Int32)).toInt64)), .second, .val (own_of ((((p1 >>> ((1 : Int32) &&& 31)) &&& (7 : Int32)) - (2 : Int32)).toInt64) w_PING w_REQUEST w_NOTIFY w_RESPONSE), .val (.ref w_REQUEST)] [(.int (1 : Int32))]))
        refine ogo (fun t k => XS.goto X15.here hx rfl (pc0 := 98) (pc' := 102) rfl (hb hby at_98) (by decide) (by decide) k) ?_
        show OwnEnds _ _ _ _ _ _ _ (T15.setTop (mkF m 102 #[.val (.long q0), .second, .val (.int p1), .val (.long ((((p1 >>> ((1 : Int32) &&& 31)) &&& (7 : Int32)) - (2 : Int32)).toInt64)), .second, .val (own_of ((((p1 >>> ((1 : Int32) &&& 31)) &&& (7 : Int32)) - (2 : Int32)).toInt64) w_PING w_REQUEST w_NOTIFY w_RESPONSE), .val (.ref w_REQUEST)] [(.int (1 : Int32))]))
        refine endZ X15 hx hlk Bd.returns rfl (hb hby at_102) (by decide) (by decide) ?_
        show Q0 Z q0 p1 w_PING w_REQUEST w_NOTIFY w_RESPONSE w_KINDS h0 n0 _ T15.heap _
        rw [e15]
        exact ⟨rfl, N11⟩
      · refine ogo (fun t k => XS.ifYes X11.here hx rfl (pc0 := 44) (pc' := 55) rfl (hb hby at_44) rfl ((if0 _ _).trans (feq (fun q => hc14 ((lw_eq ((((p1 >>> ((1 : Int32) &&& 31)) &&& (7 : Int32)) - (2 : Int32)).toInt64) (1 : Int64)).mp q))).2) (by decide) (by decide) k) ?_
        show OwnEnds _ _ _ _ _ _ _ (T11.setTop (mkF m 55 #[.val (.long q0), .second, .val (.int p1), .val (.long ((((p1 >>> ((1 : Int32) &&& 31)) &&& (7 : Int32)) - (2 : Int32)).toInt64)), .second, .val (own_of ((((p1 >>> ((1 : Int32) &&& 31)) &&& (7 : Int32)) - (2 : Int32)).toInt64) w_PING w_REQUEST w_NOTIFY w_RESPONSE), .unset] []))
        refine ogo (fun t k => XS.lloadN X11.here hx rfl (hb hby at_55) rfl k) ?_
        show OwnEnds _ _ _ _ _ _ _ (T11.setTop (mkF m 56 #[.val (.long q0), .second, .val (.int p1), .val (.long ((((p1 >>> ((1 : Int32) &&& 31)) &&& (7 : Int32)) - (2 : Int32)).toInt64)), .second, .val (own_of ((((p1 >>> ((1 : Int32) &&& 31)) &&& (7 : Int32)) - (2 : Int32)).toInt64) w_PING w_REQUEST w_NOTIFY w_RESPONSE), .unset] [(.long ((((p1 >>> ((1 : Int32) &&& 31)) &&& (7 : Int32)) - (2 : Int32)).toInt64))]))
        refine ogo (fun t k => X11.ldc2Long hx hown (mvT hZ (hw _ (List.mem_of_getElem? (i := 12) rfl))) (g := (mkF m 56 #[.val (.long q0), .second, .val (.int p1), .val (.long ((((p1 >>> ((1 : Int32) &&& 31)) &&& (7 : Int32)) - (2 : Int32)).toInt64)), .second, .val (own_of ((((p1 >>> ((1 : Int32) &&& 31)) &&& (7 : Int32)) - (2 : Int32)).toInt64) w_PING w_REQUEST w_NOTIFY w_RESPONSE), .unset] [(.long ((((p1 >>> ((1 : Int32) &&& 31)) &&& (7 : Int32)) - (2 : Int32)).toInt64))])) rfl (hb hby at_56) t k) ?_
        show OwnEnds _ _ _ _ _ _ _ (T11.setTop (mkF m 59 #[.val (.long q0), .second, .val (.int p1), .val (.long ((((p1 >>> ((1 : Int32) &&& 31)) &&& (7 : Int32)) - (2 : Int32)).toInt64)), .second, .val (own_of ((((p1 >>> ((1 : Int32) &&& 31)) &&& (7 : Int32)) - (2 : Int32)).toInt64) w_PING w_REQUEST w_NOTIFY w_RESPONSE), .unset] [(.long (2 : Int64)), (.long ((((p1 >>> ((1 : Int32) &&& 31)) &&& (7 : Int32)) - (2 : Int32)).toInt64))]))
        refine ogo (fun t k => XS.lcmp X11.here hx rfl (hb hby at_59) rfl k) ?_
        show OwnEnds _ _ _ _ _ _ _ (T11.setTop (mkF m 60 #[.val (.long q0), .second, .val (.int p1), .val (.long ((((p1 >>> ((1 : Int32) &&& 31)) &&& (7 : Int32)) - (2 : Int32)).toInt64)), .second, .val (own_of ((((p1 >>> ((1 : Int32) &&& 31)) &&& (7 : Int32)) - (2 : Int32)).toInt64) w_PING w_REQUEST w_NOTIFY w_RESPONSE), .unset] [(.int (lcmpW ((((p1 >>> ((1 : Int32) &&& 31)) &&& (7 : Int32)) - (2 : Int32)).toInt64) (2 : Int64)))]))
        by_cases hc16 : ((((p1 >>> ((1 : Int32) &&& 31)) &&& (7 : Int32)) - (2 : Int32)).toInt64) = (2 : Int64)
        · refine ogo (fun t k => XS.ifNo X11.here hx rfl (hb hby at_60) rfl ((if0 _ _).trans (teq ((lw_eq ((((p1 >>> ((1 : Int32) &&& 31)) &&& (7 : Int32)) - (2 : Int32)).toInt64) (2 : Int64)).mpr hc16)).2) k) ?_
          show OwnEnds _ _ _ _ _ _ _ (T11.setTop (mkF m 63 #[.val (.long q0), .second, .val (.int p1), .val (.long ((((p1 >>> ((1 : Int32) &&& 31)) &&& (7 : Int32)) - (2 : Int32)).toInt64)), .second, .val (own_of ((((p1 >>> ((1 : Int32) &&& 31)) &&& (7 : Int32)) - (2 : Int32)).toInt64) w_PING w_REQUEST w_NOTIFY w_RESPONSE), .unset] []))
          obtain ⟨T17, X17, e17, st17⟩ := getS2 X11 hx hZ hown (host := "") (Or.inl (hw _ (List.mem_of_getElem? (i := 16) rfl))) Via.refl e11 S_NOTIFY (g := (mkF m 63 #[.val (.long q0), .second, .val (.int p1), .val (.long ((((p1 >>> ((1 : Int32) &&& 31)) &&& (7 : Int32)) - (2 : Int32)).toInt64)), .second, .val (own_of ((((p1 >>> ((1 : Int32) &&& 31)) &&& (7 : Int32)) - (2 : Int32)).toInt64) w_PING w_REQUEST w_NOTIFY w_RESPONSE), .unset] [])) rfl (hb hby at_63)
          refine ogo st17 ?_
          show OwnEnds _ _ _ _ _ _ _ (T17.setTop (mkF m 66 #[.val (.long q0), .second, .val (.int p1), .val (.long ((((p1 >>> ((1 : Int32) &&& 31)) &&& (7 : Int32)) - (2 : Int32)).toInt64)), .second, .val (own_of ((((p1 >>> ((1 : Int32) &&& 31)) &&& (7 : Int32)) - (2 : Int32)).toInt64) w_PING w_REQUEST w_NOTIFY w_RESPONSE), .unset] [(.ref w_NOTIFY)]))
          refine ogo (fun t k => XS.astore X17.here hx rfl (hb hby at_66) rfl rfl (l' := #[.val (.long q0), .second, .val (.int p1), .val (.long ((((p1 >>> ((1 : Int32) &&& 31)) &&& (7 : Int32)) - (2 : Int32)).toInt64)), .second, .val (own_of ((((p1 >>> ((1 : Int32) &&& 31)) &&& (7 : Int32)) - (2 : Int32)).toInt64) w_PING w_REQUEST w_NOTIFY w_RESPONSE), .val (.ref w_NOTIFY)]) rfl k) ?_
          show OwnEnds _ _ _ _ _ _ _ (T17.setTop (mkF m 68 #[.val (.long q0), .second, .val (.int p1), .val (.long ((((p1 >>> ((1 : Int32) &&& 31)) &&& (7 : Int32)) - (2 : Int32)).toInt64)), .second, .val (own_of ((((p1 >>> ((1 : Int32) &&& 31)) &&& (7 : Int32)) - (2 : Int32)).toInt64) w_PING w_REQUEST w_NOTIFY w_RESPONSE), .val (.ref w_NOTIFY)] []))
          refine ogo (fun t k => XS.goto X17.here hx rfl (pc0 := 68) (pc' := 90) rfl (hb hby at_68) (by decide) (by decide) k) ?_
          show OwnEnds _ _ _ _ _ _ _ (T17.setTop (mkF m 90 #[.val (.long q0), .second, .val (.int p1), .val (.long ((((p1 >>> ((1 : Int32) &&& 31)) &&& (7 : Int32)) - (2 : Int32)).toInt64)), .second, .val (own_of ((((p1 >>> ((1 : Int32) &&& 31)) &&& (7 : Int32)) - (2 : Int32)).toInt64) w_PING w_REQUEST w_NOTIFY w_RESPONSE), .val (.ref w_NOTIFY)] []))
          refine ogo (fun t k => XS.aload X17.here hx rfl (hb hby at_90) rfl (own_of_ref ((((p1 >>> ((1 : Int32) &&& 31)) &&& (7 : Int32)) - (2 : Int32)).toInt64) w_PING w_REQUEST w_NOTIFY w_RESPONSE) k) ?_
          show OwnEnds _ _ _ _ _ _ _ (T17.setTop (mkF m 92 #[.val (.long q0), .second, .val (.int p1), .val (.long ((((p1 >>> ((1 : Int32) &&& 31)) &&& (7 : Int32)) - (2 : Int32)).toInt64)), .second, .val (own_of ((((p1 >>> ((1 : Int32) &&& 31)) &&& (7 : Int32)) - (2 : Int32)).toInt64) w_PING w_REQUEST w_NOTIFY w_RESPONSE), .val (.ref w_NOTIFY)] [(own_of ((((p1 >>> ((1 : Int32) &&& 31)) &&& (7 : Int32)) - (2 : Int32)).toInt64) w_PING w_REQUEST w_NOTIFY w_RESPONSE)]))
          refine ogo (fun t k => XS.aload X17.here hx rfl (hb hby at_92) rfl rfl k) ?_
          show OwnEnds _ _ _ _ _ _ _ (T17.setTop (mkF m 94 #[.val (.long q0), .second, .val (.int p1), .val (.long ((((p1 >>> ((1 : Int32) &&& 31)) &&& (7 : Int32)) - (2 : Int32)).toInt64)), .second, .val (own_of ((((p1 >>> ((1 : Int32) &&& 31)) &&& (7 : Int32)) - (2 : Int32)).toInt64) w_PING w_REQUEST w_NOTIFY w_RESPONSE), .val (.ref w_NOTIFY)] [(.ref w_NOTIFY), (own_of ((((p1 >>> ((1 : Int32) &&& 31)) &&& (7 : Int32)) - (2 : Int32)).toInt64) w_PING w_REQUEST w_NOTIFY w_RESPONSE)]))
          refine ogo (fun t k => Jvm.RoadKit.acmp (g := (mkF m 94 #[.val (.long q0), .second, .val (.int p1), .val (.long ((((p1 >>> ((1 : Int32) &&& 31)) &&& (7 : Int32)) - (2 : Int32)).toInt64)), .second, .val (own_of ((((p1 >>> ((1 : Int32) &&& 31)) &&& (7 : Int32)) - (2 : Int32)).toInt64) w_PING w_REQUEST w_NOTIFY w_RESPONSE), .val (.ref w_NOTIFY)] [(.ref w_NOTIFY), (own_of ((((p1 >>> ((1 : Int32) &&& 31)) &&& (7 : Int32)) - (2 : Int32)).toInt64) w_PING w_REQUEST w_NOTIFY w_RESPONSE)])) X17 hx rfl (own_of_ref ((((p1 >>> ((1 : Int32) &&& 31)) &&& (7 : Int32)) - (2 : Int32)).toInt64) w_PING w_REQUEST w_NOTIFY w_RESPONSE) rfl (pc0 := 94) (pc' := 97) (same := true) rfl (hb hby at_94) rfl (decide_eq_true (by simp [own_of, hc1, hc12, hc14, hc16])) (by decide) (by decide) k) ?_
          show OwnEnds _ _ _ _ _ _ _ (T17.setTop (mkF m 97 #[.val (.long q0), .second, .val (.int p1), .val (.long ((((p1 >>> ((1 : Int32) &&& 31)) &&& (7 : Int32)) - (2 : Int32)).toInt64)), .second, .val (own_of ((((p1 >>> ((1 : Int32) &&& 31)) &&& (7 : Int32)) - (2 : Int32)).toInt64) w_PING w_REQUEST w_NOTIFY w_RESPONSE), .val (.ref w_NOTIFY)] []))
          refine ogo (fun t k => XS.iconst X17.here hx rfl (hb hby at_97) k) ?_
          show OwnEnds _ _ _ _ _ _ _ (T17.setTop (mkF m 98 #[.val (.long q0), .second, .val (.int p1), .val (.long ((((p1 >>> ((1 : Int32) &&& 31)) &&& (7 : Int32)) - (2 : Int32)).toInt64)), .second, .val (own_of ((((p1 >>> ((1 : Int32) &&& 31)) &&& (7 : Int32)) - (2 : Int32)).toInt64) w_PING w_REQUEST w_NOTIFY w_RESPONSE), .val (.ref w_NOTIFY)] [(.int (1 : Int32))]))
          refine ogo (fun t k => XS.goto X17.here hx rfl (pc0 := 98) (pc' := 102) rfl (hb hby at_98) (by decide) (by decide) k) ?_
          show OwnEnds _ _ _ _ _ _ _ (T17.setTop (mkF m 102 #[.val (.long q0), .second, .val (.int p1), .val (.long ((((p1 >>> ((1 : Int32) &&& 31)) &&& (7 : Int32)) - (2 : Int32)).toInt64)), .second, .val (own_of ((((p1 >>> ((1 : Int32) &&& 31)) &&& (7 : Int32)) - (2 : Int32)).toInt64) w_PING w_REQUEST w_NOTIFY w_RESPONSE), .val (.ref w_NOTIFY)] [(.int (1 : Int32))]))
          refine endZ X17 hx hlk Bd.returns rfl (hb hby at_102) (by decide) (by decide) ?_
          show Q0 Z q0 p1 w_PING w_REQUEST w_NOTIFY w_RESPONSE w_KINDS h0 n0 _ T17.heap _
          rw [e17]
          exact ⟨rfl, N11⟩
        · refine ogo (fun t k => XS.ifYes X11.here hx rfl (pc0 := 60) (pc' := 71) rfl (hb hby at_60) rfl ((if0 _ _).trans (feq (fun q => hc16 ((lw_eq ((((p1 >>> ((1 : Int32) &&& 31)) &&& (7 : Int32)) - (2 : Int32)).toInt64) (2 : Int64)).mp q))).2) (by decide) (by decide) k) ?_
          show OwnEnds _ _ _ _ _ _ _ (T11.setTop (mkF m 71 #[.val (.long q0), .second, .val (.int p1), .val (.long ((((p1 >>> ((1 : Int32) &&& 31)) &&& (7 : Int32)) - (2 : Int32)).toInt64)), .second, .val (own_of ((((p1 >>> ((1 : Int32) &&& 31)) &&& (7 : Int32)) - (2 : Int32)).toInt64) w_PING w_REQUEST w_NOTIFY w_RESPONSE), .unset] []))
          refine ogo (fun t k => XS.lloadN X11.here hx rfl (hb hby at_71) rfl k) ?_
          show OwnEnds _ _ _ _ _ _ _ (T11.setTop (mkF m 72 #[.val (.long q0), .second, .val (.int p1), .val (.long ((((p1 >>> ((1 : Int32) &&& 31)) &&& (7 : Int32)) - (2 : Int32)).toInt64)), .second, .val (own_of ((((p1 >>> ((1 : Int32) &&& 31)) &&& (7 : Int32)) - (2 : Int32)).toInt64) w_PING w_REQUEST w_NOTIFY w_RESPONSE), .unset] [(.long ((((p1 >>> ((1 : Int32) &&& 31)) &&& (7 : Int32)) - (2 : Int32)).toInt64))]))
          refine ogo (fun t k => X11.ldc2Long hx hown (mvT hZ (hw _ (List.mem_of_getElem? (i := 13) rfl))) (g := (mkF m 72 #[.val (.long q0), .second, .val (.int p1), .val (.long ((((p1 >>> ((1 : Int32) &&& 31)) &&& (7 : Int32)) - (2 : Int32)).toInt64)), .second, .val (own_of ((((p1 >>> ((1 : Int32) &&& 31)) &&& (7 : Int32)) - (2 : Int32)).toInt64) w_PING w_REQUEST w_NOTIFY w_RESPONSE), .unset] [(.long ((((p1 >>> ((1 : Int32) &&& 31)) &&& (7 : Int32)) - (2 : Int32)).toInt64))])) rfl (hb hby at_72) t k) ?_
          show OwnEnds _ _ _ _ _ _ _ (T11.setTop (mkF m 75 #[.val (.long q0), .second, .val (.int p1), .val (.long ((((p1 >>> ((1 : Int32) &&& 31)) &&& (7 : Int32)) - (2 : Int32)).toInt64)), .second, .val (own_of ((((p1 >>> ((1 : Int32) &&& 31)) &&& (7 : Int32)) - (2 : Int32)).toInt64) w_PING w_REQUEST w_NOTIFY w_RESPONSE), .unset] [(.long (3 : Int64)), (.long ((((p1 >>> ((1 : Int32) &&& 31)) &&& (7 : Int32)) - (2 : Int32)).toInt64))]))
          refine ogo (fun t k => XS.lcmp X11.here hx rfl (hb hby at_75) rfl k) ?_
          show OwnEnds _ _ _ _ _ _ _ (T11.setTop (mkF m 76 #[.val (.long q0), .second, .val (.int p1), .val (.long ((((p1 >>> ((1 : Int32) &&& 31)) &&& (7 : Int32)) - (2 : Int32)).toInt64)), .second, .val (own_of ((((p1 >>> ((1 : Int32) &&& 31)) &&& (7 : Int32)) - (2 : Int32)).toInt64) w_PING w_REQUEST w_NOTIFY w_RESPONSE), .unset] [(.int (lcmpW ((((p1 >>> ((1 : Int32) &&& 31)) &&& (7 : Int32)) - (2 : Int32)).toInt64) (3 : Int64)))]))
          by_cases hc18 : ((((p1 >>> ((1 : Int32) &&& 31)) &&& (7 : Int32)) - (2 : Int32)).toInt64) = (3 : Int64)
          · refine ogo (fun t k => XS.ifNo X11.here hx rfl (hb hby at_76) rfl ((if0 _ _).trans (teq ((lw_eq ((((p1 >>> ((1 : Int32) &&& 31)) &&& (7 : Int32)) - (2 : Int32)).toInt64) (3 : Int64)).mpr hc18)).2) k) ?_
            show OwnEnds _ _ _ _ _ _ _ (T11.setTop (mkF m 79 #[.val (.long q0), .second, .val (.int p1), .val (.long ((((p1 >>> ((1 : Int32) &&& 31)) &&& (7 : Int32)) - (2 : Int32)).toInt64)), .second, .val (own_of ((((p1 >>> ((1 : Int32) &&& 31)) &&& (7 : Int32)) - (2 : Int32)).toInt64) w_PING w_REQUEST w_NOTIFY w_RESPONSE), .unset] []))
            obtain ⟨T19, X19, e19, st19⟩ := getS2 X11 hx hZ hown (host := "") (Or.inl (hw _ (List.mem_of_getElem? (i := 14) rfl))) Via.refl e11 S_RESPONSE (g := (mkF m 79 #[.val (.long q0), .second, .val (.int p1), .val (.long ((((p1 >>> ((1 : Int32) &&& 31)) &&& (7 : Int32)) - (2 : Int32)).toInt64)), .second, .val (own_of ((((p1 >>> ((1 : Int32) &&& 31)) &&& (7 : Int32)) - (2 : Int32)).toInt64) w_PING w_REQUEST w_NOTIFY w_RESPONSE), .unset] [])) rfl (hb hby at_79)
            refine ogo st19 ?_
            show OwnEnds _ _ _ _ _ _ _ (T19.setTop (mkF m 82 #[.val (.long q0), .second, .val (.int p1), .val (.long ((((p1 >>> ((1 : Int32) &&& 31)) &&& (7 : Int32)) - (2 : Int32)).toInt64)), .second, .val (own_of ((((p1 >>> ((1 : Int32) &&& 31)) &&& (7 : Int32)) - (2 : Int32)).toInt64) w_PING w_REQUEST w_NOTIFY w_RESPONSE), .unset] [(.ref w_RESPONSE)]))
            refine ogo (fun t k => XS.astore X19.here hx rfl (hb hby at_82) rfl rfl (l' := #[.val (.long q0), .second, .val (.int p1), .val (.long ((((p1 >>> ((1 : Int32) &&& 31)) &&& (7 : Int32)) - (2 : Int32)).toInt64)), .second, .val (own_of ((((p1 >>> ((1 : Int32) &&& 31)) &&& (7 : Int32)) - (2 : Int32)).toInt64) w_PING w_REQUEST w_NOTIFY w_RESPONSE), .val (.ref w_RESPONSE)]) rfl k) ?_
            show OwnEnds _ _ _ _ _ _ _ (T19.setTop (mkF m 84 #[.val (.long q0), .second, .val (.int p1), .val (.long ((((p1 >>> ((1 : Int32) &&& 31)) &&& (7 : Int32)) - (2 : Int32)).toInt64)), .second, .val (own_of ((((p1 >>> ((1 : Int32) &&& 31)) &&& (7 : Int32)) - (2 : Int32)).toInt64) w_PING w_REQUEST w_NOTIFY w_RESPONSE), .val (.ref w_RESPONSE)] []))
            refine ogo (fun t k => XS.goto X19.here hx rfl (pc0 := 84) (pc' := 90) rfl (hb hby at_84) (by decide) (by decide) k) ?_
            show OwnEnds _ _ _ _ _ _ _ (T19.setTop (mkF m 90 #[.val (.long q0), .second, .val (.int p1), .val (.long ((((p1 >>> ((1 : Int32) &&& 31)) &&& (7 : Int32)) - (2 : Int32)).toInt64)), .second, .val (own_of ((((p1 >>> ((1 : Int32) &&& 31)) &&& (7 : Int32)) - (2 : Int32)).toInt64) w_PING w_REQUEST w_NOTIFY w_RESPONSE), .val (.ref w_RESPONSE)] []))
            refine ogo (fun t k => XS.aload X19.here hx rfl (hb hby at_90) rfl (own_of_ref ((((p1 >>> ((1 : Int32) &&& 31)) &&& (7 : Int32)) - (2 : Int32)).toInt64) w_PING w_REQUEST w_NOTIFY w_RESPONSE) k) ?_
            show OwnEnds _ _ _ _ _ _ _ (T19.setTop (mkF m 92 #[.val (.long q0), .second, .val (.int p1), .val (.long ((((p1 >>> ((1 : Int32) &&& 31)) &&& (7 : Int32)) - (2 : Int32)).toInt64)), .second, .val (own_of ((((p1 >>> ((1 : Int32) &&& 31)) &&& (7 : Int32)) - (2 : Int32)).toInt64) w_PING w_REQUEST w_NOTIFY w_RESPONSE), .val (.ref w_RESPONSE)] [(own_of ((((p1 >>> ((1 : Int32) &&& 31)) &&& (7 : Int32)) - (2 : Int32)).toInt64) w_PING w_REQUEST w_NOTIFY w_RESPONSE)]))
            refine ogo (fun t k => XS.aload X19.here hx rfl (hb hby at_92) rfl rfl k) ?_
            show OwnEnds _ _ _ _ _ _ _ (T19.setTop (mkF m 94 #[.val (.long q0), .second, .val (.int p1), .val (.long ((((p1 >>> ((1 : Int32) &&& 31)) &&& (7 : Int32)) - (2 : Int32)).toInt64)), .second, .val (own_of ((((p1 >>> ((1 : Int32) &&& 31)) &&& (7 : Int32)) - (2 : Int32)).toInt64) w_PING w_REQUEST w_NOTIFY w_RESPONSE), .val (.ref w_RESPONSE)] [(.ref w_RESPONSE), (own_of ((((p1 >>> ((1 : Int32) &&& 31)) &&& (7 : Int32)) - (2 : Int32)).toInt64) w_PING w_REQUEST w_NOTIFY w_RESPONSE)]))
            refine ogo (fun t k => Jvm.RoadKit.acmp (g := (mkF m 94 #[.val (.long q0), .second, .val (.int p1), .val (.long ((((p1 >>> ((1 : Int32) &&& 31)) &&& (7 : Int32)) - (2 : Int32)).toInt64)), .second, .val (own_of ((((p1 >>> ((1 : Int32) &&& 31)) &&& (7 : Int32)) - (2 : Int32)).toInt64) w_PING w_REQUEST w_NOTIFY w_RESPONSE), .val (.ref w_RESPONSE)] [(.ref w_RESPONSE), (own_of ((((p1 >>> ((1 : Int32) &&& 31)) &&& (7 : Int32)) - (2 : Int32)).toInt64) w_PING w_REQUEST w_NOTIFY w_RESPONSE)])) X19 hx rfl (own_of_ref ((((p1 >>> ((1 : Int32) &&& 31)) &&& (7 : Int32)) - (2 : Int32)).toInt64) w_PING w_REQUEST w_NOTIFY w_RESPONSE) rfl (pc0 := 94) (pc' := 97) (same := true) rfl (hb hby at_94) rfl (decide_eq_true (by simp [own_of, hc1, hc12, hc14, hc16, hc18])) (by decide) (by decide) k) ?_
            show OwnEnds _ _ _ _ _ _ _ (T19.setTop (mkF m 97 #[.val (.long q0), .second, .val (.int p1), .val (.long ((((p1 >>> ((1 : Int32) &&& 31)) &&& (7 : Int32)) - (2 : Int32)).toInt64)), .second, .val (own_of ((((p1 >>> ((1 : Int32) &&& 31)) &&& (7 : Int32)) - (2 : Int32)).toInt64) w_PING w_REQUEST w_NOTIFY w_RESPONSE), .val (.ref w_RESPONSE)] []))
            refine ogo (fun t k => XS.iconst X19.here hx rfl (hb hby at_97) k) ?_
            show OwnEnds _ _ _ _ _ _ _ (T19.setTop (mkF m 98 #[.val (.long q0), .second, .val (.int p1), .val (.long ((((p1 >>> ((1 : Int32) &&& 31)) &&& (7 : Int32)) - (2 : Int32)).toInt64)), .second, .val (own_of ((((p1 >>> ((1 : Int32) &&& 31)) &&& (7 : Int32)) - (2 : Int32)).toInt64) w_PING w_REQUEST w_NOTIFY w_RESPONSE), .val (.ref w_RESPONSE)] [(.int (1 : Int32))]))
            refine ogo (fun t k => XS.goto X19.here hx rfl (pc0 := 98) (pc' := 102) rfl (hb hby at_98) (by decide) (by decide) k) ?_
            show OwnEnds _ _ _ _ _ _ _ (T19.setTop (mkF m 102 #[.val (.long q0), .second, .val (.int p1), .val (.long ((((p1 >>> ((1 : Int32) &&& 31)) &&& (7 : Int32)) - (2 : Int32)).toInt64)), .second, .val (own_of ((((p1 >>> ((1 : Int32) &&& 31)) &&& (7 : Int32)) - (2 : Int32)).toInt64) w_PING w_REQUEST w_NOTIFY w_RESPONSE), .val (.ref w_RESPONSE)] [(.int (1 : Int32))]))
            refine endZ X19 hx hlk Bd.returns rfl (hb hby at_102) (by decide) (by decide) ?_
            show Q0 Z q0 p1 w_PING w_REQUEST w_NOTIFY w_RESPONSE w_KINDS h0 n0 _ T19.heap _
            rw [e19]
            exact ⟨rfl, N11⟩
          · refine ogo (fun t k => XS.ifYes X11.here hx rfl (pc0 := 76) (pc' := 87) rfl (hb hby at_76) rfl ((if0 _ _).trans (feq (fun q => hc18 ((lw_eq ((((p1 >>> ((1 : Int32) &&& 31)) &&& (7 : Int32)) - (2 : Int32)).toInt64) (3 : Int64)).mp q))).2) (by decide) (by decide) k) ?_
            show OwnEnds _ _ _ _ _ _ _ (T11.setTop (mkF m 87 #[.val (.long q0), .second, .val (.int p1), .val (.long ((((p1 >>> ((1 : Int32) &&& 31)) &&& (7 : Int32)) - (2 : Int32)).toInt64)), .second, .val (own_of ((((p1 >>> ((1 : Int32) &&& 31)) &&& (7 : Int32)) - (2 : Int32)).toInt64) w_PING w_REQUEST w_NOTIFY w_RESPONSE), .unset] []))
            refine ogo (fun t k => XS.aconstNull X11.here hx rfl (hb hby at_87) k) ?_
            show OwnEnds _ _ _ _ _ _ _ (T11.setTop (mkF m 88 #[.val (.long q0), .second, .val (.int p1), .val (.long ((((p1 >>> ((1 : Int32) &&& 31)) &&& (7 : Int32)) - (2 : Int32)).toInt64)), .second, .val (own_of ((((p1 >>> ((1 : Int32) &&& 31)) &&& (7 : Int32)) - (2 : Int32)).toInt64) w_PING w_REQUEST w_NOTIFY w_RESPONSE), .unset] [.null]))
            refine ogo (fun t k => XS.astore X11.here hx rfl (hb hby at_88) rfl rfl (l' := #[.val (.long q0), .second, .val (.int p1), .val (.long ((((p1 >>> ((1 : Int32) &&& 31)) &&& (7 : Int32)) - (2 : Int32)).toInt64)), .second, .val (own_of ((((p1 >>> ((1 : Int32) &&& 31)) &&& (7 : Int32)) - (2 : Int32)).toInt64) w_PING w_REQUEST w_NOTIFY w_RESPONSE), .val .null]) rfl k) ?_
            show OwnEnds _ _ _ _ _ _ _ (T11.setTop (mkF m 90 #[.val (.long q0), .second, .val (.int p1), .val (.long ((((p1 >>> ((1 : Int32) &&& 31)) &&& (7 : Int32)) - (2 : Int32)).toInt64)), .second, .val (own_of ((((p1 >>> ((1 : Int32) &&& 31)) &&& (7 : Int32)) - (2 : Int32)).toInt64) w_PING w_REQUEST w_NOTIFY w_RESPONSE), .val .null] []))
            refine ogo (fun t k => XS.aload X11.here hx rfl (hb hby at_90) rfl (own_of_ref ((((p1 >>> ((1 : Int32) &&& 31)) &&& (7 : Int32)) - (2 : Int32)).toInt64) w_PING w_REQUEST w_NOTIFY w_RESPONSE) k) ?_
            show OwnEnds _ _ _ _ _ _ _ (T11.setTop (mkF m 92 #[.val (.long q0), .second, .val (.int p1), .val (.long ((((p1 >>> ((1 : Int32) &&& 31)) &&& (7 : Int32)) - (2 : Int32)).toInt64)), .second, .val (own_of ((((p1 >>> ((1 : Int32) &&& 31)) &&& (7 : Int32)) - (2 : Int32)).toInt64) w_PING w_REQUEST w_NOTIFY w_RESPONSE), .val .null] [(own_of ((((p1 >>> ((1 : Int32) &&& 31)) &&& (7 : Int32)) - (2 : Int32)).toInt64) w_PING w_REQUEST w_NOTIFY w_RESPONSE)]))
            refine ogo (fun t k => XS.aload X11.here hx rfl (hb hby at_92) rfl rfl k) ?_
            show OwnEnds _ _ _ _ _ _ _ (T11.setTop (mkF m 94 #[.val (.long q0), .second, .val (.int p1), .val (.long ((((p1 >>> ((1 : Int32) &&& 31)) &&& (7 : Int32)) - (2 : Int32)).toInt64)), .second, .val (own_of ((((p1 >>> ((1 : Int32) &&& 31)) &&& (7 : Int32)) - (2 : Int32)).toInt64) w_PING w_REQUEST w_NOTIFY w_RESPONSE), .val .null] [.null, (own_of ((((p1 >>> ((1 : Int32) &&& 31)) &&& (7 : Int32)) - (2 : Int32)).toInt64) w_PING w_REQUEST w_NOTIFY w_RESPONSE)]))
            refine ogo (fun t k => Jvm.RoadKit.acmp (g := (mkF m 94 #[.val (.long q0), .second, .val (.int p1), .val (.long ((((p1 >>> ((1 : Int32) &&& 31)) &&& (7 : Int32)) - (2 : Int32)).toInt64)), .second, .val (own_of ((((p1 >>> ((1 : Int32) &&& 31)) &&& (7 : Int32)) - (2 : Int32)).toInt64) w_PING w_REQUEST w_NOTIFY w_RESPONSE), .val .null] [.null, (own_of ((((p1 >>> ((1 : Int32) &&& 31)) &&& (7 : Int32)) - (2 : Int32)).toInt64) w_PING w_REQUEST w_NOTIFY w_RESPONSE)])) X11 hx rfl (own_of_ref ((((p1 >>> ((1 : Int32) &&& 31)) &&& (7 : Int32)) - (2 : Int32)).toInt64) w_PING w_REQUEST w_NOTIFY w_RESPONSE) rfl (pc0 := 94) (pc' := 97) (same := true) rfl (hb hby at_94) rfl (decide_eq_true (by simp [own_of, hc1, hc12, hc14, hc16, hc18])) (by decide) (by decide) k) ?_
            show OwnEnds _ _ _ _ _ _ _ (T11.setTop (mkF m 97 #[.val (.long q0), .second, .val (.int p1), .val (.long ((((p1 >>> ((1 : Int32) &&& 31)) &&& (7 : Int32)) - (2 : Int32)).toInt64)), .second, .val (own_of ((((p1 >>> ((1 : Int32) &&& 31)) &&& (7 : Int32)) - (2 : Int32)).toInt64) w_PING w_REQUEST w_NOTIFY w_RESPONSE), .val .null] []))
            refine ogo (fun t k => XS.iconst X11.here hx rfl (hb hby at_97) k) ?_
            show OwnEnds _ _ _ _ _ _ _ (T11.setTop (mkF m 98 #[.val (.long q0), .second, .val (.int p1), .val (.long ((((p1 >>> ((1 : Int32) &&& 31)) &&& (7 : Int32)) - (2 : Int32)).toInt64)), .second, .val (own_of ((((p1 >>> ((1 : Int32) &&& 31)) &&& (7 : Int32)) - (2 : Int32)).toInt64) w_PING w_REQUEST w_NOTIFY w_RESPONSE), .val .null] [(.int (1 : Int32))]))
            refine ogo (fun t k => XS.goto X11.here hx rfl (pc0 := 98) (pc' := 102) rfl (hb hby at_98) (by decide) (by decide) k) ?_
            show OwnEnds _ _ _ _ _ _ _ (T11.setTop (mkF m 102 #[.val (.long q0), .second, .val (.int p1), .val (.long ((((p1 >>> ((1 : Int32) &&& 31)) &&& (7 : Int32)) - (2 : Int32)).toInt64)), .second, .val (own_of ((((p1 >>> ((1 : Int32) &&& 31)) &&& (7 : Int32)) - (2 : Int32)).toInt64) w_PING w_REQUEST w_NOTIFY w_RESPONSE), .val .null] [(.int (1 : Int32))]))
            refine endZ X11 hx hlk Bd.returns rfl (hb hby at_102) (by decide) (by decide) ?_
            show Q0 Z q0 p1 w_PING w_REQUEST w_NOTIFY w_RESPONSE w_KINDS h0 n0 _ T11.heap _
            rw [e11]
            exact ⟨rfl, N11⟩
set_option maxRecDepth 65536 in
set_option maxHeartbeats 40000000 in
theorem comes_1 {Post : Tables → Env → Array Value → State → Outcome → State → Prop} (hpost : ∀ tb e args s v u, (limb_1_1.after args s (.returned v) u = true ∧ limb_1_2.after args s (.returned v) u = true ∧ True) → FrameEnd s (.returned v) u (Jvm.fieldLocs frame_1_writes args s ++ Jvm.arrayLocs frame_1_arrays args s ++ Jvm.staticLocs frame_1_statics s) 0 0 → Post tb e args s (.returned v) u) :
    ArmFor flags0 classFile x code maxLocals ret World_1 tables_1 room_1 Calls_1 rest_1 Pre_1 Post := by
  intro l hfl _ _ p e ha hc hk s m args below hf hA hF happ hP
  obtain ⟨hcalls, hrest, hpre⟩ := hP
  obtain ⟨-, -, -, hnamed, -, -, -, hat⟩ := (Spec.applies_iff hf).mp happ
  obtain ⟨hg, hn⟩ := and_e (Cond.before_iff.mp (show (Jvm.Cond.and given_1 narrow_1).before args s = true from hpre))
  obtain ⟨hcount, hg0⟩ := and_e hg
  obtain ⟨hk0, hg1⟩ := and_e hg0
  have hk1 := hg1
  obtain ⟨w0, w1, rfl⟩ : ∃ w0 w1 : Value, args = #[w0, w1] := by
    have hs : args.size = 2 := by simpa [Cond.value, given_1] using hcount
    obtain ⟨L⟩ := args
    match L, hs with
    | [w0, w1], _ => exact ⟨w0, w1, rfl⟩
  have hw := fun d (hd : d ∈ tables_1) => atoms_spec (ws := Jvm.Cond.code x code maxLocals ret :: tables_1) hat d (List.mem_cons_of_mem _ hd)
  have hfit : Fit s := fun {y c} hc i hi => by
    obtain ⟨ha, rfl⟩ := Array.getElem?_eq_some_iff.mp hc
    have q := List.all_eq_true.mp ((Array.all_eq_true_iff_forall_mem.mp hF) _ (Array.getElem_mem ha)) i (List.mem_range.mpr hi)
    simpa [Array.getElem?_eq_getElem hi] using q
  obtain ⟨i0, ei0⟩ := isL_v hk0
  obtain rfl : w0 = (.long i0) := Option.some.inj ei0
  obtain ⟨i1, ei1⟩ := is_v hk1
  obtain rfl : w1 = (.int i1) := Option.some.inj ei1
  obtain ⟨u1a, u1b⟩ := and_e hn
  obtain ⟨u2a, u2b⟩ := and_e u1b
  obtain ⟨u3a, u3b⟩ := and_e u2b
  obtain ⟨u4a, u4b⟩ := and_e u3b
  obtain ⟨u5a, u5b⟩ := and_e u4b
  obtain ⟨u6a, u6b⟩ := and_e u5b
  obtain ⟨u7a, u7b⟩ := and_e u6b
  obtain ⟨u8a, u8b⟩ := and_e u7b
  obtain ⟨u9a, u9b⟩ := and_e u8b
  obtain ⟨u10a, u10b⟩ := and_e u9b
  obtain ⟨u11a, u11b⟩ := and_e u10b
  obtain ⟨u12a, u12b⟩ := and_e u11b
  obtain ⟨u13a, u13b⟩ := and_e u12b
  obtain ⟨w_PING, ev_PING⟩ := exa_v u3a
  have S_PING : Sta s s.heap "com/example/packframe/packframe/onebyte/Kind" "PING" "Lcom/example/packframe/packframe/onebyte/Kind;" (.ref w_PING) := Sta.start ev_PING (Or.inr ⟨(hw _ (List.mem_of_getElem? (i := 2) rfl)), (hw _ (List.mem_of_getElem? (i := 6) rfl))⟩)
  have E_PING : Exa s s.heap w_PING "com/example/packframe/packframe/onebyte/Kind" := Exa.start ev_PING u3a
  obtain ⟨w_REQUEST, ev_REQUEST⟩ := exa_v u6a
  have S_REQUEST : Sta s s.heap "com/example/packframe/packframe/onebyte/Kind" "REQUEST" "Lcom/example/packframe/packframe/onebyte/Kind;" (.ref w_REQUEST) := Sta.start ev_REQUEST (Or.inr ⟨(hw _ (List.mem_of_getElem? (i := 2) rfl)), (hw _ (List.mem_of_getElem? (i := 9) rfl))⟩)
  have E_REQUEST : Exa s s.heap w_REQUEST "com/example/packframe/packframe/onebyte/Kind" := Exa.start ev_REQUEST u6a
  obtain ⟨w_NOTIFY, ev_NOTIFY⟩ := exa_v u9a
  have S_NOTIFY : Sta s s.heap "com/example/packframe/packframe/onebyte/Kind" "NOTIFY" "Lcom/example/packframe/packframe/onebyte/Kind;" (.ref w_NOTIFY) := Sta.start ev_NOTIFY (Or.inr ⟨(hw _ (List.mem_of_getElem? (i := 2) rfl)), (hw _ (List.mem_of_getElem? (i := 10) rfl))⟩)
  have E_NOTIFY : Exa s s.heap w_NOTIFY "com/example/packframe/packframe/onebyte/Kind" := Exa.start ev_NOTIFY u9a
  obtain ⟨w_RESPONSE, ev_RESPONSE⟩ := exa_v u12a
  have S_RESPONSE : Sta s s.heap "com/example/packframe/packframe/onebyte/Kind" "RESPONSE" "Lcom/example/packframe/packframe/onebyte/Kind;" (.ref w_RESPONSE) := Sta.start ev_RESPONSE (Or.inr ⟨(hw _ (List.mem_of_getElem? (i := 2) rfl)), (hw _ (List.mem_of_getElem? (i := 11) rfl))⟩)
  have E_RESPONSE : Exa s s.heap w_RESPONSE "com/example/packframe/packframe/onebyte/Kind" := Exa.start ev_RESPONSE u12a
  have F_code_PING : Fld s s.heap w_PING "com/example/packframe/packframe/onebyte/Kind" "code" "I" (.int (0 : Int32)) := own_fld u5a ev_PING
  have F_code_REQUEST : Fld s s.heap w_REQUEST "com/example/packframe/packframe/onebyte/Kind" "code" "I" (.int (1 : Int32)) := own_fld u8a ev_REQUEST
  have F_code_NOTIFY : Fld s s.heap w_NOTIFY "com/example/packframe/packframe/onebyte/Kind" "code" "I" (.int (2 : Int32)) := own_fld u11a ev_NOTIFY
  have F_code_RESPONSE : Fld s s.heap w_RESPONSE "com/example/packframe/packframe/onebyte/Kind" "code" "I" (.int (3 : Int32)) := own_fld u13b ev_RESPONSE
  obtain ⟨w_KINDS, ev_KINDS⟩ := arr_v u1a
  have S_KINDS : Sta s s.heap "com/example/packframe/packframe/onebyte/Kind" "KINDS" "[Lcom/example/packframe/packframe/onebyte/Kind;" (.ref w_KINDS) := Sta.start ev_KINDS (Or.inr ⟨(hw _ (List.mem_of_getElem? (i := 2) rfl)), (hw _ (List.mem_of_getElem? (i := 5) rfl))⟩)
  obtain ⟨cl_KINDS, Ar_KINDS⟩ := Arr.start ev_KINDS u1a
  obtain ⟨hl_KINDS, hk_KINDS⟩ := own_len u2a ev_KINDS (Arr.fin (Vm.Alike.refl _) Ar_KINDS)
  have V_KINDS : ∃ k, Arv s s.heap w_KINDS k (.object "com/example/packframe/packframe/onebyte/Kind") (4 : Int32) [(.ref w_PING), (.ref w_REQUEST), (.ref w_NOTIFY), (.ref w_RESPONSE)] .null := ⟨_, Arv.start hfit Ar_KINDS hl_KINDS hk_KINDS (by decide) rfl ⟨(own_elem u4a ev_KINDS ev_PING Ar_KINDS.1), (own_elem u7a ev_KINDS ev_REQUEST Ar_KINDS.1), (own_elem u10a ev_KINDS ev_NOTIFY Ar_KINDS.1), (own_elem u13a ev_KINDS ev_RESPONSE Ar_KINDS.1), trivial⟩⟩
  obtain ⟨n, o, h1, h2, h3, _, L, rfl, ⟨rfl, N⟩, hq⟩ := rm0 l s _ hw tables_1 i0 i1 w_PING w_REQUEST w_NOTIFY w_RESPONSE w_KINDS s.heap s.heap.size (Nat.le_refl _) S_PING E_PING F_code_PING S_REQUEST E_REQUEST F_code_REQUEST S_NOTIFY E_NOTIFY F_code_NOTIFY S_RESPONSE E_RESPONSE F_code_RESPONSE S_KINDS V_KINDS p e ha hc hk s m _ below hf ((Spec.applies_iff_loose hf).mp happ).1 ⟨rfl, State.Warmed39.refl s, rfl⟩ trivial
  refine ⟨n, _, h1, h2, h3, hpost _ _ _ _ _ _ ⟨Cond.after_iff.mpr rfl, Cond.after_iff.mpr (eq_i res_at (Term.int_eval (1)) rfl), trivial⟩ ⟨hq.1, hq.2.1, (hq.2.2.sift fun y hy => Or.inr (N y hy)).mono (by decide) (by decide)⟩⟩
theorem main_1_1 : Claimed_1_1 := comes_1 fun _ _ _ _ _ _ h hF => ⟨h.1, hF⟩
theorem main_1_2 : Claimed_1_2 := comes_1 fun _ _ _ _ _ _ h hF => ⟨h.2.1, hF⟩
end Jvm.Pilot.@@N@@
namespace Jvm.Pilot.@@N@@
open Jvm Jvm.ClassFile Sem Op Lib Jvm.Free Jvm.Stand Jvm.Pilot.@@N@@.Jvm.D
/-! MADE BY PROGRAM (witnessworld.py) out of the Statement's table words and the real class files: 13 classes; the members and pool entries that the words name. The judged class is class 1, her method 1. -/
namespace start1
open Jvm.ClassFile
def u (s : String) : CpInfo := .utf8 (stringToUtf16 s)
/-- a pool by its gaps: so many unusable entries, then the entry; so many at the end -/
def gap : Nat → List CpInfo → List CpInfo
  | 0, r => r
  | n + 1, r => .unusable :: gap n r
def poolList (es : List (Nat × CpInfo)) (last : Nat) : List CpInfo := es.foldr (fun e r => gap e.1 (e.2 :: r)) (gap last [])
def pool (es : List (Nat × CpInfo)) (last : Nat) : Array CpInfo := ⟨poolList es last⟩
def fileOf (pool : Array CpInfo) (this : Nat) (attrs : Array Attribute := #[]) (ms : Array MethodInfo := #[]) (fl : Nat := 33) (sup : Nat := 0) (ifs : Array Nat := #[]) (fds : Array FieldInfo := #[]) : ClassFile where
  minorVersion := 0
  majorVersion := 65
  constantPool := pool
  accessFlags := fl
  thisClass := this
  superClass := sup
  interfaces := ifs
  fields := fds
  methods := ms
  attributes := attrs
def plain (name : String) (sup : Option ClassId) : Class where
  name := name
  kind := .ordinary
  loader := none
  accessFlags := 33
  super := sup
  interfaces := #[]
  cf := none
  fields := #[]
  methods := #[]
  instanceTypes := #[]
  staticTypes := #[]
  resolved := #[]
  callSites := []
  init := .initialized
  statics := none
  mirror := none

def pool0 : Array CpInfo := pool [(5, u "<init>"), (0, u "()V"), (1, .class_ 10), (1, u "java/lang/Object")] 113

def k0m0 : Method := { name := "<init>", desc := "()V", sig := { parameters := [], returnType := none }, accessFlags := 1, code := none }
/-- java/lang/Object -/
def k0 : Class := { plain "java/lang/Object" none with
  accessFlags := 33
  interfaces := #[]
  cf := some (fileOf pool0 8 #[] #[{ accessFlags := 1, nameIndex := 5, descriptorIndex := 6, attributes := #[] }] 33 0 #[] #[])
  fields := #[]
  methods := #[k0m0]
  instanceTypes := #[]
  staticTypes := #[]
  resolved := Array.replicate 124 none
  statics := none }

def pool1 : Array CpInfo := pool [(2, .class_ 4), (1, u "java/lang/Object"), (0, u "<init>"), (0, u "()V"), (0, .methodref 8 9), (0, .class_ 10), (0, .nameAndType 11 12), (0, u "com/example/packframe/packframe/onebyte/Kind"), (0, u "ofCode"), (0, u "(J)Lcom/example/packframe/packframe/onebyte/Kind;"), (0, .fieldref 8 14), (0, .nameAndType 15 16), (0, u "PING"), (0, u "Lcom/example/packframe/packframe/onebyte/Kind;"), (0, .fieldref 8 18), (0, .nameAndType 19 16), (0, u "REQUEST"), (0, .long 2), (1, .fieldref 8 23), (0, .nameAndType 24 16), (0, u "NOTIFY"), (0, .long 3), (1, .fieldref 8 28), (0, .nameAndType 29 16), (0, u "RESPONSE"), (0, .class_ 31), (0, u "com/example/packframe/packframe/onebyte/KindOfCodePinLaw"), (2, u "law"), (0, u "(JI)Z")] 3

def k1m0 : Method := { name := "<init>", desc := "()V", sig := { parameters := [], returnType := none }, accessFlags := 1, code := none }
def k1c1 : Code := { maxStack := 4, maxLocals := 7, code := code, exceptionTable := #[], attributes := #[] }
def k1m1 : Method := { name := "law", desc := "(JI)Z", sig := { parameters := [.long, .int], returnType := some .boolean }, accessFlags := 9, code := some k1c1 }
/-- com/example/packframe/packframe/onebyte/KindOfCodePinLaw -/
def k1 : Class := { plain "com/example/packframe/packframe/onebyte/KindOfCodePinLaw" (some 0) with
  accessFlags := 49
  interfaces := #[]
  cf := some (fileOf pool1 30 #[] #[{ accessFlags := 1, nameIndex := 5, descriptorIndex := 6, attributes := #[] }, { accessFlags := 9, nameIndex := 34, descriptorIndex := 35, attributes := #[] }] 49 2 #[] #[])
  fields := #[]
  methods := #[k1m0, k1m1]
  instanceTypes := #[]
  staticTypes := #[]
  resolved := Array.replicate 39 none
  statics := none }

def pool2 : Array CpInfo := pool [(1, .class_ 2), (0, u "java/lang/constant/Constable"), (0, .class_ 4), (0, u "java/lang/Object")] 6

/-- java/lang/constant/Constable -/
def k2 : Class := { plain "java/lang/constant/Constable" (some 0) with
  accessFlags := 1537
  interfaces := #[]
  cf := some (fileOf pool2 1 #[] #[] 1537 3 #[] #[])
  fields := #[]
  methods := #[]
  instanceTypes := #[]
  staticTypes := #[]
  resolved := Array.replicate 11 none
  statics := none }

def pool3 : Array CpInfo := pool [(1, .class_ 2), (0, u "java/lang/Comparable"), (0, .class_ 4), (0, u "java/lang/Object")] 7

/-- java/lang/Comparable -/
def k3 : Class := { plain "java/lang/Comparable" (some 0) with
  accessFlags := 1537
  interfaces := #[]
  cf := some (fileOf pool3 1 #[] #[] 1537 3 #[] #[])
  fields := #[]
  methods := #[]
  instanceTypes := #[]
  staticTypes := #[]
  resolved := Array.replicate 12 none
  statics := none }

def pool4 : Array CpInfo := pool [(1, .class_ 2), (0, u "java/io/Serializable"), (0, .class_ 4), (0, u "java/lang/Object")] 2

/-- java/io/Serializable -/
def k4 : Class := { plain "java/io/Serializable" (some 0) with
  accessFlags := 1537
  interfaces := #[]
  cf := some (fileOf pool4 1 #[] #[] 1537 3 #[] #[])
  fields := #[]
  methods := #[]
  instanceTypes := #[]
  staticTypes := #[]
  resolved := Array.replicate 7 none
  statics := none }

def pool5 : Array CpInfo := pool [(2, .class_ 4), (1, u "java/lang/Enum"), (0, u "name"), (0, u "Ljava/lang/String;"), (2, u "ordinal"), (0, u "I"), (1, .class_ 14), (1, u "java/lang/Object"), (4, u "hash"), (86, .class_ 108), (1, u "java/lang/Enum$EnumDesc"), (2, .class_ 112), (0, u "java/lang/constant/Constable"), (0, .class_ 114), (0, u "java/lang/Comparable"), (0, .class_ 116), (0, u "java/io/Serializable")] 87

/-- java/lang/Enum -/
def k5 : Class := { plain "java/lang/Enum" (some 0) with
  accessFlags := 1057
  interfaces := #[2, 3, 4]
  cf := some (fileOf pool5 2 #[.nestMembers #[106]] #[] 1057 12 #[111, 113, 115] #[{ accessFlags := 18, nameIndex := 5, descriptorIndex := 6, attributes := #[] }, { accessFlags := 18, nameIndex := 9, descriptorIndex := 10, attributes := #[] }, { accessFlags := 2, nameIndex := 19, descriptorIndex := 10, attributes := #[] }])
  fields := #[{ name := "name", type := (.object "java/lang/String"), accessFlags := 18, slot := 0, constantValue := 0 }, { name := "ordinal", type := .int, accessFlags := 18, slot := 1, constantValue := 0 }, { name := "hash", type := .int, accessFlags := 2, slot := 2, constantValue := 0 }]
  methods := #[]
  instanceTypes := #[(.object "java/lang/String"), .int, .int]
  staticTypes := #[]
  resolved := Array.replicate 204 none
  statics := none }

def pool6 : Array CpInfo := pool [(1, .class_ 2), (0, u "com/example/packframe/packframe/onebyte/Kind"), (2, u "PING"), (0, u "Lcom/example/packframe/packframe/onebyte/Kind;"), (2, u "REQUEST"), (2, u "NOTIFY"), (2, u "RESPONSE"), (2, u "$VALUES"), (0, u "[Lcom/example/packframe/packframe/onebyte/Kind;"), (6, .class_ 28), (1, u "java/lang/Enum"), (6, .fieldref 1 36), (0, .nameAndType 37 38), (0, u "code"), (0, u "I"), (2, u "hasId"), (0, u "Z"), (2, u "hasAction"), (2, u "hasStatus"), (0, .fieldref 1 50), (0, .nameAndType 51 19), (0, u "KINDS"), (22, u "ofCode"), (0, u "(J)Lcom/example/packframe/packframe/onebyte/Kind;")] 6

def k6c0 : Code := { maxStack := 4, maxLocals := 6, code := prog_21_method_8_code, exceptionTable := #[], attributes := #[] }
def k6m0 : Method := { name := "ofCode", desc := "(J)Lcom/example/packframe/packframe/onebyte/Kind;", sig := { parameters := [.long], returnType := some (.object "com/example/packframe/packframe/onebyte/Kind") }, accessFlags := 9, code := some k6c0 }
/-- com/example/packframe/packframe/onebyte/Kind -/
def k6 : Class := { plain "com/example/packframe/packframe/onebyte/Kind" (some 5) with
  accessFlags := 16433
  interfaces := #[]
  cf := some (fileOf pool6 1 #[] #[{ accessFlags := 9, nameIndex := 74, descriptorIndex := 75, attributes := #[] }] 16433 26 #[] #[{ accessFlags := 16409, nameIndex := 5, descriptorIndex := 6, attributes := #[] }, { accessFlags := 16409, nameIndex := 9, descriptorIndex := 6, attributes := #[] }, { accessFlags := 16409, nameIndex := 12, descriptorIndex := 6, attributes := #[] }, { accessFlags := 16409, nameIndex := 15, descriptorIndex := 6, attributes := #[] }, { accessFlags := 26, nameIndex := 51, descriptorIndex := 19, attributes := #[] }, { accessFlags := 18, nameIndex := 37, descriptorIndex := 38, attributes := #[] }, { accessFlags := 18, nameIndex := 41, descriptorIndex := 42, attributes := #[] }, { accessFlags := 18, nameIndex := 45, descriptorIndex := 42, attributes := #[] }, { accessFlags := 18, nameIndex := 48, descriptorIndex := 42, attributes := #[] }, { accessFlags := 4122, nameIndex := 18, descriptorIndex := 19, attributes := #[] }])
  fields := #[{ name := "PING", type := (.object "com/example/packframe/packframe/onebyte/Kind"), accessFlags := 16409, slot := 0, constantValue := 0 }, { name := "REQUEST", type := (.object "com/example/packframe/packframe/onebyte/Kind"), accessFlags := 16409, slot := 1, constantValue := 0 }, { name := "NOTIFY", type := (.object "com/example/packframe/packframe/onebyte/Kind"), accessFlags := 16409, slot := 2, constantValue := 0 }, { name := "RESPONSE", type := (.object "com/example/packframe/packframe/onebyte/Kind"), accessFlags := 16409, slot := 3, constantValue := 0 }, { name := "KINDS", type := (.array (.object "com/example/packframe/packframe/onebyte/Kind")), accessFlags := 26, slot := 4, constantValue := 0 }, { name := "code", type := .int, accessFlags := 18, slot := 3, constantValue := 0 }, { name := "hasId", type := .boolean, accessFlags := 18, slot := 4, constantValue := 0 }, { name := "hasAction", type := .boolean, accessFlags := 18, slot := 5, constantValue := 0 }, { name := "hasStatus", type := .boolean, accessFlags := 18, slot := 6, constantValue := 0 }, { name := "$VALUES", type := (.array (.object "com/example/packframe/packframe/onebyte/Kind")), accessFlags := 4122, slot := 5, constantValue := 0 }]
  methods := #[k6m0]
  instanceTypes := #[(.object "java/lang/String"), .int, .int, .int, .boolean, .boolean, .boolean]
  staticTypes := #[(.object "com/example/packframe/packframe/onebyte/Kind"), (.object "com/example/packframe/packframe/onebyte/Kind"), (.object "com/example/packframe/packframe/onebyte/Kind"), (.object "com/example/packframe/packframe/onebyte/Kind"), (.array (.object "com/example/packframe/packframe/onebyte/Kind")), (.array (.object "com/example/packframe/packframe/onebyte/Kind"))]
  resolved := Array.replicate 82 none
  statics := some 0 }

def pool7 : Array CpInfo := pool [(1, u "java/lang/Cloneable"), (0, .class_ 1), (0, u "java/lang/Object"), (0, .class_ 3)] 3

/-- java/lang/Cloneable -/
def k7 : Class := { plain "java/lang/Cloneable" (some 0) with
  accessFlags := 1537
  interfaces := #[]
  cf := some (fileOf pool7 2 #[] #[] 1537 4 #[] #[])
  fields := #[]
  methods := #[]
  instanceTypes := #[]
  staticTypes := #[]
  resolved := Array.replicate 8 none
  statics := none }

/-- the primitive byte -/
def k8 : Class := { plain "byte" none with kind := .primitive 'B', accessFlags := 0x411 }
/-- [B -/
def k9 : Class := { plain "[B" (some 0) with kind := .array 8 .byte, interfaces := #[7, 4], accessFlags := 1041 }

/-- the primitive int -/
def k10 : Class := { plain "int" none with kind := .primitive 'I', accessFlags := 0x411 }
/-- [I -/
def k11 : Class := { plain "[I" (some 0) with kind := .array 10 .int, interfaces := #[7, 4], accessFlags := 1041 }

/-- [Lcom/example/packframe/packframe/onebyte/Kind; -/
def k12 : Class := { plain "[Lcom/example/packframe/packframe/onebyte/Kind;" (some 0) with kind := .array 6 (.object "com/example/packframe/packframe/onebyte/Kind"), interfaces := #[7, 4], accessFlags := 1041 }

def heap : Heap := #[{ cls := 6, slots := #[.ref 2, .ref 3, .ref 4, .ref 5, .ref 1, .null], vm := .statics 6 },
  { cls := 12, slots := #[.ref 2, .ref 3, .ref 4, .ref 5], vm := .none },
  { cls := 6, slots := #[.null, .int 0, .int 0, .int 0, .int 0, .int 0, .int 0], vm := .none },
  { cls := 6, slots := #[.null, .int 0, .int 0, .int 1, .int 0, .int 0, .int 0], vm := .none },
  { cls := 6, slots := #[.null, .int 0, .int 0, .int 2, .int 0, .int 0, .int 0], vm := .none },
  { cls := 6, slots := #[.null, .int 0, .int 0, .int 3, .int 0, .int 0, .int 0], vm := .none }]
def classes : Array Class := #[k0, k1, k2, k3, k4, k5, k6, k7, k8, k9, k10, k11, k12]
def interned : List (Array UInt16 × Addr) := []
def slotsUsed : Nat := 38
def theMethod : MethodId := ⟨1, 1⟩
def args0 : Array Value := #[.long 5, .int 5]
def aboutOver (below : List Frame) : State where
  vm := { classes := classes, interned := interned.toArray }
  heap := heap
  slotsUsed := slotsUsed
  threads := #[{ frames := .invoking theMethod args0 :: below }]
def below0 : List Frame := [.native { method := ⟨0, 0⟩, args := #[] }]
def about1 : State := aboutOver below0
def p0 : Program := .bare "" "" ""
def e0 : Env := launch0.env 0 0 0
theorem w_frames : about1.frames = Frame.invoking theMethod args0 :: below0 := rfl
set_option maxRecDepth 65536 in
theorem w_args : argsFit about1.vm theMethod args0 = true := by decide +kernel
set_option maxRecDepth 65536 in
theorem w_heap : heapFits about1 = true := by decide +kernel
set_option maxRecDepth 65536 in
theorem w_runnable : about1.curStatus? = some .runnable := by decide +kernel
set_option maxRecDepth 65536 in
theorem w_alone : about1.alone = true := by decide +kernel
set_option maxRecDepth 65536 in
theorem w_named : about1.methodNamed? x = some theMethod := by decide +kernel
set_option maxRecDepth 65536 in
theorem w_hears : about1.hears theMethod below0 = true := by decide +kernel
set_option maxRecDepth 65536 in
theorem w_ripe : about1.ripe theMethod args0 below0 = true := by decide +kernel
theorem w_running : about1.status = .running := rfl
set_option maxRecDepth 65536 in
theorem w_room : about1.hasRoom e0.platform room_1 = true :=
  launch0.hasRoom_least _ room_1 (by decide +kernel) (by decide +kernel) (by decide +kernel) (by decide +kernel) (by decide +kernel) (by decide +kernel)
theorem allAtoms_all (ts : List Jvm.Cond) (a : Array Jvm.Value) (st : Jvm.State) : (allAtoms ts).before a st = ts.all (fun c => c.before a st) := by
  induction ts with
  | nil => rfl
  | cons c t ih =>
    show (Jvm.Cond.and c (allAtoms t)).before a st = _
    rw [Jvm.Cond.before_and, ih, List.all_cons]
def words1 : List Jvm.Cond := Jvm.Cond.code x code maxLocals ret :: tables_1
/-- a 'code' word, met by the world's own term for the bytes: nothing is compared byte by byte -/
theorem code_word {y : MethodName} {bytes : ByteArray} {mx : Nat} {rt : Option FieldType} {a : Array Value} {s : State} {m : MethodId} {meth : Method} {c : Code} (h1 : s.methodNamed? y = some m) (h2 : s.vm.method? m = some meth) (h3 : meth.code = some c) (h4 : c.code = bytes)
    (h5 : (c.maxLocals == mx && c.exceptionTable.isEmpty && decide (c.maxStack ≤ mostOperands) && decide (meth.sig.returnType = rt) && !meth.locks && decide (parseMethodDescriptor y.desc = some meth.sig)) = true) : (Jvm.Cond.code y bytes mx rt).before a s = true := by
  simp only [Bool.and_eq_true, beq_iff_eq, Bool.not_eq_true', decide_eq_true_eq] at h5
  obtain ⟨⟨⟨⟨⟨g1, g2⟩, g3⟩, g4⟩, g5⟩, g6⟩ := h5
  simp [Cond.before, Cond.holds, Cond.value, h1, h2, h3, h4, g1, g2, g3, g4, g5, g6]
def isCode : Jvm.Cond → Bool
  | .code _ _ _ _ => true
  | _ => false
theorem all_split {L : List Jvm.Cond} {P : Jvm.Cond → Bool} (h1 : L.all (fun c => isCode c || P c) = true) (h2 : ∀ c ∈ L.filter isCode, P c = true) : L.all P = true := by
  refine List.all_eq_true.mpr fun c hc => ?_
  have h := List.all_eq_true.mp h1 c hc
  rcases Bool.eq_false_or_eq_true (isCode c) with hi | hi
  · exact h2 c (List.mem_filter.mpr ⟨hc, hi⟩)
  · simpa [hi] using h
set_option maxRecDepth 65536 in
theorem w_c0 : (Jvm.Cond.code x code maxLocals ret).before args0 about1 = true := code_word (m := ⟨1, 1⟩) (meth := k1m1) (c := k1c1) (by decide +kernel) rfl rfl rfl (by decide +kernel)
set_option maxRecDepth 65536 in
theorem w_c1 : (Jvm.Cond.code ({ cls := "com/example/packframe/packframe/onebyte/Kind", name := "ofCode", desc := "(J)Lcom/example/packframe/packframe/onebyte/Kind;" } : Jvm.MethodName) prog_21_method_8_code (6 : Nat) (Option.some (Jvm.ClassFile.FieldType.object "com/example/packframe/packframe/onebyte/Kind"))).before args0 about1 = true := code_word (m := ⟨6, 0⟩) (meth := k6m0) (c := k6c0) (by decide +kernel) rfl rfl rfl (by decide +kernel)
def codes1 : List Jvm.Cond := [Jvm.Cond.code x code maxLocals ret, Jvm.Cond.code ({ cls := "com/example/packframe/packframe/onebyte/Kind", name := "ofCode", desc := "(J)Lcom/example/packframe/packframe/onebyte/Kind;" } : Jvm.MethodName) prog_21_method_8_code (6 : Nat) (Option.some (Jvm.ClassFile.FieldType.object "com/example/packframe/packframe/onebyte/Kind"))]
set_option maxRecDepth 65536 in
theorem codes_eq : words1.filter isCode = codes1 := rfl
theorem w_codes : ∀ c ∈ words1.filter isCode, c.before args0 about1 = true := by
  rw [codes_eq]
  intro c hc
  simp only [codes1, List.mem_cons, List.not_mem_nil, or_false] at hc
  rcases hc with rfl | rfl
  · exact w_c0
  · exact w_c1
set_option maxRecDepth 65536 in
theorem w_t1 : words1.all (fun c => isCode c || c.before args0 about1) = true := by decide +kernel
theorem w_tables : (allAtoms (Jvm.Cond.code x code maxLocals ret :: tables_1)).before args0 about1 = true := by
  rw [allAtoms_all]
  show words1.all (fun c => c.before args0 about1) = true
  refine all_split ?_ w_codes
  rw [w_t1]
set_option maxRecDepth 65536 in
theorem w_case : (Jvm.Cond.and given_1 narrow_1).before args0 about1 = true := by decide +kernel
theorem w_applies : (headSpec (Jvm.Cond.code x code maxLocals ret :: tables_1) room_1).applies x e0.platform about1 = true :=
  (Spec.applies_iff w_frames).mpr ⟨w_running, w_runnable, w_alone, w_named, w_hears, w_ripe, w_room, w_tables⟩
theorem atStart : AtStart classFile x code maxLocals ret World_1 tables_1 room_1 Calls_1 rest_1 Pre_1 launch0 p0 e0 about1 theMethod args0 below0 :=
  ⟨lists_1, trivial, launch0.admits_env _ _ _, launch0.least_env, fairChoices_fair.cas, fairChoices_fair.clock, w_frames, w_args, w_heap, w_applies, trivial, trivial, w_case⟩
end start1
theorem witness_1 : WitnessClaimed_1 := ⟨start1.p0, start1.e0, start1.about1, start1.theMethod, start1.args0, start1.below0, start1.atStart⟩
end Jvm.Pilot.@@N@@
