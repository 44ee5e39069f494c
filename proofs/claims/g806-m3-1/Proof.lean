import JvmDerived
import JvmDerived.Pilot.@@N@@Statement
import JvmDerived.Pilot.@@N@@Code
set_option linter.unusedVariables false
set_option linter.unusedSimpArgs false
@@BLOCK:NumsL.lean.txt@@
namespace Jvm.OwnW
open Sem ClassFile Op Lib Jvm.Stand Jvm.Free Jvm.LawKit Jvm.RoadKit
section Own
variable {p : Program} {l : Launch} {e : Env} {R : Room} {s : State} {m : MethodId} {args : Array Value} {below : List Frame} {meth : Method} {c : Code} {T : State} {locs : List Loc} {cells slots : Nat} {K N : Nat} {Q : Option Value → Heap → List Loc → Prop}
/-- from U the run comes to the method's end, and what it leaves there is Q -/
def OwnEnds (tb : Tables) (e : Env) (below : List Frame) (s : State) (K N : Nat) (Q : Option Value → Heap → List Loc → Prop) (U : State) : Prop :=
  ∃ s₂ o, Steps tb e below U s₂ ∧ s₂.status = .running ∧ Ended s₂ below o ∧ ∃ v L, o = .returned v ∧ Q v s₂.heap L ∧ FrameEnd s o s₂ L K N
theorem ogo {tb : Tables} {U U' : State} (st : ∀ t, Steps tb e below U' t → Steps tb e below U t) (h : OwnEnds tb e below s K N Q U') : OwnEnds tb e below s K N Q U := by
  obtain ⟨s₂, o, h1, h2⟩ := h
  exact ⟨s₂, o, st _ h1, h2⟩
theorem endR (X : Stand p l e R s m args below meth c T locs cells slots) (hx : p.tables.exec = Jvm.exec) (hlk : meth.locks = false) {pc : Nat} {Ls : Array Slot} {w : Value} {t : FieldType} {i : Instr} {rest : List Value} (hret : meth.sig.returnType = some t) (hn : narrow t w = w)
    (hi : (i = .ireturn ∧ (t = .int ∨ t = .boolean ∨ t = .byte ∨ t = .char ∨ t = .short) ∧ ∃ z, w = .int z) ∨ (i = .lreturn ∧ t = .long ∧ ∃ z, w = .long z) ∨ (i = .dreturn ∧ t = .double ∧ ∃ z, w = .double z) ∨ (i = .freturn ∧ t = .float ∧ ∃ z, w = .float z) ∨ (i = .areturn ∧ t.isReference = true ∧ w.isRef = true))
    (hd : decode c.code pc = .ok (i, 1)) (hK : cells ≤ K) (hN : slots ≤ N) (hQ : Q (some w) T.heap locs) : OwnEnds p.tables e below s K N Q (T.setTop (mkF m pc Ls (w :: rest))) := by
  obtain ⟨fs, hr, hrun, hended, hW, hsame⟩ := X.leave (v := some w) (fun h => by rw [hret] at h; cases h) hlk
  exact ⟨_, _, retOut X hx hret hn hi hd hr, hrun, hended, _, _, rfl, hQ, ⟨_, rfl⟩, hW, hsame.mono hK hN⟩
theorem endI (X : Stand p l e R s m args below meth c T locs cells slots) (hx : p.tables.exec = Jvm.exec) (hlk : meth.locks = false) {pc : Nat} {Ls : Array Slot} {z : Int32} {rest : List Value} (hret : meth.sig.returnType = some .int)
    (hd : decode c.code pc = .ok (.ireturn, 1)) (hK : cells ≤ K) (hN : slots ≤ N) (hQ : Q (some (.int z)) T.heap locs) : OwnEnds p.tables e below s K N Q (T.setTop (mkF m pc Ls (.int z :: rest))) :=
  endR X hx hlk hret rfl (Or.inl ⟨rfl, Or.inl rfl, z, rfl⟩) hd hK hN hQ
theorem endZ (X : Stand p l e R s m args below meth c T locs cells slots) (hx : p.tables.exec = Jvm.exec) (hlk : meth.locks = false) {pc : Nat} {Ls : Array Slot} {z : Int32} {rest : List Value} (hret : meth.sig.returnType = some .boolean) (hn : narrow .boolean (.int z) = .int z)
    (hd : decode c.code pc = .ok (.ireturn, 1)) (hK : cells ≤ K) (hN : slots ≤ N) (hQ : Q (some (.int z)) T.heap locs) : OwnEnds p.tables e below s K N Q (T.setTop (mkF m pc Ls (.int z :: rest))) :=
  endR X hx hlk hret hn (Or.inl ⟨rfl, Or.inr (Or.inl rfl), z, rfl⟩) hd hK hN hQ
theorem endJ (X : Stand p l e R s m args below meth c T locs cells slots) (hx : p.tables.exec = Jvm.exec) (hlk : meth.locks = false) {pc : Nat} {Ls : Array Slot} {z : Int64} {rest : List Value} (hret : meth.sig.returnType = some .long)
    (hd : decode c.code pc = .ok (.lreturn, 1)) (hK : cells ≤ K) (hN : slots ≤ N) (hQ : Q (some (.long z)) T.heap locs) : OwnEnds p.tables e below s K N Q (T.setTop (mkF m pc Ls (.long z :: rest))) :=
  endR X hx hlk hret rfl (Or.inr (Or.inl ⟨rfl, rfl, z, rfl⟩)) hd hK hN hQ
theorem endA (X : Stand p l e R s m args below meth c T locs cells slots) (hx : p.tables.exec = Jvm.exec) (hlk : meth.locks = false) {pc : Nat} {Ls : Array Slot} {w : Value} {t : FieldType} {rest : List Value} (hret : meth.sig.returnType = some t) (ht : t.isReference = true) (hw : w.isRef = true)
    (hd : decode c.code pc = .ok (.areturn, 1)) (hK : cells ≤ K) (hN : slots ≤ N) (hQ : Q (some w) T.heap locs) : OwnEnds p.tables e below s K N Q (T.setTop (mkF m pc Ls (w :: rest))) :=
  endR X hx hlk hret (by rcases ref_cases hw with rfl | ⟨a, rfl⟩ <;> cases t <;> simp_all [narrow, FieldType.isReference]) (Or.inr (Or.inr (Or.inr (Or.inr ⟨rfl, ht, hw⟩)))) hd hK hN hQ
theorem endV (X : Stand p l e R s m args below meth c T locs cells slots) (hx : p.tables.exec = Jvm.exec) (hlk : meth.locks = false) {pc : Nat} {Ls : Array Slot} (hret : meth.sig.returnType = none)
    (hd : decode c.code pc = .ok (.return_, 1)) (hK : cells ≤ K) (hN : slots ≤ N) (hQ : Q none T.heap locs) : OwnEnds p.tables e below s K N Q (T.setTop (mkF m pc Ls [])) := by
  obtain ⟨fs, hr, hrun, hended, hW, hsame⟩ := X.leave (v := none) (fun _ => rfl) hlk
  exact ⟨_, _, X.returnOut hx hret hd hr, hrun, hended, _, _, rfl, hQ, ⟨_, rfl⟩, hW, hsame.mono hK hN⟩
end Own
end Jvm.OwnW
namespace Jvm.Pilot.@@N@@
open Jvm Jvm.ClassFile Sem Op Lib Jvm.Free Jvm.Stand Jvm.LawKit Jvm.RoadKit Jvm.OwnW Bundle Jvm.Pilot.@@N@@.Jvm.D
theorem own_cat {v : Value} (h : v.isRef = true) : v.category = 1 := by rcases ref_cases h with rfl | ⟨a, rfl⟩ <;> rfl
theorem own_ite {q : Prop} [Decidable q] {a b : Value} (ha : a.isRef = true) (hb : b.isRef = true) : (if q then a else b).isRef = true := by split <;> assumption
theorem own_fld {args : Array Value} {s : State} {t : Term} {C n d : String} {k : Int32} {a : Addr} (h : (Cond.eq (.field t C n d) (.int k)).value args s none s [] = some true) (ev : t.eval args s none [] s = some (.ref a)) : Fld s s.heap a C n d (.int k) := by
  obtain ⟨x, y, e1, e2, -, -⟩ := cmp_v (Or.inl h)
  have e3 : y = .int k := (Option.some.inj (e2.symm.trans (Term.int_eval k)))
  subst e3
  have e4 : s.fieldOf? a C n d = some x := by simpa [Term.eval, ev] using e1
  cases x <;> simp [Cond.value, e1, e2] at h
  subst h
  exact Fld.start e4
theorem own_len {args : Array Value} {s : State} {t : Term} {k : Int32} {a : Addr} {cl : Cell} (h : (Cond.eq (.length t) (.int k)).value args s none s [] = some true) (ev : t.eval args s none [] s = some (.ref a)) (hc : s.arrayAt? a = some cl) : cl.slots.size < 2 ^ 31 ∧ cl.slots.size.toInt32 = k := by
  obtain ⟨x, y, e1, e2, -, -⟩ := cmp_v (Or.inl h)
  have e3 : y = .int k := Option.some.inj (e2.symm.trans (Term.int_eval k))
  subst e3
  by_cases hl : cl.slots.size < 2 ^ 31
  · have e4 := len_f (args := args) (first := s) (o := none) (idx := []) ev hc hl
    refine ⟨hl, ?_⟩
    have e5 : x = .int cl.slots.size.toInt32 := Option.some.inj (e1.symm.trans e4)
    subst e5
    simpa [Cond.value, e1, e2] using h
  · exfalso
    simp [Term.eval, ev, hc, hl] at e1
theorem own_elem {args : Array Value} {s : State} {t u : Term} {j : Int32} {a b : Addr} {cl : Cell} (h : (Cond.eq (.elem t (.int j)) u).value args s none s [] = some true) (ev : t.eval args s none [] s = some (.ref a)) (evu : u.eval args s none [] s = some (.ref b)) (hc : s.heap[a]? = some cl) : cl.slots[j.toNatClampNeg]? = some (.ref b) := by
  obtain ⟨x, y, e1, e2, -, -⟩ := cmp_v (Or.inl h)
  cases e2.symm.trans evu
  obtain ⟨-, q⟩ := elem_in e1 ev (Term.int_eval j) hc
  rw [q]
  cases x <;> simp [Cond.value, e1, e2] at h ⊢
  exact h

def own_of (q : Int32) (w_OK w_MOVED_PERMANENTLY w_FOUND w_NOT_MODIFIED w_BAD_REQUEST w_UNAUTHORIZED w_PAYMENT_REQUIRED w_FORBIDDEN w_NOT_FOUND w_REQUEST_TIMEOUT w_REQUEST_ENTITY_TOO_LARGE w_TOO_MANY_REQUESTS w_INTERNAL_SERVER_ERROR w_NOT_IMPLEMENTED w_BAD_GATEWAY w_SERVICE_UNAVAILABLE w_GATEWAY_TIMEOUT w_VERSION_NOT_SUPPORTED : Addr) : Value := if q = 0 then .ref w_OK else if q = 16 then .ref w_MOVED_PERMANENTLY else if q = 17 then .ref w_FOUND else if q = 18 then .ref w_NOT_MODIFIED else if q = 32 then .ref w_BAD_REQUEST else if q = 33 then .ref w_UNAUTHORIZED else if q = 34 then .ref w_PAYMENT_REQUIRED else if q = 35 then .ref w_FORBIDDEN else if q = 36 then .ref w_NOT_FOUND else if q = 37 then .ref w_REQUEST_TIMEOUT else if q = 38 then .ref w_REQUEST_ENTITY_TOO_LARGE else if q = 39 then .ref w_TOO_MANY_REQUESTS else if q = 48 then .ref w_INTERNAL_SERVER_ERROR else if q = 49 then .ref w_NOT_IMPLEMENTED else if q = 50 then .ref w_BAD_GATEWAY else if q = 51 then .ref w_SERVICE_UNAVAILABLE else if q = 52 then .ref w_GATEWAY_TIMEOUT else if q = 53 then .ref w_VERSION_NOT_SUPPORTED else .null
theorem own_of_ref (q : Int32) (w_OK w_MOVED_PERMANENTLY w_FOUND w_NOT_MODIFIED w_BAD_REQUEST w_UNAUTHORIZED w_PAYMENT_REQUIRED w_FORBIDDEN w_NOT_FOUND w_REQUEST_TIMEOUT w_REQUEST_ENTITY_TOO_LARGE w_TOO_MANY_REQUESTS w_INTERNAL_SERVER_ERROR w_NOT_IMPLEMENTED w_BAD_GATEWAY w_SERVICE_UNAVAILABLE w_GATEWAY_TIMEOUT w_VERSION_NOT_SUPPORTED : Addr) : (own_of q w_OK w_MOVED_PERMANENTLY w_FOUND w_NOT_MODIFIED w_BAD_REQUEST w_UNAUTHORIZED w_PAYMENT_REQUIRED w_FORBIDDEN w_NOT_FOUND w_REQUEST_TIMEOUT w_REQUEST_ENTITY_TOO_LARGE w_TOO_MANY_REQUESTS w_INTERNAL_SERVER_ERROR w_NOT_IMPLEMENTED w_BAD_GATEWAY w_SERVICE_UNAVAILABLE w_GATEWAY_TIMEOUT w_VERSION_NOT_SUPPORTED).isRef = true := by
  unfold own_of
  exact own_ite rfl (own_ite rfl (own_ite rfl (own_ite rfl (own_ite rfl (own_ite rfl (own_ite rfl (own_ite rfl (own_ite rfl (own_ite rfl (own_ite rfl (own_ite rfl (own_ite rfl (own_ite rfl (own_ite rfl (own_ite rfl (own_ite rfl (own_ite rfl (rfl))))))))))))))))))
theorem d1_0 : decode prog_24_method_6_code 0 = .ok (.getstatic 85, 3) := by decide +kernel
theorem d1_3 : decode prog_24_method_6_code 3 = .ok (.astore_n 1, 1) := by decide +kernel
theorem d1_4 : decode prog_24_method_6_code 4 = .ok (.aload_n 1, 1) := by decide +kernel
theorem d1_5 : decode prog_24_method_6_code 5 = .ok (.arraylength, 1) := by decide +kernel
theorem d1_6 : decode prog_24_method_6_code 6 = .ok (.istore_n 2, 1) := by decide +kernel
theorem d1_7 : decode prog_24_method_6_code 7 = .ok (.iconst 0, 1) := by decide +kernel
theorem d1_8 : decode prog_24_method_6_code 8 = .ok (.istore_n 3, 1) := by decide +kernel
theorem d1_9 : decode prog_24_method_6_code 9 = .ok (.iload_n 3, 1) := by decide +kernel
theorem d1_10 : decode prog_24_method_6_code 10 = .ok (.iload_n 2, 1) := by decide +kernel
theorem d1_11 : decode prog_24_method_6_code 11 = .ok (.if_icmp .ge 26, 3) := by decide +kernel
theorem d1_14 : decode prog_24_method_6_code 14 = .ok (.aload_n 1, 1) := by decide +kernel
theorem d1_15 : decode prog_24_method_6_code 15 = .ok (.iload_n 3, 1) := by decide +kernel
theorem d1_16 : decode prog_24_method_6_code 16 = .ok (.aaload, 1) := by decide +kernel
theorem d1_17 : decode prog_24_method_6_code 17 = .ok (.astore 4, 2) := by decide +kernel
theorem d1_19 : decode prog_24_method_6_code 19 = .ok (.aload 4, 2) := by decide +kernel
theorem d1_21 : decode prog_24_method_6_code 21 = .ok (.getfield 77, 3) := by decide +kernel
theorem d1_24 : decode prog_24_method_6_code 24 = .ok (.iload_n 0, 1) := by decide +kernel
theorem d1_25 : decode prog_24_method_6_code 25 = .ok (.if_icmp .ne 6, 3) := by decide +kernel
theorem d1_28 : decode prog_24_method_6_code 28 = .ok (.aload 4, 2) := by decide +kernel
theorem d1_30 : decode prog_24_method_6_code 30 = .ok (.areturn, 1) := by decide +kernel
theorem d1_31 : decode prog_24_method_6_code 31 = .ok (.iinc 3 1, 3) := by decide +kernel
theorem d1_34 : decode prog_24_method_6_code 34 = .ok (.goto (-25), 3) := by decide +kernel
theorem d1_37 : decode prog_24_method_6_code 37 = .ok (.aconst_null, 1) := by decide +kernel
theorem d1_38 : decode prog_24_method_6_code 38 = .ok (.areturn, 1) := by decide +kernel
theorem pn_Status : plainName "com/example/packframe/packframe/onebyte/Status" = true := by first | (simp [plainName, overriddenIn]; done) | decide +kernel
theorem ef_1 (m : MethodId) (x0 : Int32) : entryFrame m #[(.int x0)] 5 = mkF m 0 #[.val (.int x0), .unset, .unset, .unset, .unset] [] := by first | (simp [entryFrame, mkF, argsToLocals, Value.category]; done) | rfl
def Q1 (Z : State) (qv : Int32) (w_OK w_MOVED_PERMANENTLY w_FOUND w_NOT_MODIFIED w_BAD_REQUEST w_UNAUTHORIZED w_PAYMENT_REQUIRED w_FORBIDDEN w_NOT_FOUND w_REQUEST_TIMEOUT w_REQUEST_ENTITY_TOO_LARGE w_TOO_MANY_REQUESTS w_INTERNAL_SERVER_ERROR w_NOT_IMPLEMENTED w_BAD_GATEWAY w_SERVICE_UNAVAILABLE w_GATEWAY_TIMEOUT w_VERSION_NOT_SUPPORTED w_STATUSES : Addr) (h0 : Heap) (n0 : Nat) (v : Option Value) (h : Heap) (L : List Loc) : Prop := v = some (own_of qv w_OK w_MOVED_PERMANENTLY w_FOUND w_NOT_MODIFIED w_BAD_REQUEST w_UNAUTHORIZED w_PAYMENT_REQUIRED w_FORBIDDEN w_NOT_FOUND w_REQUEST_TIMEOUT w_REQUEST_ENTITY_TOO_LARGE w_TOO_MANY_REQUESTS w_INTERNAL_SERVER_ERROR w_NOT_IMPLEMENTED w_BAD_GATEWAY w_SERVICE_UNAVAILABLE w_GATEWAY_TIMEOUT w_VERSION_NOT_SUPPORTED) ∧ Fr n0 L ∧ h = h0
set_option maxRecDepth 65536 in
set_option maxHeartbeats 40000000 in
theorem rm1 (l : Launch) (Z : State) (a0 : Array Value) (hw : ∀ d ∈ tables_1, d.before a0 Z = true) (ws : List Jvm.Cond) (qv : Int32) (w_OK w_MOVED_PERMANENTLY w_FOUND w_NOT_MODIFIED w_BAD_REQUEST w_UNAUTHORIZED w_PAYMENT_REQUIRED w_FORBIDDEN w_NOT_FOUND w_REQUEST_TIMEOUT w_REQUEST_ENTITY_TOO_LARGE w_TOO_MANY_REQUESTS w_INTERNAL_SERVER_ERROR w_NOT_IMPLEMENTED w_BAD_GATEWAY w_SERVICE_UNAVAILABLE w_GATEWAY_TIMEOUT w_VERSION_NOT_SUPPORTED w_STATUSES : Addr) (h0 : Heap) (n0 : Nat) (Z0 : n0 ≤ h0.size) (S_OK : Sta Z h0 "com/example/packframe/packframe/onebyte/Status" "OK" "Lcom/example/packframe/packframe/onebyte/Status;" (.ref w_OK)) (E_OK : Exa Z h0 w_OK "com/example/packframe/packframe/onebyte/Status") (F_code_OK : Fld Z h0 w_OK "com/example/packframe/packframe/onebyte/Status" "code" "I" (.int (0 : Int32))) (S_MOVED_PERMANENTLY : Sta Z h0 "com/example/packframe/packframe/onebyte/Status" "MOVED_PERMANENTLY" "Lcom/example/packframe/packframe/onebyte/Status;" (.ref w_MOVED_PERMANENTLY)) (E_MOVED_PERMANENTLY : Exa Z h0 w_MOVED_PERMANENTLY "com/example/packframe/packframe/onebyte/Status") (F_code_MOVED_PERMANENTLY : Fld Z h0 w_MOVED_PERMANENTLY "com/example/packframe/packframe/onebyte/Status" "code" "I" (.int (16 : Int32))) (S_FOUND : Sta Z h0 "com/example/packframe/packframe/onebyte/Status" "FOUND" "Lcom/example/packframe/packframe/onebyte/Status;" (.ref w_FOUND)) (E_FOUND : Exa Z h0 w_FOUND "com/example/packframe/packframe/onebyte/Status") (F_code_FOUND : Fld Z h0 w_FOUND "com/example/packframe/packframe/onebyte/Status" "code" "I" (.int (17 : Int32))) (S_NOT_MODIFIED : Sta Z h0 "com/example/packframe/packframe/onebyte/Status" "NOT_MODIFIED" "Lcom/example/packframe/packframe/onebyte/Status;" (.ref w_NOT_MODIFIED)) (E_NOT_MODIFIED : Exa Z h0 w_NOT_MODIFIED "com/example/packframe/packframe/onebyte/Status") (F_code_NOT_MODIFIED : Fld Z h0 w_NOT_MODIFIED "com/example/packframe/packframe/onebyte/Status" "code" "I" (.int (18 : Int32))) (S_BAD_REQUEST : Sta Z h0 "com/example/packframe/packframe/onebyte/Status" "BAD_REQUEST" "Lcom/example/packframe/packframe/onebyte/Status;" (.ref w_BAD_REQUEST)) (E_BAD_REQUEST : Exa Z h0 w_BAD_REQUEST "com/example/packframe/packframe/onebyte/Status") (F_code_BAD_REQUEST : Fld Z h0 w_BAD_REQUEST "com/example/packframe/packframe/onebyte/Status" "code" "I" (.int (32 : Int32))) (S_UNAUTHORIZED : Sta Z h0 "com/example/packframe/packframe/onebyte/Status" "UNAUTHORIZED" "Lcom/example/packframe/packframe/onebyte/Status;" (.ref w_UNAUTHORIZED)) (E_UNAUTHORIZED : Exa Z h0 w_UNAUTHORIZED "com/example/packframe/packframe/onebyte/Status") (F_code_UNAUTHORIZED : Fld Z h0 w_UNAUTHORIZED "com/example/packframe/packframe/onebyte/Status" "code" "I" (.int (33 : Int32))) (S_PAYMENT_REQUIRED : Sta Z h0 "com/example/packframe/packframe/onebyte/Status" "PAYMENT_REQUIRED" "Lcom/example/packframe/packframe/onebyte/Status;" (.ref w_PAYMENT_REQUIRED)) (E_PAYMENT_REQUIRED : Exa Z h0 w_PAYMENT_REQUIRED "com/example/packframe/packframe/onebyte/Status") (F_code_PAYMENT_REQUIRED : Fld Z h0 w_PAYMENT_REQUIRED "com/example/packframe/packframe/onebyte/Status" "code" "I" (.int (34 : Int32))) (S_FORBIDDEN : Sta Z h0 "com/example/packframe/packframe/onebyte/Status" "FORBIDDEN" "Lcom/example/packframe/packframe/onebyte/Status;" (.ref w_FORBIDDEN)) (E_FORBIDDEN : Exa Z h0 w_FORBIDDEN "com/example/packframe/packframe/onebyte/Status") (F_code_FORBIDDEN : Fld Z h0 w_FORBIDDEN "com/example/packframe/packframe/onebyte/Status" "code" "I" (.int (35 : Int32))) (S_NOT_FOUND : Sta Z h0 "com/example/packframe/packframe/onebyte/Status" "NOT_FOUND" "Lcom/example/packframe/packframe/onebyte/Status;" (.ref w_NOT_FOUND)) (E_NOT_FOUND : Exa Z h0 w_NOT_FOUND "com/example/packframe/packframe/onebyte/Status") (F_code_NOT_FOUND : Fld Z h0 w_NOT_FOUND "com/example/packframe/packframe/onebyte/Status" "code" "I" (.int (36 : Int32))) (S_REQUEST_TIMEOUT : Sta Z h0 "com/example/packframe/packframe/onebyte/Status" "REQUEST_TIMEOUT" "Lcom/example/packframe/packframe/onebyte/Status;" (.ref w_REQUEST_TIMEOUT)) (E_REQUEST_TIMEOUT : Exa Z h0 w_REQUEST_TIMEOUT "com/example/packframe/packframe/onebyte/Status") (F_code_REQUEST_TIMEOUT : Fld Z h0 w_REQUEST_TIMEOUT "com/example/packframe/packframe/onebyte/Status" "code" "I" (.int (37 : Int32))) (S_REQUEST_ENTITY_TOO_LARGE : Sta Z h0 "com/example/packframe/packframe/onebyte/Status" "REQUEST_ENTITY_TOO_LARGE" "Lcom/example/packframe/packframe/onebyte/Status;" (.ref w_REQUEST_ENTITY_TOO_LARGE)) (E_REQUEST_ENTITY_TOO_LARGE : Exa Z h0 w_REQUEST_ENTITY_TOO_LARGE "com/example/packframe/packframe/onebyte/Status") (F_code_REQUEST_ENTITY_TOO_LARGE : Fld Z h0 w_REQUEST_ENTITY_TOO_LARGE "com/example/packframe/packframe/onebyte/Status" "code" "I" (.int (38 : Int32))) (S_TOO_MANY_REQUESTS : Sta Z h0 "com/example/packframe/packframe/onebyte/Status" "TOO_MANY_REQUESTS" "Lcom/example/packframe/packframe/onebyte/Status;" (.ref w_TOO_MANY_REQUESTS)) (E_TOO_MANY_REQUESTS : Exa Z h0 w_TOO_MANY_REQUESTS "com/example/packframe/packframe/onebyte/Status") (F_code_TOO_MANY_REQUESTS : Fld Z h0 w_TOO_MANY_REQUESTS "com/example/packframe/packframe/onebyte/Status" "code" "I" (.int (39 : Int32))) (S_INTERNAL_SERVER_ERROR : Sta Z h0 "com/example/packframe/packframe/onebyte/Status" "INTERNAL_SERVER_ERROR" "Lcom/example/packframe/packframe/onebyte/Status;" (.ref w_INTERNAL_SERVER_ERROR)) (E_INTERNAL_SERVER_ERROR : Exa Z h0 w_INTERNAL_SERVER_ERROR "com/example/packframe/packframe/onebyte/Status") (F_code_INTERNAL_SERVER_ERROR : Fld Z h0 w_INTERNAL_SERVER_ERROR "com/example/packframe/packframe/onebyte/Status" "code" "I" (.int (48 : Int32))) (S_NOT_IMPLEMENTED : Sta Z h0 "com/example/packframe/packframe/onebyte/Status" "NOT_IMPLEMENTED" "Lcom/example/packframe/packframe/onebyte/Status;" (.ref w_NOT_IMPLEMENTED)) (E_NOT_IMPLEMENTED : Exa Z h0 w_NOT_IMPLEMENTED "com/example/packframe/packframe/onebyte/Status") (F_code_NOT_IMPLEMENTED : Fld Z h0 w_NOT_IMPLEMENTED "com/example/packframe/packframe/onebyte/Status" "code" "I" (.int (49 : Int32))) (S_BAD_GATEWAY : Sta Z h0 "com/example/packframe/packframe/onebyte/Status" "BAD_GATEWAY" "Lcom/example/packframe/packframe/onebyte/Status;" (.ref w_BAD_GATEWAY)) (E_BAD_GATEWAY : Exa Z h0 w_BAD_GATEWAY "com/example/packframe/packframe/onebyte/Status") (F_code_BAD_GATEWAY : Fld Z h0 w_BAD_GATEWAY "com/example/packframe/packframe/onebyte/Status" "code" "I" (.int (50 : Int32))) (S_SERVICE_UNAVAILABLE : Sta Z h0 "com/example/packframe/packframe/onebyte/Status" "SERVICE_UNAVAILABLE" "Lcom/example/packframe/packframe/onebyte/Status;" (.ref w_SERVICE_UNAVAILABLE)) (E_SERVICE_UNAVAILABLE : Exa Z h0 w_SERVICE_UNAVAILABLE "com/example/packframe/packframe/onebyte/Status") (F_code_SERVICE_UNAVAILABLE : Fld Z h0 w_SERVICE_UNAVAILABLE "com/example/packframe/packframe/onebyte/Status" "code" "I" (.int (51 : Int32))) (S_GATEWAY_TIMEOUT : Sta Z h0 "com/example/packframe/packframe/onebyte/Status" "GATEWAY_TIMEOUT" "Lcom/example/packframe/packframe/onebyte/Status;" (.ref w_GATEWAY_TIMEOUT)) (E_GATEWAY_TIMEOUT : Exa Z h0 w_GATEWAY_TIMEOUT "com/example/packframe/packframe/onebyte/Status") (F_code_GATEWAY_TIMEOUT : Fld Z h0 w_GATEWAY_TIMEOUT "com/example/packframe/packframe/onebyte/Status" "code" "I" (.int (52 : Int32))) (S_VERSION_NOT_SUPPORTED : Sta Z h0 "com/example/packframe/packframe/onebyte/Status" "VERSION_NOT_SUPPORTED" "Lcom/example/packframe/packframe/onebyte/Status;" (.ref w_VERSION_NOT_SUPPORTED)) (E_VERSION_NOT_SUPPORTED : Exa Z h0 w_VERSION_NOT_SUPPORTED "com/example/packframe/packframe/onebyte/Status") (F_code_VERSION_NOT_SUPPORTED : Fld Z h0 w_VERSION_NOT_SUPPORTED "com/example/packframe/packframe/onebyte/Status" "code" "I" (.int (53 : Int32))) (S_STATUSES : Sta Z h0 "com/example/packframe/packframe/onebyte/Status" "STATUSES" "[Lcom/example/packframe/packframe/onebyte/Status;" (.ref w_STATUSES)) (V_STATUSES : ∃ k, Arv Z h0 w_STATUSES k (.object "com/example/packframe/packframe/onebyte/Status") (18 : Int32) [(.ref w_OK), (.ref w_MOVED_PERMANENTLY), (.ref w_FOUND), (.ref w_NOT_MODIFIED), (.ref w_BAD_REQUEST), (.ref w_UNAUTHORIZED), (.ref w_PAYMENT_REQUIRED), (.ref w_FORBIDDEN), (.ref w_NOT_FOUND), (.ref w_REQUEST_TIMEOUT), (.ref w_REQUEST_ENTITY_TOO_LARGE), (.ref w_TOO_MANY_REQUESTS), (.ref w_INTERNAL_SERVER_ERROR), (.ref w_NOT_IMPLEMENTED), (.ref w_BAD_GATEWAY), (.ref w_SERVICE_UNAVAILABLE), (.ref w_GATEWAY_TIMEOUT), (.ref w_VERSION_NOT_SUPPORTED)] .null) :
    MetFree l (⟨"com/example/packframe/packframe/onebyte/Status", "ofCode", "(I)Lcom/example/packframe/packframe/onebyte/Status;"⟩ : MethodName) (head1 (Jvm.Cond.code (⟨"com/example/packframe/packframe/onebyte/Status", "ofCode", "(I)Lcom/example/packframe/packframe/onebyte/Status;"⟩ : MethodName) prog_24_method_6_code 5 (some (.object "com/example/packframe/packframe/onebyte/Status")) :: ws) ({ frames := 0, cells := 0, slots := 0, locals := 0 } : Room)) (fun a U => a = #[(.int qv)] ∧ Z.Warmed39 U.vm ∧ U.heap = h0) (fun _ _ _ _ _ => True) (fun _ U o U' => ∃ v L, o = .returned v ∧ Q1 Z qv w_OK w_MOVED_PERMANENTLY w_FOUND w_NOT_MODIFIED w_BAD_REQUEST w_UNAUTHORIZED w_PAYMENT_REQUIRED w_FORBIDDEN w_NOT_FOUND w_REQUEST_TIMEOUT w_REQUEST_ENTITY_TOO_LARGE w_TOO_MANY_REQUESTS w_INTERNAL_SERVER_ERROR w_NOT_IMPLEMENTED w_BAD_GATEWAY w_SERVICE_UNAVAILABLE w_GATEWAY_TIMEOUT w_VERSION_NOT_SUPPORTED w_STATUSES h0 n0 v U'.heap L ∧ FrameEnd U o U' L ({ frames := 0, cells := 0, slots := 0, locals := 0 } : Room).cells ({ frames := 0, cells := 0, slots := 0, locals := 0 } : Room).slots) := by
  refine MetFree.of_bodySF (plainFor_of_name pn_Status) hisR ?_
  intro p e s m args below meth c s₁ Bd hml0 hP hK
  obtain ⟨rfl, hZ, hh⟩ := hP
  have hx := Bd.exec
  have hby := Bd.bytes
  have hml : c.maxLocals = 5 := hml0
  have hown : s.vm.findClass "com/example/packframe/packframe/onebyte/Status" = some m.cls := findClass_of_methodNamed Bd.named
  have hnm := (name_of_methodNamed Bd.named Bd.method).1
  have hlk : meth.locks = false := BodyLoose.notSynchronized Bd
  have X0 : Stand p l e ({ frames := 0, cells := 0, slots := 0, locals := 0 } : Room) s m #[(.int qv)] below meth c s₁ [] 0 0 := Stand.of_body Bd
  have e0 : s₁.heap = h0 := by rw [← hh, Bd.state]; rfl
  have N0 := Fr.nil n0
  refine ogo (U' := s₁.setTop (mkF m 0 #[.val (.int qv), .unset, .unset, .unset, .unset] [])) (Q := Q1 Z qv w_OK w_MOVED_PERMANENTLY w_FOUND w_NOT_MODIFIED w_BAD_REQUEST w_UNAUTHORIZED w_PAYMENT_REQUIRED w_FORBIDDEN w_NOT_FOUND w_REQUEST_TIMEOUT w_REQUEST_ENTITY_TOO_LARGE w_TOO_MANY_REQUESTS w_INTERNAL_SERVER_ERROR w_NOT_IMPLEMENTED w_BAD_GATEWAY w_SERVICE_UNAVAILABLE w_GATEWAY_TIMEOUT w_VERSION_NOT_SUPPORTED w_STATUSES h0 n0) (K := ({ frames := 0, cells := 0, slots := 0, locals := 0 } : Room).cells) (N := ({ frames := 0, cells := 0, slots := 0, locals := 0 } : Room).slots) (fun t k => castTop (ef_1 m qv) k) ?_
  show OwnEnds _ _ _ _ _ _ _ (s₁.setTop (mkF m 0 #[.val (.int qv), .unset, .unset, .unset, .unset] []))
  obtain ⟨T1, X1, e1, st1⟩ := getS2 X0 hx hZ hown (host := "") (Or.inl (hw _ (List.mem_of_getElem? (i := 4) rfl))) Via.refl e0 S_STATUSES (g := (mkF m 0 #[.val (.int qv), .unset, .unset, .unset, .unset] [])) rfl (hb hby d1_0)
  refine ogo st1 ?_
  show OwnEnds _ _ _ _ _ _ _ (T1.setTop (mkF m 3 #[.val (.int qv), .unset, .unset, .unset, .unset] [(.ref w_STATUSES)]))
  refine ogo (fun t k => XS.astoreN X1.here hx rfl (hb hby d1_3) rfl rfl (l' := #[.val (.int qv), .val (.ref w_STATUSES), .unset, .unset, .unset]) rfl k) ?_
  show OwnEnds _ _ _ _ _ _ _ (T1.setTop (mkF m 4 #[.val (.int qv), .val (.ref w_STATUSES), .unset, .unset, .unset] []))
  refine ogo (fun t k => XS.aloadN X1.here hx rfl (hb hby d1_4) rfl rfl k) ?_
  show OwnEnds _ _ _ _ _ _ _ (T1.setTop (mkF m 5 #[.val (.int qv), .val (.ref w_STATUSES), .unset, .unset, .unset] [(.ref w_STATUSES)]))
  obtain ⟨ak2, cl2, Ar2, Aq2, As2, An2, Ah2, Ag2⟩ := id V_STATUSES
  refine ogo (fun t k => X1.arraylength hx (by rw [e1]; exact Ar2.1) (State.isArrayOf_alike hZ.alike Ar2.2.1) (g := (mkF m 5 #[.val (.int qv), .val (.ref w_STATUSES), .unset, .unset, .unset] [(.ref w_STATUSES)])) rfl rfl (hb hby d1_5) t k) ?_
  rw [len_of As2 An2]
  show OwnEnds _ _ _ _ _ _ _ (T1.setTop (mkF m 6 #[.val (.int qv), .val (.ref w_STATUSES), .unset, .unset, .unset] [(.int (18 : Int32))]))
  refine ogo (fun t k => XS.istoreN X1.here hx rfl (hb hby d1_6) rfl (l' := #[.val (.int qv), .val (.ref w_STATUSES), .val (.int (18 : Int32)), .unset, .unset]) rfl k) ?_
  show OwnEnds _ _ _ _ _ _ _ (T1.setTop (mkF m 7 #[.val (.int qv), .val (.ref w_STATUSES), .val (.int (18 : Int32)), .unset, .unset] []))
  refine ogo (fun t k => XS.iconst X1.here hx rfl (hb hby d1_7) k) ?_
  show OwnEnds _ _ _ _ _ _ _ (T1.setTop (mkF m 8 #[.val (.int qv), .val (.ref w_STATUSES), .val (.int (18 : Int32)), .unset, .unset] [(.int (0 : Int32))]))
  refine ogo (fun t k => XS.istoreN X1.here hx rfl (hb hby d1_8) rfl (l' := #[.val (.int qv), .val (.ref w_STATUSES), .val (.int (18 : Int32)), .val (.int (0 : Int32)), .unset]) rfl k) ?_
  show OwnEnds _ _ _ _ _ _ _ (T1.setTop (mkF m 9 #[.val (.int qv), .val (.ref w_STATUSES), .val (.int (18 : Int32)), .val (.int (0 : Int32)), .unset] []))
  refine ogo (fun t k => XS.iloadN X1.here hx rfl (hb hby d1_9) rfl k) ?_
  show OwnEnds _ _ _ _ _ _ _ (T1.setTop (mkF m 10 #[.val (.int qv), .val (.ref w_STATUSES), .val (.int (18 : Int32)), .val (.int (0 : Int32)), .unset] [(.int (0 : Int32))]))
  refine ogo (fun t k => XS.iloadN X1.here hx rfl (hb hby d1_10) rfl k) ?_
  show OwnEnds _ _ _ _ _ _ _ (T1.setTop (mkF m 11 #[.val (.int qv), .val (.ref w_STATUSES), .val (.int (18 : Int32)), .val (.int (0 : Int32)), .unset] [(.int (18 : Int32)), (.int (0 : Int32))]))
  refine ogo (fun t k => XS.icmpNo X1.here hx rfl (hb hby d1_11) rfl (tlt (by decide : (0 : Int32) < (18 : Int32))).2.1 k) ?_
  show OwnEnds _ _ _ _ _ _ _ (T1.setTop (mkF m 14 #[.val (.int qv), .val (.ref w_STATUSES), .val (.int (18 : Int32)), .val (.int (0 : Int32)), .unset] []))
  refine ogo (fun t k => XS.aloadN X1.here hx rfl (hb hby d1_14) rfl rfl k) ?_
  show OwnEnds _ _ _ _ _ _ _ (T1.setTop (mkF m 15 #[.val (.int qv), .val (.ref w_STATUSES), .val (.int (18 : Int32)), .val (.int (0 : Int32)), .unset] [(.ref w_STATUSES)]))
  refine ogo (fun t k => XS.iloadN X1.here hx rfl (hb hby d1_15) rfl k) ?_
  show OwnEnds _ _ _ _ _ _ _ (T1.setTop (mkF m 16 #[.val (.int qv), .val (.ref w_STATUSES), .val (.int (18 : Int32)), .val (.int (0 : Int32)), .unset] [(.int (0 : Int32)), (.ref w_STATUSES)]))
  obtain ⟨ak3, cl3, Ar3, Aq3, As3, An3, Ah3, Ag3⟩ := id V_STATUSES
  refine ogo (fun t k => X1.aaload hx (j := (0 : Int32)) (v := (.ref w_OK)) (by rw [e1]; exact Ar3.1) (State.isArrayOf_alike hZ.alike Ar3.2.1) rfl Ar3.2.2 (inb_of As3 ⟨by decide, by decide⟩) (Ah3.at (inb_of As3 ⟨by decide, by decide⟩) rfl) (g := (mkF m 16 #[.val (.int qv), .val (.ref w_STATUSES), .val (.int (18 : Int32)), .val (.int (0 : Int32)), .unset] [(.int (0 : Int32)), (.ref w_STATUSES)])) rfl rfl (hb hby d1_16) t k) ?_
  show OwnEnds _ _ _ _ _ _ _ (T1.setTop (mkF m 17 #[.val (.int qv), .val (.ref w_STATUSES), .val (.int (18 : Int32)), .val (.int (0 : Int32)), .unset] [(.ref w_OK)]))
  refine ogo (fun t k => XS.astore X1.here hx rfl (hb hby d1_17) rfl rfl (l' := #[.val (.int qv), .val (.ref w_STATUSES), .val (.int (18 : Int32)), .val (.int (0 : Int32)), .val (.ref w_OK)]) rfl k) ?_
  show OwnEnds _ _ _ _ _ _ _ (T1.setTop (mkF m 19 #[.val (.int qv), .val (.ref w_STATUSES), .val (.int (18 : Int32)), .val (.int (0 : Int32)), .val (.ref w_OK)] []))
  refine ogo (fun t k => XS.aload X1.here hx rfl (hb hby d1_19) rfl rfl k) ?_
  show OwnEnds _ _ _ _ _ _ _ (T1.setTop (mkF m 21 #[.val (.int qv), .val (.ref w_STATUSES), .val (.int (18 : Int32)), .val (.int (0 : Int32)), .val (.ref w_OK)] [(.ref w_OK)]))
  obtain ⟨T4, X4, e4, st4⟩ := getF X1 hx hZ hown (host := "") (Or.inl (hw _ (List.mem_of_getElem? (i := 7) rfl))) Via.refl e1 F_code_OK (g := (mkF m 21 #[.val (.int qv), .val (.ref w_STATUSES), .val (.int (18 : Int32)), .val (.int (0 : Int32)), .val (.ref w_OK)] [(.ref w_OK)])) rfl rfl (hb hby d1_21)
  refine ogo st4 ?_
  show OwnEnds _ _ _ _ _ _ _ (T4.setTop (mkF m 24 #[.val (.int qv), .val (.ref w_STATUSES), .val (.int (18 : Int32)), .val (.int (0 : Int32)), .val (.ref w_OK)] [(.int (0 : Int32))]))
  refine ogo (fun t k => XS.iloadN X4.here hx rfl (hb hby d1_24) rfl k) ?_
  show OwnEnds _ _ _ _ _ _ _ (T4.setTop (mkF m 25 #[.val (.int qv), .val (.ref w_STATUSES), .val (.int (18 : Int32)), .val (.int (0 : Int32)), .val (.ref w_OK)] [(.int qv), (.int (0 : Int32))]))
  by_cases hc5 : qv = (0 : Int32)
  · refine ogo (fun t k => XS.icmpNo X4.here hx rfl (hb hby d1_25) rfl (teq (Eq.symm hc5)).2 k) ?_
    show OwnEnds _ _ _ _ _ _ _ (T4.setTop (mkF m 28 #[.val (.int qv), .val (.ref w_STATUSES), .val (.int (18 : Int32)), .val (.int (0 : Int32)), .val (.ref w_OK)] []))
    refine ogo (fun t k => XS.aload X4.here hx rfl (hb hby d1_28) rfl rfl k) ?_
    show OwnEnds _ _ _ _ _ _ _ (T4.setTop (mkF m 30 #[.val (.int qv), .val (.ref w_STATUSES), .val (.int (18 : Int32)), .val (.int (0 : Int32)), .val (.ref w_OK)] [(.ref w_OK)]))
    refine endA X4 hx hlk Bd.returns rfl rfl (hb hby d1_30) (by decide) (by decide) ?_
    show Q1 Z qv w_OK w_MOVED_PERMANENTLY w_FOUND w_NOT_MODIFIED w_BAD_REQUEST w_UNAUTHORIZED w_PAYMENT_REQUIRED w_FORBIDDEN w_NOT_FOUND w_REQUEST_TIMEOUT w_REQUEST_ENTITY_TOO_LARGE w_TOO_MANY_REQUESTS w_INTERNAL_SERVER_ERROR w_NOT_IMPLEMENTED w_BAD_GATEWAY w_SERVICE_UNAVAILABLE w_GATEWAY_TIMEOUT w_VERSION_NOT_SUPPORTED w_STATUSES h0 n0 _ T4.heap _
    rw [e4]
    exact ⟨by simp [own_of, hc5], N0, rfl⟩
  · refine ogo (fun t k => XS.icmpYes X4.here hx rfl (pc0 := 25) (pc' := 31) rfl (hb hby d1_25) rfl (feq (fun q => hc5 (Eq.symm q))).2 (by decide) (by decide) k) ?_
    show OwnEnds _ _ _ _ _ _ _ (T4.setTop (mkF m 31 #[.val (.int qv), .val (.ref w_STATUSES), .val (.int (18 : Int32)), .val (.int (0 : Int32)), .val (.ref w_OK)] []))
    refine ogo (fun t k => XS.iinc X4.here hx rfl (hb hby d1_31) rfl (l' := #[.val (.int qv), .val (.ref w_STATUSES), .val (.int (18 : Int32)), .val (.int (1 : Int32)), .val (.ref w_OK)]) rfl k) ?_
    show OwnEnds _ _ _ _ _ _ _ (T4.setTop (mkF m 34 #[.val (.int qv), .val (.ref w_STATUSES), .val (.int (18 : Int32)), .val (.int (1 : Int32)), .val (.ref w_OK)] []))
    refine ogo (fun t k => XS.goto X4.here hx rfl (pc0 := 34) (pc' := 9) rfl (hb hby d1_34) (by decide) (by decide) k) ?_
    show OwnEnds _ _ _ _ _ _ _ (T4.setTop (mkF m 9 #[.val (.int qv), .val (.ref w_STATUSES), .val (.int (18 : Int32)), .val (.int (1 : Int32)), .val (.ref w_OK)] []))
    refine ogo (fun t k => XS.iloadN X4.here hx rfl (hb hby d1_9) rfl k) ?_
    show OwnEnds _ _ _ _ _ _ _ (T4.setTop (mkF m 10 #[.val (.int qv), .val (.ref w_STATUSES), .val (.int (18 : Int32)), .val (.int (1 : Int32)), .val (.ref w_OK)] [(.int (1 : Int32))]))
    refine ogo (fun t k => XS.iloadN X4.here hx rfl (hb hby d1_10) rfl k) ?_
    show OwnEnds _ _ _ _ _ _ _ (T4.setTop (mkF m 11 #[.val (.int qv), .val (.ref w_STATUSES), .val (.int (18 : Int32)), .val (.int (1 : Int32)), .val (.ref w_OK)] [(.int (18 : Int32)), (.int (1 : Int32))]))
    refine ogo (fun t k => XS.icmpNo X4.here hx rfl (hb hby d1_11) rfl (tlt (by decide : (1 : Int32) < (18 : Int32))).2.1 k) ?_
    show OwnEnds _ _ _ _ _ _ _ (T4.setTop (mkF m 14 #[.val (.int qv), .val (.ref w_STATUSES), .val (.int (18 : Int32)), .val (.int (1 : Int32)), .val (.ref w_OK)] []))
    refine ogo (fun t k => XS.aloadN X4.here hx rfl (hb hby d1_14) rfl rfl k) ?_
    show OwnEnds _ _ _ _ _ _ _ (T4.setTop (mkF m 15 #[.val (.int qv), .val (.ref w_STATUSES), .val (.int (18 : Int32)), .val (.int (1 : Int32)), .val (.ref w_OK)] [(.ref w_STATUSES)]))
    refine ogo (fun t k => XS.iloadN X4.here hx rfl (hb hby d1_15) rfl k) ?_
    show OwnEnds _ _ _ _ _ _ _ (T4.setTop (mkF m 16 #[.val (.int qv), .val (.ref w_STATUSES), .val (.int (18 : Int32)), .val (.int (1 : Int32)), .val (.ref w_OK)] [(.int (1 : Int32)), (.ref w_STATUSES)]))
    obtain ⟨ak6, cl6, Ar6, Aq6, As6, An6, Ah6, Ag6⟩ := id V_STATUSES
    refine ogo (fun t k => X4.aaload hx (j := (1 : Int32)) (v := (.ref w_MOVED_PERMANENTLY)) (by rw [e4]; exact Ar6.1) (State.isArrayOf_alike hZ.alike Ar6.2.1) rfl Ar6.2.2 (inb_of As6 ⟨by decide, by decide⟩) (Ah6.at (inb_of As6 ⟨by decide, by decide⟩) rfl) (g := (mkF m 16 #[.val (.int qv), .val (.ref w_STATUSES), .val (.int (18 : Int32)), .val (.int (1 : Int32)), .val (.ref w_OK)] [(.int (1 : Int32)), (.ref w_STATUSES)])) rfl rfl (hb hby d1_16) t k) ?_
    show OwnEnds _ _ _ _ _ _ _ (T4.setTop (mkF m 17 #[.val (.int qv), .val (.ref w_STATUSES), .val (.int (18 : Int32)), .val (.int (1 : Int32)), .val (.ref w_OK)] [(.ref w_MOVED_PERMANENTLY)]))
    refine ogo (fun t k => XS.astore X4.here hx rfl (hb hby d1_17) rfl rfl (l' := #[.val (.int qv), .val (.ref w_STATUSES), .val (.int (18 : Int32)), .val (.int (1 : Int32)), .val (.ref w_MOVED_PERMANENTLY)]) rfl k) ?_
    show OwnEnds _ _ _ _ _ _ _ (T4.setTop (mkF m 19 #[.val (.int qv), .val (.ref w_STATUSES), .val (.int (18 : Int32)), .val (.int (1 : Int32)), .val (.ref w_MOVED_PERMANENTLY)] []))
    refine ogo (fun t k => XS.aload X4.here hx rfl (hb hby d1_19) rfl rfl k) ?_
    show OwnEnds _ _ _ _ _ _ _ (T4.setTop (mkF m 21 #[.val (.int qv), .val (.ref w_STATUSES), .val (.int (18 : Int32)), .val (.int (1 : Int32)), .val (.ref w_MOVED_PERMANENTLY)] [(.ref w_MOVED_PERMANENTLY)]))
    obtain ⟨T7, X7, e7, st7⟩ := getF X4 hx hZ hown (host := "") (Or.inl (hw _ (List.mem_of_getElem? (i := 7) rfl))) Via.refl e4 F_code_MOVED_PERMANENTLY (g := (mkF m 21 #[.val (.int qv), .val (.ref w_STATUSES), .val (.int (18 : Int32)), .val (.int (1 : Int32)), .val (.ref w_MOVED_PERMANENTLY)] [(.ref w_MOVED_PERMANENTLY)])) rfl rfl (hb hby d1_21)
    refine ogo st7 ?_
    show OwnEnds _ _ _ _ _ _ _ (T7.setTop (mkF m 24 #[.val (.int qv), .val (.ref w_STATUSES), .val (.int (18 : Int32)), .val (.int (1 : Int32)), .val (.ref w_MOVED_PERMANENTLY)] [(.int (16 : Int32))]))
    refine ogo (fun t k => XS.iloadN X7.here hx rfl (hb hby d1_24) rfl k) ?_
    show OwnEnds _ _ _ _ _ _ _ (T7.setTop (mkF m 25 #[.val (.int qv), .val (.ref w_STATUSES), .val (.int (18 : Int32)), .val (.int (1 : Int32)), .val (.ref w_MOVED_PERMANENTLY)] [(.int qv), (.int (16 : Int32))]))
    by_cases hc8 : qv = (16 : Int32)
    · refine ogo (fun t k => XS.icmpNo X7.here hx rfl (hb hby d1_25) rfl (teq (Eq.symm hc8)).2 k) ?_
      show OwnEnds _ _ _ _ _ _ _ (T7.setTop (mkF m 28 #[.val (.int qv), .val (.ref w_STATUSES), .val (.int (18 : Int32)), .val (.int (1 : Int32)), .val (.ref w_MOVED_PERMANENTLY)] []))
      refine ogo (fun t k => XS.aload X7.here hx rfl (hb hby d1_28) rfl rfl k) ?_
      show OwnEnds _ _ _ _ _ _ _ (T7.setTop (mkF m 30 #[.val (.int qv), .val (.ref w_STATUSES), .val (.int (18 : Int32)), .val (.int (1 : Int32)), .val (.ref w_MOVED_PERMANENTLY)] [(.ref w_MOVED_PERMANENTLY)]))
      refine endA X7 hx hlk Bd.returns rfl rfl (hb hby d1_30) (by decide) (by decide) ?_
      show Q1 Z qv w_OK w_MOVED_PERMANENTLY w_FOUND w_NOT_MODIFIED w_BAD_REQUEST w_UNAUTHORIZED w_PAYMENT_REQUIRED w_FORBIDDEN w_NOT_FOUND w_REQUEST_TIMEOUT w_REQUEST_ENTITY_TOO_LARGE w_TOO_MANY_REQUESTS w_INTERNAL_SERVER_ERROR w_NOT_IMPLEMENTED w_BAD_GATEWAY w_SERVICE_UNAVAILABLE w_GATEWAY_TIMEOUT w_VERSION_NOT_SUPPORTED w_STATUSES h0 n0 _ T7.heap _
      rw [e7]
      exact ⟨by simp [own_of, hc5, hc8], N0, rfl⟩
    · refine ogo (fun t k => XS.icmpYes X7.here hx rfl (pc0 := 25) (pc' := 31) rfl (hb hby d1_25) rfl (feq (fun q => hc8 (Eq.symm q))).2 (by decide) (by decide) k) ?_
      show OwnEnds _ _ _ _ _ _ _ (T7.setTop (mkF m 31 #[.val (.int qv), .val (.ref w_STATUSES), .val (.int (18 : Int32)), .val (.int (1 : Int32)), .val (.ref w_MOVED_PERMANENTLY)] []))
      refine ogo (fun t k => XS.iinc X7.here hx rfl (hb hby d1_31) rfl (l' := #[.val (.int qv), .val (.ref w_STATUSES), .val (.int (18 : Int32)), .val (.int (2 : Int32)), .val (.ref w_MOVED_PERMANENTLY)]) rfl k) ?_
      show OwnEnds _ _ _ _ _ _ _ (T7.setTop (mkF m 34 #[.val (.int qv), .val (.ref w_STATUSES), .val (.int (18 : Int32)), .val (.int (2 : Int32)), .val (.ref w_MOVED_PERMANENTLY)] []))
      refine ogo (fun t k => XS.goto X7.here hx rfl (pc0 := 34) (pc' := 9) rfl (hb hby d1_34) (by decide) (by decide) k) ?_
      show OwnEnds _ _ _ _ _ _ _ (T7.setTop (mkF m 9 #[.val (.int qv), .val (.ref w_STATUSES), .val (.int (18 : Int32)), .val (.int (2 : Int32)), .val (.ref w_MOVED_PERMANENTLY)] []))
      refine ogo (fun t k => XS.iloadN X7.here hx rfl (hb hby d1_9) rfl k) ?_
      show OwnEnds _ _ _ _ _ _ _ (T7.setTop (mkF m 10 #[.val (.int qv), .val (.ref w_STATUSES), .val (.int (18 : Int32)), .val (.int (2 : Int32)), .val (.ref w_MOVED_PERMANENTLY)] [(.int (2 : Int32))]))
      refine ogo (fun t k => XS.iloadN X7.here hx rfl (hb hby d1_10) rfl k) ?_
      show OwnEnds _ _ _ _ _ _ _ (T7.setTop (mkF m 11 #[.val (.int qv), .val (.ref w_STATUSES), .val (.int (18 : Int32)), .val (.int (2 : Int32)), .val (.ref w_MOVED_PERMANENTLY)] [(.int (18 : Int32)), (.int (2 : Int32))]))
      refine ogo (fun t k => XS.icmpNo X7.here hx rfl (hb hby d1_11) rfl (tlt (by decide : (2 : Int32) < (18 : Int32))).2.1 k) ?_
      show OwnEnds _ _ _ _ _ _ _ (T7.setTop (mkF m 14 #[.val (.int qv), .val (.ref w_STATUSES), .val (.int (18 : Int32)), .val (.int (2 : Int32)), .val (.ref w_MOVED_PERMANENTLY)] []))
      refine ogo (fun t k => XS.aloadN X7.here hx rfl (hb hby d1_14) rfl rfl k) ?_
      show OwnEnds _ _ _ _ _ _ _ (T7.setTop (mkF m 15 #[.val (.int qv), .val (.ref w_STATUSES), .val (.int (18 : Int32)), .val (.int (2 : Int32)), .val (.ref w_MOVED_PERMANENTLY)] [(.ref w_STATUSES)]))
      refine ogo (fun t k => XS.iloadN X7.here hx rfl (hb hby d1_15) rfl k) ?_
      show OwnEnds _ _ _ _ _ _ _ (T7.setTop (mkF m 16 #[.val (.int qv), .val (.ref w_STATUSES), .val (.int (18 : Int32)), .val (.int (2 : Int32)), .val (.ref w_MOVED_PERMANENTLY)] [(.int (2 : Int32)), (.ref w_STATUSES)]))
      obtain ⟨ak9, cl9, Ar9, Aq9, As9, An9, Ah9, Ag9⟩ := id V_STATUSES
      refine ogo (fun t k => X7.aaload hx (j := (2 : Int32)) (v := (.ref w_FOUND)) (by rw [e7]; exact Ar9.1) (State.isArrayOf_alike hZ.alike Ar9.2.1) rfl Ar9.2.2 (inb_of As9 ⟨by decide, by decide⟩) (Ah9.at (inb_of As9 ⟨by decide, by decide⟩) rfl) (g := (mkF m 16 #[.val (.int qv), .val (.ref w_STATUSES), .val (.int (18 : Int32)), .val (.int (2 : Int32)), .val (.ref w_MOVED_PERMANENTLY)] [(.int (2 : Int32)), (.ref w_STATUSES)])) rfl rfl (hb hby d1_16) t k) ?_
      show OwnEnds _ _ _ _ _ _ _ (T7.setTop (mkF m 17 #[.val (.int qv), .val (.ref w_STATUSES), .val (.int (18 : Int32)), .val (.int (2 : Int32)), .val (.ref w_MOVED_PERMANENTLY)] [(.ref w_FOUND)]))
      refine ogo (fun t k => XS.astore X7.here hx rfl (hb hby d1_17) rfl rfl (l' := #[.val (.int qv), .val (.ref w_STATUSES), .val (.int (18 : Int32)), .val (.int (2 : Int32)), .val (.ref w_FOUND)]) rfl k) ?_
      show OwnEnds _ _ _ _ _ _ _ (T7.setTop (mkF m 19 #[.val (.int qv), .val (.ref w_STATUSES), .val (.int (18 : Int32)), .val (.int (2 : Int32)), .val (.ref w_FOUND)] []))
      refine ogo (fun t k => XS.aload X7.here hx rfl (hb hby d1_19) rfl rfl k) ?_
      show OwnEnds _ _ _ _ _ _ _ (T7.setTop (mkF m 21 #[.val (.int qv), .val (.ref w_STATUSES), .val (.int (18 : Int32)), .val (.int (2 : Int32)), .val (.ref w_FOUND)] [(.ref w_FOUND)]))
      obtain ⟨T10, X10, e10, st10⟩ := getF X7 hx hZ hown (host := "") (Or.inl (hw _ (List.mem_of_getElem? (i := 7) rfl))) Via.refl e7 F_code_FOUND (g := (mkF m 21 #[.val (.int qv), .val (.ref w_STATUSES), .val (.int (18 : Int32)), .val (.int (2 : Int32)), .val (.ref w_FOUND)] [(.ref w_FOUND)])) rfl rfl (hb hby d1_21)
      refine ogo st10 ?_
      show OwnEnds _ _ _ _ _ _ _ (T10.setTop (mkF m 24 #[.val (.int qv), .val (.ref w_STATUSES), .val (.int (18 : Int32)), .val (.int (2 : Int32)), .val (.ref w_FOUND)] [(.int (17 : Int32))]))
      refine ogo (fun t k => XS.iloadN X10.here hx rfl (hb hby d1_24) rfl k) ?_
      show OwnEnds _ _ _ _ _ _ _ (T10.setTop (mkF m 25 #[.val (.int qv), .val (.ref w_STATUSES), .val (.int (18 : Int32)), .val (.int (2 : Int32)), .val (.ref w_FOUND)] [(.int qv), (.int (17 : Int32))]))
      by_cases hc11 : qv = (17 : Int32)
      · refine ogo (fun t k => XS.icmpNo X10.here hx rfl (hb hby d1_25) rfl (teq (Eq.symm hc11)).2 k) ?_
        show OwnEnds _ _ _ _ _ _ _ (T10.setTop (mkF m 28 #[.val (.int qv), .val (.ref w_STATUSES), .val (.int (18 : Int32)), .val (.int (2 : Int32)), .val (.ref w_FOUND)] []))
        refine ogo (fun t k => XS.aload X10.here hx rfl (hb hby d1_28) rfl rfl k) ?_
        show OwnEnds _ _ _ _ _ _ _ (T10.setTop (mkF m 30 #[.val (.int qv), .val (.ref w_STATUSES), .val (.int (18 : Int32)), .val (.int (2 : Int32)), .val (.ref w_FOUND)] [(.ref w_FOUND)]))
        refine endA X10 hx hlk Bd.returns rfl rfl (hb hby d1_30) (by decide) (by decide) ?_
        show Q1 Z qv w_OK w_MOVED_PERMANENTLY w_FOUND w_NOT_MODIFIED w_BAD_REQUEST w_UNAUTHORIZED w_PAYMENT_REQUIRED w_FORBIDDEN w_NOT_FOUND w_REQUEST_TIMEOUT w_REQUEST_ENTITY_TOO_LARGE w_TOO_MANY_REQUESTS w_INTERNAL_SERVER_ERROR w_NOT_IMPLEMENTED w_BAD_GATEWAY w_SERVICE_UNAVAILABLE w_GATEWAY_TIMEOUT w_VERSION_NOT_SUPPORTED w_STATUSES h0 n0 _ T10.heap _
        rw [e10]
        exact ⟨by simp [own_of, hc5, hc8, hc11], N0, rfl⟩
      · refine ogo (fun t k => XS.icmpYes X10.here hx rfl (pc0 := 25) (pc' := 31) rfl (hb hby d1_25) rfl (feq (fun q => hc11 (Eq.symm q))).2 (by decide) (by decide) k) ?_
        show OwnEnds _ _ _ _ _ _ _ (T10.setTop (mkF m 31 #[.val (.int qv), .val (.ref w_STATUSES), .val (.int (18 : Int32)), .val (.int (2 : Int32)), .val (.ref w_FOUND)] []))
        refine ogo (fun t k => XS.iinc X10.here hx rfl (hb hby d1_31) rfl (l' := #[.val (.int qv), .val (.ref w_STATUSES), .val (.int (18 : Int32)), .val (.int (3 : Int32)), .val (.ref w_FOUND)]) rfl k) ?_
        show OwnEnds _ _ _ _ _ _ _ (T10.setTop (mkF m 34 #[.val (.int qv), .val (.ref w_STATUSES), .val (.int (18 : Int32)), .val (.int (3 : Int32)), .val (.ref w_FOUND)] []))
        refine ogo (fun t k => XS.goto X10.here hx rfl (pc0 := 34) (pc' := 9) rfl (hb hby d1_34) (by decide) (by decide) k) ?_
        show OwnEnds _ _ _ _ _ _ _ (T10.setTop (mkF m 9 #[.val (.int qv), .val (.ref w_STATUSES), .val (.int (18 : Int32)), .val (.int (3 : Int32)), .val (.ref w_FOUND)] []))
        refine ogo (fun t k => XS.iloadN X10.here hx rfl (hb hby d1_9) rfl k) ?_
        show OwnEnds _ _ _ _ _ _ _ (T10.setTop (mkF m 10 #[.val (.int qv), .val (.ref w_STATUSES), .val (.int (18 : Int32)), .val (.int (3 : Int32)), .val (.ref w_FOUND)] [(.int (3 : Int32))]))
        refine ogo (fun t k => XS.iloadN X10.here hx rfl (hb hby d1_10) rfl k) ?_
        show OwnEnds _ _ _ _ _ _ _ (T10.setTop (mkF m 11 #[.val (.int qv), .val (.ref w_STATUSES), .val (.int (18 : Int32)), .val (.int (3 : Int32)), .val (.ref w_FOUND)] [(.int (18 : Int32)), (.int (3 : Int32))]))
        refine ogo (fun t k => XS.icmpNo X10.here hx rfl (hb hby d1_11) rfl (tlt (by decide : (3 : Int32) < (18 : Int32))).2.1 k) ?_
        show OwnEnds _ _ _ _ _ _ _ (T10.setTop (mkF m 14 #[.val (.int qv), .val (.ref w_STATUSES), .val (.int (18 : Int32)), .val (.int (3 : Int32)), .val (.ref w_FOUND)] []))
        refine ogo (fun t k => XS.aloadN X10.here hx rfl (hb hby d1_14) rfl rfl k) ?_
        show OwnEnds _ _ _ _ _ _ _ (T10.setTop (mkF m 15 #[.val (.int qv), .val (.ref w_STATUSES), .val (.int (18 : Int32)), .val (.int (3 : Int32)), .val (.ref w_FOUND)] [(.ref w_STATUSES)]))
        refine ogo (fun t k => XS.iloadN X10.here hx rfl (hb hby d1_15) rfl k) ?_
        show OwnEnds _ _ _ _ _ _ _ (T10.setTop (mkF m 16 #[.val (.int qv), .val (.ref w_STATUSES), .val (.int (18 : Int32)), .val (.int (3 : Int32)), .val (.ref w_FOUND)] [(.int (3 : Int32)), (.ref w_STATUSES)]))
        obtain ⟨ak12, cl12, Ar12, Aq12, As12, An12, Ah12, Ag12⟩ := id V_STATUSES
        refine ogo (fun t k => X10.aaload hx (j := (3 : Int32)) (v := (.ref w_NOT_MODIFIED)) (by rw [e10]; exact Ar12.1) (State.isArrayOf_alike hZ.alike Ar12.2.1) rfl Ar12.2.2 (inb_of As12 ⟨by decide, by decide⟩) (Ah12.at (inb_of As12 ⟨by decide, by decide⟩) rfl) (g := (mkF m 16 #[.val (.int qv), .val (.ref w_STATUSES), .val (.int (18 : Int32)), .val (.int (3 : Int32)), .val (.ref w_FOUND)] [(.int (3 : Int32)), (.ref w_STATUSES)])) rfl rfl (hb hby d1_16) t k) ?_
        show OwnEnds _ _ _ _ _ _ _ (T10.setTop (mkF m 17 #[.val (.int qv), .val (.ref w_STATUSES), .val (.int (18 : Int32)), .val (.int (3 : Int32)), .val (.ref w_FOUND)] [(.ref w_NOT_MODIFIED)]))
        refine ogo (fun t k => XS.astore X10.here hx rfl (hb hby d1_17) rfl rfl (l' := #[.val (.int qv), .val (.ref w_STATUSES), .val (.int (18 : Int32)), .val (.int (3 : Int32)), .val (.ref w_NOT_MODIFIED)]) rfl k) ?_
        show OwnEnds _ _ _ _ _ _ _ (T10.setTop (mkF m 19 #[.val (.int qv), .val (.ref w_STATUSES), .val (.int (18 : Int32)), .val (.int (3 : Int32)), .val (.ref w_NOT_MODIFIED)] []))
        refine ogo (fun t k => XS.aload X10.here hx rfl (hb hby d1_19) rfl rfl k) ?_
        show OwnEnds _ _ _ _ _ _ _ (T10.setTop (mkF m 21 #[.val (.int qv), .val (.ref w_STATUSES), .val (.int (18 : Int32)), .val (.int (3 : Int32)), .val (.ref w_NOT_MODIFIED)] [(.ref w_NOT_MODIFIED)]))
        obtain ⟨T13, X13, e13, st13⟩ := getF X10 hx hZ hown (host := "") (Or.inl (hw _ (List.mem_of_getElem? (i := 7) rfl))) Via.refl e10 F_code_NOT_MODIFIED (g := (mkF m 21 #[.val (.int qv), .val (.ref w_STATUSES), .val (.int (18 : Int32)), .val (.int (3 : Int32)), .val (.ref w_NOT_MODIFIED)] [(.ref w_NOT_MODIFIED)])) rfl rfl (hb hby d1_21)
        refine ogo st13 ?_
        show OwnEnds _ _ _ _ _ _ _ (T13.setTop (mkF m 24 #[.val (.int qv), .val (.ref w_STATUSES), .val (.int (18 : Int32)), .val (.int (3 : Int32)), .val (.ref w_NOT_MODIFIED)] [(.int (18 : Int32))]))
        refine ogo (fun t k => XS.iloadN X13.here hx rfl (hb hby d1_24) rfl k) ?_
        show OwnEnds _ _ _ _ _ _ _ (T13.setTop (mkF m 25 #[.val (.int qv), .val (.ref w_STATUSES), .val (.int (18 : Int32)), .val (.int (3 : Int32)), .val (.ref w_NOT_MODIFIED)] [(.int qv), (.int (18 : Int32))]))
        by_cases hc14 : qv = (18 : Int32)
        · refine ogo (fun t k => XS.icmpNo X13.here hx rfl (hb hby d1_25) rfl (teq (Eq.symm hc14)).2 k) ?_
          show OwnEnds _ _ _ _ _ _ _ (T13.setTop (mkF m 28 #[.val (.int qv), .val (.ref w_STATUSES), .val (.int (18 : Int32)), .val (.int (3 : Int32)), .val (.ref w_NOT_MODIFIED)] []))
          refine ogo (fun t k => XS.aload X13.here hx rfl (hb hby d1_28) rfl rfl k) ?_
          show OwnEnds _ _ _ _ _ _ _ (T13.setTop (mkF m 30 #[.val (.int qv), .val (.ref w_STATUSES), .val (.int (18 : Int32)), .val (.int (3 : Int32)), .val (.ref w_NOT_MODIFIED)] [(.ref w_NOT_MODIFIED)]))
          refine endA X13 hx hlk Bd.returns rfl rfl (hb hby d1_30) (by decide) (by decide) ?_
          show Q1 Z qv w_OK w_MOVED_PERMANENTLY w_FOUND w_NOT_MODIFIED w_BAD_REQUEST w_UNAUTHORIZED w_PAYMENT_REQUIRED w_FORBIDDEN w_NOT_FOUND w_REQUEST_TIMEOUT w_REQUEST_ENTITY_TOO_LARGE w_TOO_MANY_REQUESTS w_INTERNAL_SERVER_ERROR w_NOT_IMPLEMENTED w_BAD_GATEWAY w_SERVICE_UNAVAILABLE w_GATEWAY_TIMEOUT w_VERSION_NOT_SUPPORTED w_STATUSES h0 n0 _ T13.heap _
          rw [e13]
          exact ⟨by simp [own_of, hc5, hc8, hc11, hc14], N0, rfl⟩
        · refine ogo (fun t k => XS.icmpYes X13.here hx rfl (pc0 := 25) (pc' := 31) rfl (hb hby d1_25) rfl (feq (fun q => hc14 (Eq.symm q))).2 (by decide) (by decide) k) ?_
          show OwnEnds _ _ _ _ _ _ _ (T13.setTop (mkF m 31 #[.val (.int qv), .val (.ref w_STATUSES), .val (.int (18 : Int32)), .val (.int (3 : Int32)), .val (.ref w_NOT_MODIFIED)] []))
          refine ogo (fun t k => XS.iinc X13.here hx rfl (hb hby d1_31) rfl (l' := #[.val (.int qv), .val (.ref w_STATUSES), .val (.int (18 : Int32)), .val (.int (4 : Int32)), .val (.ref w_NOT_MODIFIED)]) rfl k) ?_
          show OwnEnds _ _ _ _ _ _ _ (T13.setTop (mkF m 34 #[.val (.int qv), .val (.ref w_STATUSES), .val (.int (18 : Int32)), .val (.int (4 : Int32)), .val (.ref w_NOT_MODIFIED)] []))
          refine ogo (fun t k => XS.goto X13.here hx rfl (pc0 := 34) (pc' := 9) rfl (hb hby d1_34) (by decide) (by decide) k) ?_
          show OwnEnds _ _ _ _ _ _ _ (T13.setTop (mkF m 9 #[.val (.int qv), .val (.ref w_STATUSES), .val (.int (18 : Int32)), .val (.int (4 : Int32)), .val (.ref w_NOT_MODIFIED)] []))
          refine ogo (fun t k => XS.iloadN X13.here hx rfl (hb hby d1_9) rfl k) ?_
          show OwnEnds _ _ _ _ _ _ _ (T13.setTop (mkF m 10 #[.val (.int qv), .val (.ref w_STATUSES), .val (.int (18 : Int32)), .val (.int (4 : Int32)), .val (.ref w_NOT_MODIFIED)] [(.int (4 : Int32))]))
          refine ogo (fun t k => XS.iloadN X13.here hx rfl (hb hby d1_10) rfl k) ?_
          show OwnEnds _ _ _ _ _ _ _ (T13.setTop (mkF m 11 #[.val (.int qv), .val (.ref w_STATUSES), .val (.int (18 : Int32)), .val (.int (4 : Int32)), .val (.ref w_NOT_MODIFIED)] [(.int (18 : Int32)), (.int (4 : Int32))]))
          refine ogo (fun t k => XS.icmpNo X13.here hx rfl (hb hby d1_11) rfl (tlt (by decide : (4 : Int32) < (18 : Int32))).2.1 k) ?_
          show OwnEnds _ _ _ _ _ _ _ (T13.setTop (mkF m 14 #[.val (.int qv), .val (.ref w_STATUSES), .val (.int (18 : Int32)), .val (.int (4 : Int32)), .val (.ref w_NOT_MODIFIED)] []))
          refine ogo (fun t k => XS.aloadN X13.here hx rfl (hb hby d1_14) rfl rfl k) ?_
          show OwnEnds _ _ _ _ _ _ _ (T13.setTop (mkF m 15 #[.val (.int qv), .val (.ref w_STATUSES), .val (.int (18 : Int32)), .val (.int (4 : Int32)), .val (.ref w_NOT_MODIFIED)] [(.ref w_STATUSES)]))
          refine ogo (fun t k => XS.iloadN X13.here hx rfl (hb hby d1_15) rfl k) ?_
          show OwnEnds _ _ _ _ _ _ _ (T13.setTop (mkF m 16 #[.val (.int qv), .val (.ref w_STATUSES), .val (.int (18 : Int32)), .val (.int (4 : Int32)), .val (.ref w_NOT_MODIFIED)] [(.int (4 : Int32)), (.ref w_STATUSES)]))
          obtain ⟨ak15, cl15, Ar15, Aq15, As15, An15, Ah15, Ag15⟩ := id V_STATUSES
          refine ogo (fun t k => X13.aaload hx (j := (4 : Int32)) (v := (.ref w_BAD_REQUEST)) (by rw [e13]; exact Ar15.1) (State.isArrayOf_alike hZ.alike Ar15.2.1) rfl Ar15.2.2 (inb_of As15 ⟨by decide, by decide⟩) (Ah15.at (inb_of As15 ⟨by decide, by decide⟩) rfl) (g := (mkF m 16 #[.val (.int qv), .val (.ref w_STATUSES), .val (.int (18 : Int32)), .val (.int (4 : Int32)), .val (.ref w_NOT_MODIFIED)] [(.int (4 : Int32)), (.ref w_STATUSES)])) rfl rfl (hb hby d1_16) t k) ?_
          show OwnEnds _ _ _ _ _ _ _ (T13.setTop (mkF m 17 #[.val (.int qv), .val (.ref w_STATUSES), .val (.int (18 : Int32)), .val (.int (4 : Int32)), .val (.ref w_NOT_MODIFIED)] [(.ref w_BAD_REQUEST)]))
          refine ogo (fun t k => XS.astore X13.here hx rfl (hb hby d1_17) rfl rfl (l' := #[.val (.int qv), .val (.ref w_STATUSES), .val (.int (18 : Int32)), .val (.int (4 : Int32)), .val (.ref w_BAD_REQUEST)]) rfl k) ?_
          show OwnEnds _ _ _ _ _ _ _ (T13.setTop (mkF m 19 #[.val (.int qv), .val (.ref w_STATUSES), .val (.int (18 : Int32)), .val (.int (4 : Int32)), .val (.ref w_BAD_REQUEST)] []))
          refine ogo (fun t k => XS.aload X13.here hx rfl (hb hby d1_19) rfl rfl k) ?_
          show OwnEnds _ _ _ _ _ _ _ (T13.setTop (mkF m 21 #[.val (.int qv), .val (.ref w_STATUSES), .val (.int (18 : Int32)), .val (.int (4 : Int32)), .val (.ref w_BAD_REQUEST)] [(.ref w_BAD_REQUEST)]))
          obtain ⟨T16, X16, e16, st16⟩ := getF X13 hx hZ hown (host := "") (Or.inl (hw _ (List.mem_of_getElem? (i := 7) rfl))) Via.refl e13 F_code_BAD_REQUEST (g := (mkF m 21 #[.val (.int qv), .val (.ref w_STATUSES), .val (.int (18 : Int32)), .val (.int (4 : Int32)), .val (.ref w_BAD_REQUEST)] [(.ref w_BAD_REQUEST)])) rfl rfl (hb hby d1_21)
          refine ogo st16 ?_
          show OwnEnds _ _ _ _ _ _ _ (T16.setTop (mkF m 24 #[.val (.int qv), .val (.ref w_STATUSES), .val (.int (18 : Int32)), .val (.int (4 : Int32)), .val (.ref w_BAD_REQUEST)] [(.int (32 : Int32))]))
          refine ogo (fun t k => XS.iloadN X16.here hx rfl (hb hby d1_24) rfl k) ?_
          show OwnEnds _ _ _ _ _ _ _ (T16.setTop (mkF m 25 #[.val (.int qv), .val (.ref w_STATUSES), .val (.int (18 : Int32)), .val (.int (4 : Int32)), .val (.ref w_BAD_REQUEST)] [(.int qv), (.int (32 : Int32))]))
          by_cases hc17 : qv = (32 : Int32)
          · refine ogo (fun t k => XS.icmpNo X16.here hx rfl (hb hby d1_25) rfl (teq (Eq.symm hc17)).2 k) ?_
            show OwnEnds _ _ _ _ _ _ _ (T16.setTop (mkF m 28 #[.val (.int qv), .val (.ref w_STATUSES), .val (.int (18 : Int32)), .val (.int (4 : Int32)), .val (.ref w_BAD_REQUEST)] []))
            refine ogo (fun t k => XS.aload X16.here hx rfl (hb hby d1_28) rfl rfl k) ?_
            show OwnEnds _ _ _ _ _ _ _ (T16.setTop (mkF m 30 #[.val (.int qv), .val (.ref w_STATUSES), .val (.int (18 : Int32)), .val (.int (4 : Int32)), .val (.ref w_BAD_REQUEST)] [(.ref w_BAD_REQUEST)]))
            refine endA X16 hx hlk Bd.returns rfl rfl (hb hby d1_30) (by decide) (by decide) ?_
            show Q1 Z qv w_OK w_MOVED_PERMANENTLY w_FOUND w_NOT_MODIFIED w_BAD_REQUEST w_UNAUTHORIZED w_PAYMENT_REQUIRED w_FORBIDDEN w_NOT_FOUND w_REQUEST_TIMEOUT w_REQUEST_ENTITY_TOO_LARGE w_TOO_MANY_REQUESTS w_INTERNAL_SERVER_ERROR w_NOT_IMPLEMENTED w_BAD_GATEWAY w_SERVICE_UNAVAILABLE w_GATEWAY_TIMEOUT w_VERSION_NOT_SUPPORTED w_STATUSES h0 n0 _ T16.heap _
            rw [e16]
            exact ⟨by simp [own_of, hc5, hc8, hc11, hc14, hc17], N0, rfl⟩
          · refine ogo (fun t k => XS.icmpYes X16.here hx rfl (pc0 := 25) (pc' := 31) rfl (hb hby d1_25) rfl (feq (fun q => hc17 (Eq.symm q))).2 (by decide) (by decide) k) ?_
            show OwnEnds _ _ _ _ _ _ _ (T16.setTop (mkF m 31 #[.val (.int qv), .val (.ref w_STATUSES), .val (.int (18 : Int32)), .val (.int (4 : Int32)), .val (.ref w_BAD_REQUEST)] []))
            refine ogo (fun t k => XS.iinc X16.here hx rfl (hb hby d1_31) rfl (l' := #[.val (.int qv), .val (.ref w_STATUSES), .val (.int (18 : Int32)), .val (.int (5 : Int32)), .val (.ref w_BAD_REQUEST)]) rfl k) ?_
            show OwnEnds _ _ _ _ _ _ _ (T16.setTop (mkF m 34 #[.val (.int qv), .val (.ref w_STATUSES), .val (.int (18 : Int32)), .val (.int (5 : Int32)), .val (.ref w_BAD_REQUEST)] []))
            refine ogo (fun t k => XS.goto X16.here hx rfl (pc0 := 34) (pc' := 9) rfl (hb hby d1_34) (by decide) (by decide) k) ?_
            show OwnEnds _ _ _ _ _ _ _ (T16.setTop (mkF m 9 #[.val (.int qv), .val (.ref w_STATUSES), .val (.int (18 : Int32)), .val (.int (5 : Int32)), .val (.ref w_BAD_REQUEST)] []))
            refine ogo (fun t k => XS.iloadN X16.here hx rfl (hb hby d1_9) rfl k) ?_
            show OwnEnds _ _ _ _ _ _ _ (T16.setTop (mkF m 10 #[.val (.int qv), .val (.ref w_STATUSES), .val (.int (18 : Int32)), .val (.int (5 : Int32)), .val (.ref w_BAD_REQUEST)] [(.int (5 : Int32))]))
            refine ogo (fun t k => XS.iloadN X16.here hx rfl (hb hby d1_10) rfl k) ?_
            show OwnEnds _ _ _ _ _ _ _ (T16.setTop (mkF m 11 #[.val (.int qv), .val (.ref w_STATUSES), .val (.int (18 : Int32)), .val (.int (5 : Int32)), .val (.ref w_BAD_REQUEST)] [(.int (18 : Int32)), (.int (5 : Int32))]))
            refine ogo (fun t k => XS.icmpNo X16.here hx rfl (hb hby d1_11) rfl (tlt (by decide : (5 : Int32) < (18 : Int32))).2.1 k) ?_
            show OwnEnds _ _ _ _ _ _ _ (T16.setTop (mkF m 14 #[.val (.int qv), .val (.ref w_STATUSES), .val (.int (18 : Int32)), .val (.int (5 : Int32)), .val (.ref w_BAD_REQUEST)] []))
            refine ogo (fun t k => XS.aloadN X16.here hx rfl (hb hby d1_14) rfl rfl k) ?_
            show OwnEnds _ _ _ _ _ _ _ (T16.setTop (mkF m 15 #[.val (.int qv), .val (.ref w_STATUSES), .val (.int (18 : Int32)), .val (.int (5 : Int32)), .val (.ref w_BAD_REQUEST)] [(.ref w_STATUSES)]))
            refine ogo (fun t k => XS.iloadN X16.here hx rfl (hb hby d1_15) rfl k) ?_
            show OwnEnds _ _ _ _ _ _ _ (T16.setTop (mkF m 16 #[.val (.int qv), .val (.ref w_STATUSES), .val (.int (18 : Int32)), .val (.int (5 : Int32)), .val (.ref w_BAD_REQUEST)] [(.int (5 : Int32)), (.ref w_STATUSES)]))
            obtain ⟨ak18, cl18, Ar18, Aq18, As18, An18, Ah18, Ag18⟩ := id V_STATUSES
            refine ogo (fun t k => X16.aaload hx (j := (5 : Int32)) (v := (.ref w_UNAUTHORIZED)) (by rw [e16]; exact Ar18.1) (State.isArrayOf_alike hZ.alike Ar18.2.1) rfl Ar18.2.2 (inb_of As18 ⟨by decide, by decide⟩) (Ah18.at (inb_of As18 ⟨by decide, by decide⟩) rfl) (g := (mkF m 16 #[.val (.int qv), .val (.ref w_STATUSES), .val (.int (18 : Int32)), .val (.int (5 : Int32)), .val (.ref w_BAD_REQUEST)] [(.int (5 : Int32)), (.ref w_STATUSES)])) rfl rfl (hb hby d1_16) t k) ?_
            show OwnEnds _ _ _ _ _ _ _ (T16.setTop (mkF m 17 #[.val (.int qv), .val (.ref w_STATUSES), .val (.int (18 : Int32)), .val (.int (5 : Int32)), .val (.ref w_BAD_REQUEST)] [(.ref w_UNAUTHORIZED)]))
            refine ogo (fun t k => XS.astore X16.here hx rfl (hb hby d1_17) rfl rfl (l' := #[.val (.int qv), .val (.ref w_STATUSES), .val (.int (18 : Int32)), .val (.int (5 : Int32)), .val (.ref w_UNAUTHORIZED)]) rfl k) ?_
            show OwnEnds _ _ _ _ _ _ _ (T16.setTop (mkF m 19 #[.val (.int qv), .val (.ref w_STATUSES), .val (.int (18 : Int32)), .val (.int (5 : Int32)), .val (.ref w_UNAUTHORIZED)] []))
            refine ogo (fun t k => XS.aload X16.here hx rfl (hb hby d1_19) rfl rfl k) ?_
            show OwnEnds _ _ _ _ _ _ _ (T16.setTop (mkF m 21 #[.val (.int qv), .val (.ref w_STATUSES), .val (.int (18 : Int32)), .val (.int (5 : Int32)), .val (.ref w_UNAUTHORIZED)] [(.ref w_UNAUTHORIZED)]))
            obtain ⟨T19, X19, e19, st19⟩ := getF X16 hx hZ hown (host := "") (Or.inl (hw _ (List.mem_of_getElem? (i := 7) rfl))) Via.refl e16 F_code_UNAUTHORIZED (g := (mkF m 21 #[.val (.int qv), .val (.ref w_STATUSES), .val (.int (18 : Int32)), .val (.int (5 : Int32)), .val (.ref w_UNAUTHORIZED)] [(.ref w_UNAUTHORIZED)])) rfl rfl (hb hby d1_21)
            refine ogo st19 ?_
            show OwnEnds _ _ _ _ _ _ _ (T19.setTop (mkF m 24 #[.val (.int qv), .val (.ref w_STATUSES), .val (.int (18 : Int32)), .val (.int (5 : Int32)), .val (.ref w_UNAUTHORIZED)] [(.int (33 : Int32))]))
            refine ogo (fun t k => XS.iloadN X19.here hx rfl (hb hby d1_24) rfl k) ?_
            show OwnEnds _ _ _ _ _ _ _ (T19.setTop (mkF m 25 #[.val (.int qv), .val (.ref w_STATUSES), .val (.int (18 : Int32)), .val (.int (5 : Int32)), .val (.ref w_UNAUTHORIZED)] [(.int qv), (.int (33 : Int32))]))
            by_cases hc20 : qv = (33 : Int32)
            · refine ogo (fun t k => XS.icmpNo X19.here hx rfl (hb hby d1_25) rfl (teq (Eq.symm hc20)).2 k) ?_
              show OwnEnds _ _ _ _ _ _ _ (T19.setTop (mkF m 28 #[.val (.int qv), .val (.ref w_STATUSES), .val (.int (18 : Int32)), .val (.int (5 : Int32)), .val (.ref w_UNAUTHORIZED)] []))
              refine ogo (fun t k => XS.aload X19.here hx rfl (hb hby d1_28) rfl rfl k) ?_
              show OwnEnds _ _ _ _ _ _ _ (T19.setTop (mkF m 30 #[.val (.int qv), .val (.ref w_STATUSES), .val (.int (18 : Int32)), .val (.int (5 : Int32)), .val (.ref w_UNAUTHORIZED)] [(.ref w_UNAUTHORIZED)]))
              refine endA X19 hx hlk Bd.returns rfl rfl (hb hby d1_30) (by decide) (by decide) ?_
              show Q1 Z qv w_OK w_MOVED_PERMANENTLY w_FOUND w_NOT_MODIFIED w_BAD_REQUEST w_UNAUTHORIZED w_PAYMENT_REQUIRED w_FORBIDDEN w_NOT_FOUND w_REQUEST_TIMEOUT w_REQUEST_ENTITY_TOO_LARGE w_TOO_MANY_REQUESTS w_INTERNAL_SERVER_ERROR w_NOT_IMPLEMENTED w_BAD_GATEWAY w_SERVICE_UNAVAILABLE w_GATEWAY_TIMEOUT w_VERSION_NOT_SUPPORTED w_STATUSES h0 n0 _ T19.heap _
              rw [e19]
              exact ⟨by simp [own_of, hc5, hc8, hc11, hc14, hc17, hc20], N0, rfl⟩
            · refine ogo (fun t k => XS.icmpYes X19.here hx rfl (pc0 := 25) (pc' := 31) rfl (hb hby d1_25) rfl (feq (fun q => hc20 (Eq.symm q))).2 (by decide) (by decide) k) ?_
              show OwnEnds _ _ _ _ _ _ _ (T19.setTop (mkF m 31 #[.val (.int qv), .val (.ref w_STATUSES), .val (.int (18 : Int32)), .val (.int (5 : Int32)), .val (.ref w_UNAUTHORIZED)] []))
              refine ogo (fun t k => XS.iinc X19.here hx rfl (hb hby d1_31) rfl (l' := #[.val (.int qv), .val (.ref w_STATUSES), .val (.int (18 : Int32)), .val (.int (6 : Int32)), .val (.ref w_UNAUTHORIZED)]) rfl k) ?_
              show OwnEnds _ _ _ _ _ _ _ (T19.setTop (mkF m 34 #[.val (.int qv), .val (.ref w_STATUSES), .val (.int (18 : Int32)), .val (.int (6 : Int32)), .val (.ref w_UNAUTHORIZED)] []))
              refine ogo (fun t k => XS.goto X19.here hx rfl (pc0 := 34) (pc' := 9) rfl (hb hby d1_34) (by decide) (by decide) k) ?_
              show OwnEnds _ _ _ _ _ _ _ (T19.setTop (mkF m 9 #[.val (.int qv), .val (.ref w_STATUSES), .val (.int (18 : Int32)), .val (.int (6 : Int32)), .val (.ref w_UNAUTHORIZED)] []))
              refine ogo (fun t k => XS.iloadN X19.here hx rfl (hb hby d1_9) rfl k) ?_
              show OwnEnds _ _ _ _ _ _ _ (T19.setTop (mkF m 10 #[.val (.int qv), .val (.ref w_STATUSES), .val (.int (18 : Int32)), .val (.int (6 : Int32)), .val (.ref w_UNAUTHORIZED)] [(.int (6 : Int32))]))
              refine ogo (fun t k => XS.iloadN X19.here hx rfl (hb hby d1_10) rfl k) ?_
              show OwnEnds _ _ _ _ _ _ _ (T19.setTop (mkF m 11 #[.val (.int qv), .val (.ref w_STATUSES), .val (.int (18 : Int32)), .val (.int (6 : Int32)), .val (.ref w_UNAUTHORIZED)] [(.int (18 : Int32)), (.int (6 : Int32))]))
              refine ogo (fun t k => XS.icmpNo X19.here hx rfl (hb hby d1_11) rfl (tlt (by decide : (6 : Int32) < (18 : Int32))).2.1 k) ?_
              show OwnEnds _ _ _ _ _ _ _ (T19.setTop (mkF m 14 #[.val (.int qv), .val (.ref w_STATUSES), .val (.int (18 : Int32)), .val (.int (6 : Int32)), .val (.ref w_UNAUTHORIZED)] []))
              refine ogo (fun t k => XS.aloadN X19.here hx rfl (hb hby d1_14) rfl rfl k) ?_
              show OwnEnds _ _ _ _ _ _ _ (T19.setTop (mkF m 15 #[.val (.int qv), .val (.ref w_STATUSES), .val (.int (18 : Int32)), .val (.int (6 : Int32)), .val (.ref w_UNAUTHORIZED)] [(.ref w_STATUSES)]))
              refine ogo (fun t k => XS.iloadN X19.here hx rfl (hb hby d1_15) rfl k) ?_
              show OwnEnds _ _ _ _ _ _ _ (T19.setTop (mkF m 16 #[.val (.int qv), .val (.ref w_STATUSES), .val (.int (18 : Int32)), .val (.int (6 : Int32)), .val (.ref w_UNAUTHORIZED)] [(.int (6 : Int32)), (.ref w_STATUSES)]))
              obtain ⟨ak21, cl21, Ar21, Aq21, As21, An21, Ah21, Ag21⟩ := id V_STATUSES
              refine ogo (fun t k => X19.aaload hx (j := (6 : Int32)) (v := (.ref w_PAYMENT_REQUIRED)) (by rw [e19]; exact Ar21.1) (State.isArrayOf_alike hZ.alike Ar21.2.1) rfl Ar21.2.2 (inb_of As21 ⟨by decide, by decide⟩) (Ah21.at (inb_of As21 ⟨by decide, by decide⟩) rfl) (g := (mkF m 16 #[.val (.int qv), .val (.ref w_STATUSES), .val (.int (18 : Int32)), .val (.int (6 : Int32)), .val (.ref w_UNAUTHORIZED)] [(.int (6 : Int32)), (.ref w_STATUSES)])) rfl rfl (hb hby d1_16) t k) ?_
              show OwnEnds _ _ _ _ _ _ _ (T19.setTop (mkF m 17 #[.val (.int qv), .val (.ref w_STATUSES), .val (.int (18 : Int32)), .val (.int (6 : Int32)), .val (.ref w_UNAUTHORIZED)] [(.ref w_PAYMENT_REQUIRED)]))
              refine ogo (fun t k => XS.astore X19.here hx rfl (hb hby d1_17) rfl rfl (l' := #[.val (.int qv), .val (.ref w_STATUSES), .val (.int (18 : Int32)), .val (.int (6 : Int32)), .val (.ref w_PAYMENT_REQUIRED)]) rfl k) ?_
              show OwnEnds _ _ _ _ _ _ _ (T19.setTop (mkF m 19 #[.val (.int qv), .val (.ref w_STATUSES), .val (.int (18 : Int32)), .val (.int (6 : Int32)), .val (.ref w_PAYMENT_REQUIRED)] []))
              refine ogo (fun t k => XS.aload X19.here hx rfl (hb hby d1_19) rfl rfl k) ?_
              show OwnEnds _ _ _ _ _ _ _ (T19.setTop (mkF m 21 #[.val (.int qv), .val (.ref w_STATUSES), .val (.int (18 : Int32)), .val (.int (6 : Int32)), .val (.ref w_PAYMENT_REQUIRED)] [(.ref w_PAYMENT_REQUIRED)]))
              obtain ⟨T22, X22, e22, st22⟩ := getF X19 hx hZ hown (host := "") (Or.inl (hw _ (List.mem_of_getElem? (i := 7) rfl))) Via.refl e19 F_code_PAYMENT_REQUIRED (g := (mkF m 21 #[.val (.int qv), .val (.ref w_STATUSES), .val (.int (18 : Int32)), .val (.int (6 : Int32)), .val (.ref w_PAYMENT_REQUIRED)] [(.ref w_PAYMENT_REQUIRED)])) rfl rfl (hb hby d1_21)
              refine ogo st22 ?_
              show OwnEnds _ _ _ _ _ _ _ (T22.setTop (mkF m 24 #[.val (.int qv), .val (.ref w_STATUSES), .val (.int (18 : Int32)), .val (.int (6 : Int32)), .val (.ref w_PAYMENT_REQUIRED)] [(.int (34 : Int32))]))
              refine ogo (fun t k => XS.iloadN X22.here hx rfl (hb hby d1_24) rfl k) ?_
              show OwnEnds _ _ _ _ _ _ _ (T22.setTop (mkF m 25 #[.val (.int qv), .val (.ref w_STATUSES), .val (.int (18 : Int32)), .val (.int (6 : Int32)), .val (.ref w_PAYMENT_REQUIRED)] [(.int qv), (.int (34 : Int32))]))
              by_cases hc23 : qv = (34 : Int32)
              · refine ogo (fun t k => XS.icmpNo X22.here hx rfl (hb hby d1_25) rfl (teq (Eq.symm hc23)).2 k) ?_
                show OwnEnds _ _ _ _ _ _ _ (T22.setTop (mkF m 28 #[.val (.int qv), .val (.ref w_STATUSES), .val (.int (18 : Int32)), .val (.int (6 : Int32)), .val (.ref w_PAYMENT_REQUIRED)] []))
                refine ogo (fun t k => XS.aload X22.here hx rfl (hb hby d1_28) rfl rfl k) ?_
                show OwnEnds _ _ _ _ _ _ _ (T22.setTop (mkF m 30 #[.val (.int qv), .val (.ref w_STATUSES), .val (.int (18 : Int32)), .val (.int (6 : Int32)), .val (.ref w_PAYMENT_REQUIRED)] [(.ref w_PAYMENT_REQUIRED)]))
                refine endA X22 hx hlk Bd.returns rfl rfl (hb hby d1_30) (by decide) (by decide) ?_
                show Q1 Z qv w_OK w_MOVED_PERMANENTLY w_FOUND w_NOT_MODIFIED w_BAD_REQUEST w_UNAUTHORIZED w_PAYMENT_REQUIRED w_FORBIDDEN w_NOT_FOUND w_REQUEST_TIMEOUT w_REQUEST_ENTITY_TOO_LARGE w_TOO_MANY_REQUESTS w_INTERNAL_SERVER_ERROR w_NOT_IMPLEMENTED w_BAD_GATEWAY w_SERVICE_UNAVAILABLE w_GATEWAY_TIMEOUT w_VERSION_NOT_SUPPORTED w_STATUSES h0 n0 _ T22.heap _
                rw [e22]
                exact ⟨by simp [own_of, hc5, hc8, hc11, hc14, hc17, hc20, hc23], N0, rfl⟩
              · refine ogo (fun t k => XS.icmpYes X22.here hx rfl (pc0 := 25) (pc' := 31) rfl (hb hby d1_25) rfl (feq (fun q => hc23 (Eq.symm q))).2 (by decide) (by decide) k) ?_
                show OwnEnds _ _ _ _ _ _ _ (T22.setTop (mkF m 31 #[.val (.int qv), .val (.ref w_STATUSES), .val (.int (18 : Int32)), .val (.int (6 : Int32)), .val (.ref w_PAYMENT_REQUIRED)] []))
                refine ogo (fun t k => XS.iinc X22.here hx rfl (hb hby d1_31) rfl (l' := #[.val (.int qv), .val (.ref w_STATUSES), .val (.int (18 : Int32)), .val (.int (7 : Int32)), .val (.ref w_PAYMENT_REQUIRED)]) rfl k) ?_
                show OwnEnds _ _ _ _ _ _ _ (T22.setTop (mkF m 34 #[.val (.int qv), .val (.ref w_STATUSES), .val (.int (18 : Int32)), .val (.int (7 : Int32)), .val (.ref w_PAYMENT_REQUIRED)] []))
                refine ogo (fun t k => XS.goto X22.here hx rfl (pc0 := 34) (pc' := 9) rfl (hb hby d1_34) (by decide) (by decide) k) ?_
                show OwnEnds _ _ _ _ _ _ _ (T22.setTop (mkF m 9 #[.val (.int qv), .val (.ref w_STATUSES), .val (.int (18 : Int32)), .val (.int (7 : Int32)), .val (.ref w_PAYMENT_REQUIRED)] []))
                refine ogo (fun t k => XS.iloadN X22.here hx rfl (hb hby d1_9) rfl k) ?_
                show OwnEnds _ _ _ _ _ _ _ (T22.setTop (mkF m 10 #[.val (.int qv), .val (.ref w_STATUSES), .val (.int (18 : Int32)), .val (.int (7 : Int32)), .val (.ref w_PAYMENT_REQUIRED)] [(.int (7 : Int32))]))
                refine ogo (fun t k => XS.iloadN X22.here hx rfl (hb hby d1_10) rfl k) ?_
                show OwnEnds _ _ _ _ _ _ _ (T22.setTop (mkF m 11 #[.val (.int qv), .val (.ref w_STATUSES), .val (.int (18 : Int32)), .val (.int (7 : Int32)), .val (.ref w_PAYMENT_REQUIRED)] [(.int (18 : Int32)), (.int (7 : Int32))]))
                refine ogo (fun t k => XS.icmpNo X22.here hx rfl (hb hby d1_11) rfl (tlt (by decide : (7 : Int32) < (18 : Int32))).2.1 k) ?_
                show OwnEnds _ _ _ _ _ _ _ (T22.setTop (mkF m 14 #[.val (.int qv), .val (.ref w_STATUSES), .val (.int (18 : Int32)), .val (.int (7 : Int32)), .val (.ref w_PAYMENT_REQUIRED)] []))
                refine ogo (fun t k => XS.aloadN X22.here hx rfl (hb hby d1_14) rfl rfl k) ?_
                show OwnEnds _ _ _ _ _ _ _ (T22.setTop (mkF m 15 #[.val (.int qv), .val (.ref w_STATUSES), .val (.int (18 : Int32)), .val (.int (7 : Int32)), .val (.ref w_PAYMENT_REQUIRED)] [(.ref w_STATUSES)]))
                refine ogo (fun t k => XS.iloadN X22.here hx rfl (hb hby d1_15) rfl k) ?_
                show OwnEnds _ _ _ _ _ _ _ (T22.setTop (mkF m 16 #[.val (.int qv), .val (.ref w_STATUSES), .val (.int (18 : Int32)), .val (.int (7 : Int32)), .val (.ref w_PAYMENT_REQUIRED)] [(.int (7 : Int32)), (.ref w_STATUSES)]))
                obtain ⟨ak24, cl24, Ar24, Aq24, As24, An24, Ah24, Ag24⟩ := id V_STATUSES
                refine ogo (fun t k => X22.aaload hx (j := (7 : Int32)) (v := (.ref w_FORBIDDEN)) (by rw [e22]; exact Ar24.1) (State.isArrayOf_alike hZ.alike Ar24.2.1) rfl Ar24.2.2 (inb_of As24 ⟨by decide, by decide⟩) (Ah24.at (inb_of As24 ⟨by decide, by decide⟩) rfl) (g := (mkF m 16 #[.val (.int qv), .val (.ref w_STATUSES), .val (.int (18 : Int32)), .val (.int (7 : Int32)), .val (.ref w_PAYMENT_REQUIRED)] [(.int (7 : Int32)), (.ref w_STATUSES)])) rfl rfl (hb hby d1_16) t k) ?_
                show OwnEnds _ _ _ _ _ _ _ (T22.setTop (mkF m 17 #[.val (.int qv), .val (.ref w_STATUSES), .val (.int (18 : Int32)), .val (.int (7 : Int32)), .val (.ref w_PAYMENT_REQUIRED)] [(.ref w_FORBIDDEN)]))
                refine ogo (fun t k => XS.astore X22.here hx rfl (hb hby d1_17) rfl rfl (l' := #[.val (.int qv), .val (.ref w_STATUSES), .val (.int (18 : Int32)), .val (.int (7 : Int32)), .val (.ref w_FORBIDDEN)]) rfl k) ?_
                show OwnEnds _ _ _ _ _ _ _ (T22.setTop (mkF m 19 #[.val (.int qv), .val (.ref w_STATUSES), .val (.int (18 : Int32)), .val (.int (7 : Int32)), .val (.ref w_FORBIDDEN)] []))
                refine ogo (fun t k => XS.aload X22.here hx rfl (hb hby d1_19) rfl rfl k) ?_
                show OwnEnds _ _ _ _ _ _ _ (T22.setTop (mkF m 21 #[.val (.int qv), .val (.ref w_STATUSES), .val (.int (18 : Int32)), .val (.int (7 : Int32)), .val (.ref w_FORBIDDEN)] [(.ref w_FORBIDDEN)]))
                obtain ⟨T25, X25, e25, st25⟩ := getF X22 hx hZ hown (host := "") (Or.inl (hw _ (List.mem_of_getElem? (i := 7) rfl))) Via.refl e22 F_code_FORBIDDEN (g := (mkF m 21 #[.val (.int qv), .val (.ref w_STATUSES), .val (.int (18 : Int32)), .val (.int (7 : Int32)), .val (.ref w_FORBIDDEN)] [(.ref w_FORBIDDEN)])) rfl rfl (hb hby d1_21)
                refine ogo st25 ?_
                show OwnEnds _ _ _ _ _ _ _ (T25.setTop (mkF m 24 #[.val (.int qv), .val (.ref w_STATUSES), .val (.int (18 : Int32)), .val (.int (7 : Int32)), .val (.ref w_FORBIDDEN)] [(.int (35 : Int32))]))
                refine ogo (fun t k => XS.iloadN X25.here hx rfl (hb hby d1_24) rfl k) ?_
                show OwnEnds _ _ _ _ _ _ _ (T25.setTop (mkF m 25 #[.val (.int qv), .val (.ref w_STATUSES), .val (.int (18 : Int32)), .val (.int (7 : Int32)), .val (.ref w_FORBIDDEN)] [(.int qv), (.int (35 : Int32))]))
                by_cases hc26 : qv = (35 : Int32)
                · refine ogo (fun t k => XS.icmpNo X25.here hx rfl (hb hby d1_25) rfl (teq (Eq.symm hc26)).2 k) ?_
                  show OwnEnds _ _ _ _ _ _ _ (T25.setTop (mkF m 28 #[.val (.int qv), .val (.ref w_STATUSES), .val (.int (18 : Int32)), .val (.int (7 : Int32)), .val (.ref w_FORBIDDEN)] []))
                  refine ogo (fun t k => XS.aload X25.here hx rfl (hb hby d1_28) rfl rfl k) ?_
                  show OwnEnds _ _ _ _ _ _ _ (T25.setTop (mkF m 30 #[.val (.int qv), .val (.ref w_STATUSES), .val (.int (18 : Int32)), .val (.int (7 : Int32)), .val (.ref w_FORBIDDEN)] [(.ref w_FORBIDDEN)]))
                  refine endA X25 hx hlk Bd.returns rfl rfl (hb hby d1_30) (by decide) (by decide) ?_
                  show Q1 Z qv w_OK w_MOVED_PERMANENTLY w_FOUND w_NOT_MODIFIED w_BAD_REQUEST w_UNAUTHORIZED w_PAYMENT_REQUIRED w_FORBIDDEN w_NOT_FOUND w_REQUEST_TIMEOUT w_REQUEST_ENTITY_TOO_LARGE w_TOO_MANY_REQUESTS w_INTERNAL_SERVER_ERROR w_NOT_IMPLEMENTED w_BAD_GATEWAY w_SERVICE_UNAVAILABLE w_GATEWAY_TIMEOUT w_VERSION_NOT_SUPPORTED w_STATUSES h0 n0 _ T25.heap _
                  rw [e25]
                  exact ⟨by simp [own_of, hc5, hc8, hc11, hc14, hc17, hc20, hc23, hc26], N0, rfl⟩
                · refine ogo (fun t k => XS.icmpYes X25.here hx rfl (pc0 := 25) (pc' := 31) rfl (hb hby d1_25) rfl (feq (fun q => hc26 (Eq.symm q))).2 (by decide) (by decide) k) ?_
                  show OwnEnds _ _ _ _ _ _ _ (T25.setTop (mkF m 31 #[.val (.int qv), .val (.ref w_STATUSES), .val (.int (18 : Int32)), .val (.int (7 : Int32)), .val (.ref w_FORBIDDEN)] []))
                  refine ogo (fun t k => XS.iinc X25.here hx rfl (hb hby d1_31) rfl (l' := #[.val (.int qv), .val (.ref w_STATUSES), .val (.int (18 : Int32)), .val (.int (8 : Int32)), .val (.ref w_FORBIDDEN)]) rfl k) ?_
                  show OwnEnds _ _ _ _ _ _ _ (T25.setTop (mkF m 34 #[.val (.int qv), .val (.ref w_STATUSES), .val (.int (18 : Int32)), .val (.int (8 : Int32)), .val (.ref w_FORBIDDEN)] []))
                  refine ogo (fun t k => XS.goto X25.here hx rfl (pc0 := 34) (pc' := 9) rfl (hb hby d1_34) (by decide) (by decide) k) ?_
                  show OwnEnds _ _ _ _ _ _ _ (T25.setTop (mkF m 9 #[.val (.int qv), .val (.ref w_STATUSES), .val (.int (18 : Int32)), .val (.int (8 : Int32)), .val (.ref w_FORBIDDEN)] []))
                  refine ogo (fun t k => XS.iloadN X25.here hx rfl (hb hby d1_9) rfl k) ?_
                  show OwnEnds _ _ _ _ _ _ _ (T25.setTop (mkF m 10 #[.val (.int qv), .val (.ref w_STATUSES), .val (.int (18 : Int32)), .val (.int (8 : Int32)), .val (.ref w_FORBIDDEN)] [(.int (8 : Int32))]))
                  refine ogo (fun t k => XS.iloadN X25.here hx rfl (hb hby d1_10) rfl k) ?_
                  show OwnEnds _ _ _ _ _ _ _ (T25.setTop (mkF m 11 #[.val (.int qv), .val (.ref w_STATUSES), .val (.int (18 : Int32)), .val (.int (8 : Int32)), .val (.ref w_FORBIDDEN)] [(.int (18 : Int32)), (.int (8 : Int32))]))
                  refine ogo (fun t k => XS.icmpNo X25.here hx rfl (hb hby d1_11) rfl (tlt (by decide : (8 : Int32) < (18 : Int32))).2.1 k) ?_
                  show OwnEnds _ _ _ _ _ _ _ (T25.setTop (mkF m 14 #[.val (.int qv), .val (.ref w_STATUSES), .val (.int (18 : Int32)), .val (.int (8 : Int32)), .val (.ref w_FORBIDDEN)] []))
                  refine ogo (fun t k => XS.aloadN X25.here hx rfl (hb hby d1_14) rfl rfl k) ?_
                  show OwnEnds _ _ _ _ _ _ _ (T25.setTop (mkF m 15 #[.val (.int qv), .val (.ref w_STATUSES), .val (.int (18 : Int32)), .val (.int (8 : Int32)), .val (.ref w_FORBIDDEN)] [(.ref w_STATUSES)]))
                  refine ogo (fun t k => XS.iloadN X25.here hx rfl (hb hby d1_15) rfl k) ?_
                  show OwnEnds _ _ _ _ _ _ _ (T25.setTop (mkF m 16 #[.val (.int qv), .val (.ref w_STATUSES), .val (.int (18 : Int32)), .val (.int (8 : Int32)), .val (.ref w_FORBIDDEN)] [(.int (8 : Int32)), (.ref w_STATUSES)]))
                  obtain ⟨ak27, cl27, Ar27, Aq27, As27, An27, Ah27, Ag27⟩ := id V_STATUSES
                  refine ogo (fun t k => X25.aaload hx (j := (8 : Int32)) (v := (.ref w_NOT_FOUND)) (by rw [e25]; exact Ar27.1) (State.isArrayOf_alike hZ.alike Ar27.2.1) rfl Ar27.2.2 (inb_of As27 ⟨by decide, by decide⟩) (Ah27.at (inb_of As27 ⟨by decide, by decide⟩) rfl) (g := (mkF m 16 #[.val (.int qv), .val (.ref w_STATUSES), .val (.int (18 : Int32)), .val (.int (8 : Int32)), .val (.ref w_FORBIDDEN)] [(.int (8 : Int32)), (.ref w_STATUSES)])) rfl rfl (hb hby d1_16) t k) ?_
                  show OwnEnds _ _ _ _ _ _ _ (T25.setTop (mkF m 17 #[.val (.int qv), .val (.ref w_STATUSES), .val (.int (18 : Int32)), .val (.int (8 : Int32)), .val (.ref w_FORBIDDEN)] [(.ref w_NOT_FOUND)]))
                  refine ogo (fun t k => XS.astore X25.here hx rfl (hb hby d1_17) rfl rfl (l' := #[.val (.int qv), .val (.ref w_STATUSES), .val (.int (18 : Int32)), .val (.int (8 : Int32)), .val (.ref w_NOT_FOUND)]) rfl k) ?_
                  show OwnEnds _ _ _ _ _ _ _ (T25.setTop (mkF m 19 #[.val (.int qv), .val (.ref w_STATUSES), .val (.int (18 : Int32)), .val (.int (8 : Int32)), .val (.ref w_NOT_FOUND)] []))
                  refine ogo (fun t k => XS.aload X25.here hx rfl (hb hby d1_19) rfl rfl k) ?_
                  show OwnEnds _ _ _ _ _ _ _ (T25.setTop (mkF m 21 #[.val (.int qv), .val (.ref w_STATUSES), .val (.int (18 : Int32)), .val (.int (8 : Int32)), .val (.ref w_NOT_FOUND)] [(.ref w_NOT_FOUND)]))
                  obtain ⟨T28, X28, e28, st28⟩ := getF X25 hx hZ hown (host := "") (Or.inl (hw _ (List.mem_of_getElem? (i := 7) rfl))) Via.refl e25 F_code_NOT_FOUND (g := (mkF m 21 #[.val (.int qv), .val (.ref w_STATUSES), .val (.int (18 : Int32)), .val (.int (8 : Int32)), .val (.ref w_NOT_FOUND)] [(.ref w_NOT_FOUND)])) rfl rfl (hb hby d1_21)
                  refine ogo st28 ?_
                  show OwnEnds _ _ _ _ _ _ _ (T28.setTop (mkF m 24 #[.val (.int qv), .val (.ref w_STATUSES), .val (.int (18 : Int32)), .val (.int (8 : Int32)), .val (.ref w_NOT_FOUND)] [(.int (36 : Int32))]))
                  refine ogo (fun t k => XS.iloadN X28.here hx rfl (hb hby d1_24) rfl k) ?_
                  show OwnEnds _ _ _ _ _ _ _ (T28.setTop (mkF m 25 #[.val (.int qv), .val (.ref w_STATUSES), .val (.int (18 : Int32)), .val (.int (8 : Int32)), .val (.ref w_NOT_FOUND)] [(.int qv), (.int (36 : Int32))]))
                  by_cases hc29 : qv = (36 : Int32)
                  · refine ogo (fun t k => XS.icmpNo X28.here hx rfl (hb hby d1_25) rfl (teq (Eq.symm hc29)).2 k) ?_
                    show OwnEnds _ _ _ _ _ _ _ (T28.setTop (mkF m 28 #[.val (.int qv), .val (.ref w_STATUSES), .val (.int (18 : Int32)), .val (.int (8 : Int32)), .val (.ref w_NOT_FOUND)] []))
                    refine ogo (fun t k => XS.aload X28.here hx rfl (hb hby d1_28) rfl rfl k) ?_
                    show OwnEnds _ _ _ _ _ _ _ (T28.setTop (mkF m 30 #[.val (.int qv), .val (.ref w_STATUSES), .val (.int (18 : Int32)), .val (.int (8 : Int32)), .val (.ref w_NOT_FOUND)] [(.ref w_NOT_FOUND)]))
                    refine endA X28 hx hlk Bd.returns rfl rfl (hb hby d1_30) (by decide) (by decide) ?_
                    show Q1 Z qv w_OK w_MOVED_PERMANENTLY w_FOUND w_NOT_MODIFIED w_BAD_REQUEST w_UNAUTHORIZED w_PAYMENT_REQUIRED w_FORBIDDEN w_NOT_FOUND w_REQUEST_TIMEOUT w_REQUEST_ENTITY_TOO_LARGE w_TOO_MANY_REQUESTS w_INTERNAL_SERVER_ERROR w_NOT_IMPLEMENTED w_BAD_GATEWAY w_SERVICE_UNAVAILABLE w_GATEWAY_TIMEOUT w_VERSION_NOT_SUPPORTED w_STATUSES h0 n0 _ T28.heap _
                    rw [e28]
                    exact ⟨by simp [own_of, hc5, hc8, hc11, hc14, hc17, hc20, hc23, hc26, hc29], N0, rfl⟩
                  · refine ogo (fun t k => XS.icmpYes X28.here hx rfl (pc0 := 25) (pc' := 31) rfl (hb hby d1_25) rfl (feq (fun q => hc29 (Eq.symm q))).2 (by decide) (by decide) k) ?_
                    show OwnEnds _ _ _ _ _ _ _ (T28.setTop (mkF m 31 #[.val (.int qv), .val (.ref w_STATUSES), .val (.int (18 : Int32)), .val (.int (8 : Int32)), .val (.ref w_NOT_FOUND)] []))
                    refine ogo (fun t k => XS.iinc X28.here hx rfl (hb hby d1_31) rfl (l' := #[.val (.int qv), .val (.ref w_STATUSES), .val (.int (18 : Int32)), .val (.int (9 : Int32)), .val (.ref w_NOT_FOUND)]) rfl k) ?_
                    show OwnEnds _ _ _ _ _ _ _ (T28.setTop (mkF m 34 #[.val (.int qv), .val (.ref w_STATUSES), .val (.int (18 : Int32)), .val (.int (9 : Int32)), .val (.ref w_NOT_FOUND)] []))
                    refine ogo (fun t k => XS.goto X28.here hx rfl (pc0 := 34) (pc' := 9) rfl (hb hby d1_34) (by decide) (by decide) k) ?_
                    show OwnEnds _ _ _ _ _ _ _ (T28.setTop (mkF m 9 #[.val (.int qv), .val (.ref w_STATUSES), .val (.int (18 : Int32)), .val (.int (9 : Int32)), .val (.ref w_NOT_FOUND)] []))
                    refine ogo (fun t k => XS.iloadN X28.here hx rfl (hb hby d1_9) rfl k) ?_
                    show OwnEnds _ _ _ _ _ _ _ (T28.setTop (mkF m 10 #[.val (.int qv), .val (.ref w_STATUSES), .val (.int (18 : Int32)), .val (.int (9 : Int32)), .val (.ref w_NOT_FOUND)] [(.int (9 : Int32))]))
                    refine ogo (fun t k => XS.iloadN X28.here hx rfl (hb hby d1_10) rfl k) ?_
                    show OwnEnds _ _ _ _ _ _ _ (T28.setTop (mkF m 11 #[.val (.int qv), .val (.ref w_STATUSES), .val (.int (18 : Int32)), .val (.int (9 : Int32)), .val (.ref w_NOT_FOUND)] [(.int (18 : Int32)), (.int (9 : Int32))]))
                    refine ogo (fun t k => XS.icmpNo X28.here hx rfl (hb hby d1_11) rfl (tlt (by decide : (9 : Int32) < (18 : Int32))).2.1 k) ?_
                    show OwnEnds _ _ _ _ _ _ _ (T28.setTop (mkF m 14 #[.val (.int qv), .val (.ref w_STATUSES), .val (.int (18 : Int32)), .val (.int (9 : Int32)), .val (.ref w_NOT_FOUND)] []))
                    refine ogo (fun t k => XS.aloadN X28.here hx rfl (hb hby d1_14) rfl rfl k) ?_
                    show OwnEnds _ _ _ _ _ _ _ (T28.setTop (mkF m 15 #[.val (.int qv), .val (.ref w_STATUSES), .val (.int (18 : Int32)), .val (.int (9 : Int32)), .val (.ref w_NOT_FOUND)] [(.ref w_STATUSES)]))
                    refine ogo (fun t k => XS.iloadN X28.here hx rfl (hb hby d1_15) rfl k) ?_
                    show OwnEnds _ _ _ _ _ _ _ (T28.setTop (mkF m 16 #[.val (.int qv), .val (.ref w_STATUSES), .val (.int (18 : Int32)), .val (.int (9 : Int32)), .val (.ref w_NOT_FOUND)] [(.int (9 : Int32)), (.ref w_STATUSES)]))
                    obtain ⟨ak30, cl30, Ar30, Aq30, As30, An30, Ah30, Ag30⟩ := id V_STATUSES
                    refine ogo (fun t k => X28.aaload hx (j := (9 : Int32)) (v := (.ref w_REQUEST_TIMEOUT)) (by rw [e28]; exact Ar30.1) (State.isArrayOf_alike hZ.alike Ar30.2.1) rfl Ar30.2.2 (inb_of As30 ⟨by decide, by decide⟩) (Ah30.at (inb_of As30 ⟨by decide, by decide⟩) rfl) (g := (mkF m 16 #[.val (.int qv), .val (.ref w_STATUSES), .val (.int (18 : Int32)), .val (.int (9 : Int32)), .val (.ref w_NOT_FOUND)] [(.int (9 : Int32)), (.ref w_STATUSES)])) rfl rfl (hb hby d1_16) t k) ?_
                    show OwnEnds _ _ _ _ _ _ _ (T28.setTop (mkF m 17 #[.val (.int qv), .val (.ref w_STATUSES), .val (.int (18 : Int32)), .val (.int (9 : Int32)), .val (.ref w_NOT_FOUND)] [(.ref w_REQUEST_TIMEOUT)]))
                    refine ogo (fun t k => XS.astore X28.here hx rfl (hb hby d1_17) rfl rfl (l' := #[.val (.int qv), .val (.ref w_STATUSES), .val (.int (18 : Int32)), .val (.int (9 : Int32)), .val (.ref w_REQUEST_TIMEOUT)]) rfl k) ?_
                    show OwnEnds _ _ _ _ _ _ _ (T28.setTop (mkF m 19 #[.val (.int qv), .val (.ref w_STATUSES), .val (.int (18 : Int32)), .val (.int (9 : Int32)), .val (.ref w_REQUEST_TIMEOUT)] []))
                    refine ogo (fun t k => XS.aload X28.here hx rfl (hb hby d1_19) rfl rfl k) ?_
                    show OwnEnds _ _ _ _ _ _ _ (T28.setTop (mkF m 21 #[.val (.int qv), .val (.ref w_STATUSES), .val (.int (18 : Int32)), .val (.int (9 : Int32)), .val (.ref w_REQUEST_TIMEOUT)] [(.ref w_REQUEST_TIMEOUT)]))
                    obtain ⟨T31, X31, e31, st31⟩ := getF X28 hx hZ hown (host := "") (Or.inl (hw _ (List.mem_of_getElem? (i := 7) rfl))) Via.refl e28 F_code_REQUEST_TIMEOUT (g := (mkF m 21 #[.val (.int qv), .val (.ref w_STATUSES), .val (.int (18 : Int32)), .val (.int (9 : Int32)), .val (.ref w_REQUEST_TIMEOUT)] [(.ref w_REQUEST_TIMEOUT)])) rfl rfl (hb hby d1_21)
                    refine ogo st31 ?_
                    show OwnEnds _ _ _ _ _ _ _ (T31.setTop (mkF m 24 #[.val (.int qv), .val (.ref w_STATUSES), .val (.int (18 : Int32)), .val (.int (9 : Int32)), .val (.ref w_REQUEST_TIMEOUT)] [(.int (37 : Int32))]))
                    refine ogo (fun t k => XS.iloadN X31.here hx rfl (hb hby d1_24) rfl k) ?_
                    show OwnEnds _ _ _ _ _ _ _ (T31.setTop (mkF m 25 #[.val (.int qv), .val (.ref w_STATUSES), .val (.int (18 : Int32)), .val (.int (9 : Int32)), .val (.ref w_REQUEST_TIMEOUT)] [(.int qv), (.int (37 : Int32))]))
                    by_cases hc32 : qv = (37 : Int32)
                    · refine ogo (fun t k => XS.icmpNo X31.here hx rfl (hb hby d1_25) rfl (teq (Eq.symm hc32)).2 k) ?_
                      show OwnEnds _ _ _ _ _ _ _ (T31.setTop (mkF m 28 #[.val (.int qv), .val (.ref w_STATUSES), .val (.int (18 : Int32)), .val (.int (9 : Int32)), .val (.ref w_REQUEST_TIMEOUT)] []))
                      refine ogo (fun t k => XS.aload X31.here hx rfl (hb hby d1_28) rfl rfl k) ?_
                      show OwnEnds _ _ _ _ _ _ _ (T31.setTop (mkF m 30 #[.val (.int qv), .val (.ref w_STATUSES), .val (.int (18 : Int32)), .val (.int (9 : Int32)), .val (.ref w_REQUEST_TIMEOUT)] [(.ref w_REQUEST_TIMEOUT)]))
                      refine endA X31 hx hlk Bd.returns rfl rfl (hb hby d1_30) (by decide) (by decide) ?_
                      show Q1 Z qv w_OK w_MOVED_PERMANENTLY w_FOUND w_NOT_MODIFIED w_BAD_REQUEST w_UNAUTHORIZED w_PAYMENT_REQUIRED w_FORBIDDEN w_NOT_FOUND w_REQUEST_TIMEOUT w_REQUEST_ENTITY_TOO_LARGE w_TOO_MANY_REQUESTS w_INTERNAL_SERVER_ERROR w_NOT_IMPLEMENTED w_BAD_GATEWAY w_SERVICE_UNAVAILABLE w_GATEWAY_TIMEOUT w_VERSION_NOT_SUPPORTED w_STATUSES h0 n0 _ T31.heap _
                      rw [e31]
                      exact ⟨by simp [own_of, hc5, hc8, hc11, hc14, hc17, hc20, hc23, hc26, hc29, hc32], N0, rfl⟩
                    · refine ogo (fun t k => XS.icmpYes X31.here hx rfl (pc0 := 25) (pc' := 31) rfl (hb hby d1_25) rfl (feq (fun q => hc32 (Eq.symm q))).2 (by decide) (by decide) k) ?_
                      show OwnEnds _ _ _ _ _ _ _ (T31.setTop (mkF m 31 #[.val (.int qv), .val (.ref w_STATUSES), .val (.int (18 : Int32)), .val (.int (9 : Int32)), .val (.ref w_REQUEST_TIMEOUT)] []))
                      refine ogo (fun t k => XS.iinc X31.here hx rfl (hb hby d1_31) rfl (l' := #[.val (.int qv), .val (.ref w_STATUSES), .val (.int (18 : Int32)), .val (.int (10 : Int32)), .val (.ref w_REQUEST_TIMEOUT)]) rfl k) ?_
                      show OwnEnds _ _ _ _ _ _ _ (T31.setTop (mkF m 34 #[.val (.int qv), .val (.ref w_STATUSES), .val (.int (18 : Int32)), .val (.int (10 : Int32)), .val (.ref w_REQUEST_TIMEOUT)] []))
                      refine ogo (fun t k => XS.goto X31.here hx rfl (pc0 := 34) (pc' := 9) rfl (hb hby d1_34) (by decide) (by decide) k) ?_
                      show OwnEnds _ _ _ _ _ _ _ (T31.setTop (mkF m 9 #[.val (.int qv), .val (.ref w_STATUSES), .val (.int (18 : Int32)), .val (.int (10 : Int32)), .val (.ref w_REQUEST_TIMEOUT)] []))
                      refine ogo (fun t k => XS.iloadN X31.here hx rfl (hb hby d1_9) rfl k) ?_
                      show OwnEnds _ _ _ _ _ _ _ (T31.setTop (mkF m 10 #[.val (.int qv), .val (.ref w_STATUSES), .val (.int (18 : Int32)), .val (.int (10 : Int32)), .val (.ref w_REQUEST_TIMEOUT)] [(.int (10 : Int32))]))
                      refine ogo (fun t k => XS.iloadN X31.here hx rfl (hb hby d1_10) rfl k) ?_
                      show OwnEnds _ _ _ _ _ _ _ (T31.setTop (mkF m 11 #[.val (.int qv), .val (.ref w_STATUSES), .val (.int (18 : Int32)), .val (.int (10 : Int32)), .val (.ref w_REQUEST_TIMEOUT)] [(.int (18 : Int32)), (.int (10 : Int32))]))
                      refine ogo (fun t k => XS.icmpNo X31.here hx rfl (hb hby d1_11) rfl (tlt (by decide : (10 : Int32) < (18 : Int32))).2.1 k) ?_
                      show OwnEnds _ _ _ _ _ _ _ (T31.setTop (mkF m 14 #[.val (.int qv), .val (.ref w_STATUSES), .val (.int (18 : Int32)), .val (.int (10 : Int32)), .val (.ref w_REQUEST_TIMEOUT)] []))
                      refine ogo (fun t k => XS.aloadN X31.here hx rfl (hb hby d1_14) rfl rfl k) ?_
                      show OwnEnds _ _ _ _ _ _ _ (T31.setTop (mkF m 15 #[.val (.int qv), .val (.ref w_STATUSES), .val (.int (18 : Int32)), .val (.int (10 : Int32)), .val (.ref w_REQUEST_TIMEOUT)] [(.ref w_STATUSES)]))
                      refine ogo (fun t k => XS.iloadN X31.here hx rfl (hb hby d1_15) rfl k) ?_
                      show OwnEnds _ _ _ _ _ _ _ (T31.setTop (mkF m 16 #[.val (.int qv), .val (.ref w_STATUSES), .val (.int (18 : Int32)), .val (.int (10 : Int32)), .val (.ref w_REQUEST_TIMEOUT)] [(.int (10 : Int32)), (.ref w_STATUSES)]))
                      obtain ⟨ak33, cl33, Ar33, Aq33, As33, An33, Ah33, Ag33⟩ := id V_STATUSES
                      refine ogo (fun t k => X31.aaload hx (j := (10 : Int32)) (v := (.ref w_REQUEST_ENTITY_TOO_LARGE)) (by rw [e31]; exact Ar33.1) (State.isArrayOf_alike hZ.alike Ar33.2.1) rfl Ar33.2.2 (inb_of As33 ⟨by decide, by decide⟩) (Ah33.at (inb_of As33 ⟨by decide, by decide⟩) rfl) (g := (mkF m 16 #[.val (.int qv), .val (.ref w_STATUSES), .val (.int (18 : Int32)), .val (.int (10 : Int32)), .val (.ref w_REQUEST_TIMEOUT)] [(.int (10 : Int32)), (.ref w_STATUSES)])) rfl rfl (hb hby d1_16) t k) ?_
                      show OwnEnds _ _ _ _ _ _ _ (T31.setTop (mkF m 17 #[.val (.int qv), .val (.ref w_STATUSES), .val (.int (18 : Int32)), .val (.int (10 : Int32)), .val (.ref w_REQUEST_TIMEOUT)] [(.ref w_REQUEST_ENTITY_TOO_LARGE)]))
                      refine ogo (fun t k => XS.astore X31.here hx rfl (hb hby d1_17) rfl rfl (l' := #[.val (.int qv), .val (.ref w_STATUSES), .val (.int (18 : Int32)), .val (.int (10 : Int32)), .val (.ref w_REQUEST_ENTITY_TOO_LARGE)]) rfl k) ?_
                      show OwnEnds _ _ _ _ _ _ _ (T31.setTop (mkF m 19 #[.val (.int qv), .val (.ref w_STATUSES), .val (.int (18 : Int32)), .val (.int (10 : Int32)), .val (.ref w_REQUEST_ENTITY_TOO_LARGE)] []))
                      refine ogo (fun t k => XS.aload X31.here hx rfl (hb hby d1_19) rfl rfl k) ?_
                      show OwnEnds _ _ _ _ _ _ _ (T31.setTop (mkF m 21 #[.val (.int qv), .val (.ref w_STATUSES), .val (.int (18 : Int32)), .val (.int (10 : Int32)), .val (.ref w_REQUEST_ENTITY_TOO_LARGE)] [(.ref w_REQUEST_ENTITY_TOO_LARGE)]))
                      obtain ⟨T34, X34, e34, st34⟩ := getF X31 hx hZ hown (host := "") (Or.inl (hw _ (List.mem_of_getElem? (i := 7) rfl))) Via.refl e31 F_code_REQUEST_ENTITY_TOO_LARGE (g := (mkF m 21 #[.val (.int qv), .val (.ref w_STATUSES), .val (.int (18 : Int32)), .val (.int (10 : Int32)), .val (.ref w_REQUEST_ENTITY_TOO_LARGE)] [(.ref w_REQUEST_ENTITY_TOO_LARGE)])) rfl rfl (hb hby d1_21)
                      refine ogo st34 ?_
                      show OwnEnds _ _ _ _ _ _ _ (T34.setTop (mkF m 24 #[.val (.int qv), .val (.ref w_STATUSES), .val (.int (18 : Int32)), .val (.int (10 : Int32)), .val (.ref w_REQUEST_ENTITY_TOO_LARGE)] [(.int (38 : Int32))]))
                      refine ogo (fun t k => XS.iloadN X34.here hx rfl (hb hby d1_24) rfl k) ?_
                      show OwnEnds _ _ _ _ _ _ _ (T34.setTop (mkF m 25 #[.val (.int qv), .val (.ref w_STATUSES), .val (.int (18 : Int32)), .val (.int (10 : Int32)), .val (.ref w_REQUEST_ENTITY_TOO_LARGE)] [(.int qv), (.int (38 : Int32))]))
                      by_cases hc35 : qv = (38 : Int32)
                      · refine ogo (fun t k => XS.icmpNo X34.here hx rfl (hb hby d1_25) rfl (teq (Eq.symm hc35)).2 k) ?_
                        show OwnEnds _ _ _ _ _ _ _ (T34.setTop (mkF m 28 #[.val (.int qv), .val (.ref w_STATUSES), .val (.int (18 : Int32)), .val (.int (10 : Int32)), .val (.ref w_REQUEST_ENTITY_TOO_LARGE)] []))
                        refine ogo (fun t k => XS.aload X34.here hx rfl (hb hby d1_28) rfl rfl k) ?_
                        show OwnEnds _ _ _ _ _ _ _ (T34.setTop (mkF m 30 #[.val (.int qv), .val (.ref w_STATUSES), .val (.int (18 : Int32)), .val (.int (10 : Int32)), .val (.ref w_REQUEST_ENTITY_TOO_LARGE)] [(.ref w_REQUEST_ENTITY_TOO_LARGE)]))
                        refine endA X34 hx hlk Bd.returns rfl rfl (hb hby d1_30) (by decide) (by decide) ?_
                        show Q1 Z qv w_OK w_MOVED_PERMANENTLY w_FOUND w_NOT_MODIFIED w_BAD_REQUEST w_UNAUTHORIZED w_PAYMENT_REQUIRED w_FORBIDDEN w_NOT_FOUND w_REQUEST_TIMEOUT w_REQUEST_ENTITY_TOO_LARGE w_TOO_MANY_REQUESTS w_INTERNAL_SERVER_ERROR w_NOT_IMPLEMENTED w_BAD_GATEWAY w_SERVICE_UNAVAILABLE w_GATEWAY_TIMEOUT w_VERSION_NOT_SUPPORTED w_STATUSES h0 n0 _ T34.heap _
                        rw [e34]
                        exact ⟨by simp [own_of, hc5, hc8, hc11, hc14, hc17, hc20, hc23, hc26, hc29, hc32, hc35], N0, rfl⟩
                      · refine ogo (fun t k => XS.icmpYes X34.here hx rfl (pc0 := 25) (pc' := 31) rfl (hb hby d1_25) rfl (feq (fun q => hc35 (Eq.symm q))).2 (by decide) (by decide) k) ?_
                        show OwnEnds _ _ _ _ _ _ _ (T34.setTop (mkF m 31 #[.val (.int qv), .val (.ref w_STATUSES), .val (.int (18 : Int32)), .val (.int (10 : Int32)), .val (.ref w_REQUEST_ENTITY_TOO_LARGE)] []))
                        refine ogo (fun t k => XS.iinc X34.here hx rfl (hb hby d1_31) rfl (l' := #[.val (.int qv), .val (.ref w_STATUSES), .val (.int (18 : Int32)), .val (.int (11 : Int32)), .val (.ref w_REQUEST_ENTITY_TOO_LARGE)]) rfl k) ?_
                        show OwnEnds _ _ _ _ _ _ _ (T34.setTop (mkF m 34 #[.val (.int qv), .val (.ref w_STATUSES), .val (.int (18 : Int32)), .val (.int (11 : Int32)), .val (.ref w_REQUEST_ENTITY_TOO_LARGE)] []))
                        refine ogo (fun t k => XS.goto X34.here hx rfl (pc0 := 34) (pc' := 9) rfl (hb hby d1_34) (by decide) (by decide) k) ?_
                        show OwnEnds _ _ _ _ _ _ _ (T34.setTop (mkF m 9 #[.val (.int qv), .val (.ref w_STATUSES), .val (.int (18 : Int32)), .val (.int (11 : Int32)), .val (.ref w_REQUEST_ENTITY_TOO_LARGE)] []))
                        refine ogo (fun t k => XS.iloadN X34.here hx rfl (hb hby d1_9) rfl k) ?_
                        show OwnEnds _ _ _ _ _ _ _ (T34.setTop (mkF m 10 #[.val (.int qv), .val (.ref w_STATUSES), .val (.int (18 : Int32)), .val (.int (11 : Int32)), .val (.ref w_REQUEST_ENTITY_TOO_LARGE)] [(.int (11 : Int32))]))
                        refine ogo (fun t k => XS.iloadN X34.here hx rfl (hb hby d1_10) rfl k) ?_
                        show OwnEnds _ _ _ _ _ _ _ (T34.setTop (mkF m 11 #[.val (.int qv), .val (.ref w_STATUSES), .val (.int (18 : Int32)), .val (.int (11 : Int32)), .val (.ref w_REQUEST_ENTITY_TOO_LARGE)] [(.int (18 : Int32)), (.int (11 : Int32))]))
                        refine ogo (fun t k => XS.icmpNo X34.here hx rfl (hb hby d1_11) rfl (tlt (by decide : (11 : Int32) < (18 : Int32))).2.1 k) ?_
                        show OwnEnds _ _ _ _ _ _ _ (T34.setTop (mkF m 14 #[.val (.int qv), .val (.ref w_STATUSES), .val (.int (18 : Int32)), .val (.int (11 : Int32)), .val (.ref w_REQUEST_ENTITY_TOO_LARGE)] []))
                        refine ogo (fun t k => XS.aloadN X34.here hx rfl (hb hby d1_14) rfl rfl k) ?_
                        show OwnEnds _ _ _ _ _ _ _ (T34.setTop (mkF m 15 #[.val (.int qv), .val (.ref w_STATUSES), .val (.int (18 : Int32)), .val (.int (11 : Int32)), .val (.ref w_REQUEST_ENTITY_TOO_LARGE)] [(.ref w_STATUSES)]))
                        refine ogo (fun t k => XS.iloadN X34.here hx rfl (hb hby d1_15) rfl k) ?_
                        show OwnEnds _ _ _ _ _ _ _ (T34.setTop (mkF m 16 #[.val (.int qv), .val (.ref w_STATUSES), .val (.int (18 : Int32)), .val (.int (11 : Int32)), .val (.ref w_REQUEST_ENTITY_TOO_LARGE)] [(.int (11 : Int32)), (.ref w_STATUSES)]))
                        obtain ⟨ak36, cl36, Ar36, Aq36, As36, An36, Ah36, Ag36⟩ := id V_STATUSES
                        refine ogo (fun t k => X34.aaload hx (j := (11 : Int32)) (v := (.ref w_TOO_MANY_REQUESTS)) (by rw [e34]; exact Ar36.1) (State.isArrayOf_alike hZ.alike Ar36.2.1) rfl Ar36.2.2 (inb_of As36 ⟨by decide, by decide⟩) (Ah36.at (inb_of As36 ⟨by decide, by decide⟩) rfl) (g := (mkF m 16 #[.val (.int qv), .val (.ref w_STATUSES), .val (.int (18 : Int32)), .val (.int (11 : Int32)), .val (.ref w_REQUEST_ENTITY_TOO_LARGE)] [(.int (11 : Int32)), (.ref w_STATUSES)])) rfl rfl (hb hby d1_16) t k) ?_
                        show OwnEnds _ _ _ _ _ _ _ (T34.setTop (mkF m 17 #[.val (.int qv), .val (.ref w_STATUSES), .val (.int (18 : Int32)), .val (.int (11 : Int32)), .val (.ref w_REQUEST_ENTITY_TOO_LARGE)] [(.ref w_TOO_MANY_REQUESTS)]))
                        refine ogo (fun t k => XS.astore X34.here hx rfl (hb hby d1_17) rfl rfl (l' := #[.val (.int qv), .val (.ref w_STATUSES), .val (.int (18 : Int32)), .val (.int (11 : Int32)), .val (.ref w_TOO_MANY_REQUESTS)]) rfl k) ?_
                        show OwnEnds _ _ _ _ _ _ _ (T34.setTop (mkF m 19 #[.val (.int qv), .val (.ref w_STATUSES), .val (.int (18 : Int32)), .val (.int (11 : Int32)), .val (.ref w_TOO_MANY_REQUESTS)] []))
                        refine ogo (fun t k => XS.aload X34.here hx rfl (hb hby d1_19) rfl rfl k) ?_
                        show OwnEnds _ _ _ _ _ _ _ (T34.setTop (mkF m 21 #[.val (.int qv), .val (.ref w_STATUSES), .val (.int (18 : Int32)), .val (.int (11 : Int32)), .val (.ref w_TOO_MANY_REQUESTS)] [(.ref w_TOO_MANY_REQUESTS)]))
                        obtain ⟨T37, X37, e37, st37⟩ := getF X34 hx hZ hown (host := "") (Or.inl (hw _ (List.mem_of_getElem? (i := 7) rfl))) Via.refl e34 F_code_TOO_MANY_REQUESTS (g := (mkF m 21 #[.val (.int qv), .val (.ref w_STATUSES), .val (.int (18 : Int32)), .val (.int (11 : Int32)), .val (.ref w_TOO_MANY_REQUESTS)] [(.ref w_TOO_MANY_REQUESTS)])) rfl rfl (hb hby d1_21)
                        refine ogo st37 ?_
                        show OwnEnds _ _ _ _ _ _ _ (T37.setTop (mkF m 24 #[.val (.int qv), .val (.ref w_STATUSES), .val (.int (18 : Int32)), .val (.int (11 : Int32)), .val (.ref w_TOO_MANY_REQUESTS)] [(.int (39 : Int32))]))
                        refine ogo (fun t k => XS.iloadN X37.here hx rfl (hb hby d1_24) rfl k) ?_
                        show OwnEnds _ _ _ _ _ _ _ (T37.setTop (mkF m 25 #[.val (.int qv), .val (.ref w_STATUSES), .val (.int (18 : Int32)), .val (.int (11 : Int32)), .val (.ref w_TOO_MANY_REQUESTS)] [(.int qv), (.int (39 : Int32))]))
                        by_cases hc38 : qv = (39 : Int32)
                        · refine ogo (fun t k => XS.icmpNo X37.here hx rfl (hb hby d1_25) rfl (teq (Eq.symm hc38)).2 k) ?_
                          show OwnEnds _ _ _ _ _ _ _ (T37.setTop (mkF m 28 #[.val (.int qv), .val (.ref w_STATUSES), .val (.int (18 : Int32)), .val (.int (11 : Int32)), .val (.ref w_TOO_MANY_REQUESTS)] []))
                          refine ogo (fun t k => XS.aload X37.here hx rfl (hb hby d1_28) rfl rfl k) ?_
                          show OwnEnds _ _ _ _ _ _ _ (T37.setTop (mkF m 30 #[.val (.int qv), .val (.ref w_STATUSES), .val (.int (18 : Int32)), .val (.int (11 : Int32)), .val (.ref w_TOO_MANY_REQUESTS)] [(.ref w_TOO_MANY_REQUESTS)]))
                          refine endA X37 hx hlk Bd.returns rfl rfl (hb hby d1_30) (by decide) (by decide) ?_
                          show Q1 Z qv w_OK w_MOVED_PERMANENTLY w_FOUND w_NOT_MODIFIED w_BAD_REQUEST w_UNAUTHORIZED w_PAYMENT_REQUIRED w_FORBIDDEN w_NOT_FOUND w_REQUEST_TIMEOUT w_REQUEST_ENTITY_TOO_LARGE w_TOO_MANY_REQUESTS w_INTERNAL_SERVER_ERROR w_NOT_IMPLEMENTED w_BAD_GATEWAY w_SERVICE_UNAVAILABLE w_GATEWAY_TIMEOUT w_VERSION_NOT_SUPPORTED w_STATUSES h0 n0 _ T37.heap _
                          rw [e37]
                          exact ⟨by simp [own_of, hc5, hc8, hc11, hc14, hc17, hc20, hc23, hc26, hc29, hc32, hc35, hc38], N0, rfl⟩
                        · refine ogo (fun t k => XS.icmpYes X37.here hx rfl (pc0 := 25) (pc' := 31) rfl (hb hby d1_25) rfl (feq (fun q => hc38 (Eq.symm q))).2 (by decide) (by decide) k) ?_
                          show OwnEnds _ _ _ _ _ _ _ (T37.setTop (mkF m 31 #[.val (.int qv), .val (.ref w_STATUSES), .val (.int (18 : Int32)), .val (.int (11 : Int32)), .val (.ref w_TOO_MANY_REQUESTS)] []))
                          refine ogo (fun t k => XS.iinc X37.here hx rfl (hb hby d1_31) rfl (l' := #[.val (.int qv), .val (.ref w_STATUSES), .val (.int (18 : Int32)), .val (.int (12 : Int32)), .val (.ref w_TOO_MANY_REQUESTS)]) rfl k) ?_
                          show OwnEnds _ _ _ _ _ _ _ (T37.setTop (mkF m 34 #[.val (.int qv), .val (.ref w_STATUSES), .val (.int (18 : Int32)), .val (.int (12 : Int32)), .val (.ref w_TOO_MANY_REQUESTS)] []))
                          refine ogo (fun t k => XS.goto X37.here hx rfl (pc0 := 34) (pc' := 9) rfl (hb hby d1_34) (by decide) (by decide) k) ?_
                          show OwnEnds _ _ _ _ _ _ _ (T37.setTop (mkF m 9 #[.val (.int qv), .val (.ref w_STATUSES), .val (.int (18 : Int32)), .val (.int (12 : Int32)), .val (.ref w_TOO_MANY_REQUESTS)] []))
                          refine ogo (fun t k => XS.iloadN X37.here hx rfl (hb hby d1_9) rfl k) ?_
                          show OwnEnds _ _ _ _ _ _ _ (T37.setTop (mkF m 10 #[.val (.int qv), .val (.ref w_STATUSES), .val (.int (18 : Int32)), .val (.int (12 : Int32)), .val (.ref w_TOO_MANY_REQUESTS)] [(.int (12 : Int32))]))
                          refine ogo (fun t k => XS.iloadN X37.here hx rfl (hb hby d1_10) rfl k) ?_
                          show OwnEnds _ _ _ _ _ _ _ (T37.setTop (mkF m 11 #[.val (.int qv), .val (.ref w_STATUSES), .val (.int (18 : Int32)), .val (.int (12 : Int32)), .val (.ref w_TOO_MANY_REQUESTS)] [(.int (18 : Int32)), (.int (12 : Int32))]))
                          refine ogo (fun t k => XS.icmpNo X37.here hx rfl (hb hby d1_11) rfl (tlt (by decide : (12 : Int32) < (18 : Int32))).2.1 k) ?_
                          show OwnEnds _ _ _ _ _ _ _ (T37.setTop (mkF m 14 #[.val (.int qv), .val (.ref w_STATUSES), .val (.int (18 : Int32)), .val (.int (12 : Int32)), .val (.ref w_TOO_MANY_REQUESTS)] []))
                          refine ogo (fun t k => XS.aloadN X37.here hx rfl (hb hby d1_14) rfl rfl k) ?_
                          show OwnEnds _ _ _ _ _ _ _ (T37.setTop (mkF m 15 #[.val (.int qv), .val (.ref w_STATUSES), .val (.int (18 : Int32)), .val (.int (12 : Int32)), .val (.ref w_TOO_MANY_REQUESTS)] [(.ref w_STATUSES)]))
                          refine ogo (fun t k => XS.iloadN X37.here hx rfl (hb hby d1_15) rfl k) ?_
                          show OwnEnds _ _ _ _ _ _ _ (T37.setTop (mkF m 16 #[.val (.int qv), .val (.ref w_STATUSES), .val (.int (18 : Int32)), .val (.int (12 : Int32)), .val (.ref w_TOO_MANY_REQUESTS)] [(.int (12 : Int32)), (.ref w_STATUSES)]))
                          obtain ⟨ak39, cl39, Ar39, Aq39, As39, An39, Ah39, Ag39⟩ := id V_STATUSES
                          refine ogo (fun t k => X37.aaload hx (j := (12 : Int32)) (v := (.ref w_INTERNAL_SERVER_ERROR)) (by rw [e37]; exact Ar39.1) (State.isArrayOf_alike hZ.alike Ar39.2.1) rfl Ar39.2.2 (inb_of As39 ⟨by decide, by decide⟩) (Ah39.at (inb_of As39 ⟨by decide, by decide⟩) rfl) (g := (mkF m 16 #[.val (.int qv), .val (.ref w_STATUSES), .val (.int (18 : Int32)), .val (.int (12 : Int32)), .val (.ref w_TOO_MANY_REQUESTS)] [(.int (12 : Int32)), (.ref w_STATUSES)])) rfl rfl (hb hby d1_16) t k) ?_
                          show OwnEnds _ _ _ _ _ _ _ (T37.setTop (mkF m 17 #[.val (.int qv), .val (.ref w_STATUSES), .val (.int (18 : Int32)), .val (.int (12 : Int32)), .val (.ref w_TOO_MANY_REQUESTS)] [(.ref w_INTERNAL_SERVER_ERROR)]))
                          refine ogo (fun t k => XS.astore X37.here hx rfl (hb hby d1_17) rfl rfl (l' := #[.val (.int qv), .val (.ref w_STATUSES), .val (.int (18 : Int32)), .val (.int (12 : Int32)), .val (.ref w_INTERNAL_SERVER_ERROR)]) rfl k) ?_
                          show OwnEnds _ _ _ _ _ _ _ (T37.setTop (mkF m 19 #[.val (.int qv), .val (.ref w_STATUSES), .val (.int (18 : Int32)), .val (.int (12 : Int32)), .val (.ref w_INTERNAL_SERVER_ERROR)] []))
                          refine ogo (fun t k => XS.aload X37.here hx rfl (hb hby d1_19) rfl rfl k) ?_
                          show OwnEnds _ _ _ _ _ _ _ (T37.setTop (mkF m 21 #[.val (.int qv), .val (.ref w_STATUSES), .val (.int (18 : Int32)), .val (.int (12 : Int32)), .val (.ref w_INTERNAL_SERVER_ERROR)] [(.ref w_INTERNAL_SERVER_ERROR)]))
                          obtain ⟨T40, X40, e40, st40⟩ := getF X37 hx hZ hown (host := "") (Or.inl (hw _ (List.mem_of_getElem? (i := 7) rfl))) Via.refl e37 F_code_INTERNAL_SERVER_ERROR (g := (mkF m 21 #[.val (.int qv), .val (.ref w_STATUSES), .val (.int (18 : Int32)), .val (.int (12 : Int32)), .val (.ref w_INTERNAL_SERVER_ERROR)] [(.ref w_INTERNAL_SERVER_ERROR)])) rfl rfl (hb hby d1_21)
                          refine ogo st40 ?_
                          show OwnEnds _ _ _ _ _ _ _ (T40.setTop (mkF m 24 #[.val (.int qv), .val (.ref w_STATUSES), .val (.int (18 : Int32)), .val (.int (12 : Int32)), .val (.ref w_INTERNAL_SERVER_ERROR)] [(.int (48 : Int32))]))
                          refine ogo (fun t k => XS.iloadN X40.here hx rfl (hb hby d1_24) rfl k) ?_
                          show OwnEnds _ _ _ _ _ _ _ (T40.setTop (mkF m 25 #[.val (.int qv), .val (.ref w_STATUSES), .val (.int (18 : Int32)), .val (.int (12 : Int32)), .val (.ref w_INTERNAL_SERVER_ERROR)] [(.int qv), (.int (48 : Int32))]))
                          by_cases hc41 : qv = (48 : Int32)
                          · refine ogo (fun t k => XS.icmpNo X40.here hx rfl (hb hby d1_25) rfl (teq (Eq.symm hc41)).2 k) ?_
                            show OwnEnds _ _ _ _ _ _ _ (T40.setTop (mkF m 28 #[.val (.int qv), .val (.ref w_STATUSES), .val (.int (18 : Int32)), .val (.int (12 : Int32)), .val (.ref w_INTERNAL_SERVER_ERROR)] []))
                            refine ogo (fun t k => XS.aload X40.here hx rfl (hb hby d1_28) rfl rfl k) ?_
                            show OwnEnds _ _ _ _ _ _ _ (T40.setTop (mkF m 30 #[.val (.int qv), .val (.ref w_STATUSES), .val (.int (18 : Int32)), .val (.int (12 : Int32)), .val (.ref w_INTERNAL_SERVER_ERROR)] [(.ref w_INTERNAL_SERVER_ERROR)]))
                            refine endA X40 hx hlk Bd.returns rfl rfl (hb hby d1_30) (by decide) (by decide) ?_
                            show Q1 Z qv w_OK w_MOVED_PERMANENTLY w_FOUND w_NOT_MODIFIED w_BAD_REQUEST w_UNAUTHORIZED w_PAYMENT_REQUIRED w_FORBIDDEN w_NOT_FOUND w_REQUEST_TIMEOUT w_REQUEST_ENTITY_TOO_LARGE w_TOO_MANY_REQUESTS w_INTERNAL_SERVER_ERROR w_NOT_IMPLEMENTED w_BAD_GATEWAY w_SERVICE_UNAVAILABLE w_GATEWAY_TIMEOUT w_VERSION_NOT_SUPPORTED w_STATUSES h0 n0 _ T40.heap _
                            rw [e40]
                            exact ⟨by simp [own_of, hc5, hc8, hc11, hc14, hc17, hc20, hc23, hc26, hc29, hc32, hc35, hc38, hc41], N0, rfl⟩
                          · refine ogo (fun t k => XS.icmpYes X40.here hx rfl (pc0 := 25) (pc' := 31) rfl (hb hby d1_25) rfl (feq (fun q => hc41 (Eq.symm q))).2 (by decide) (by decide) k) ?_
                            show OwnEnds _ _ _ _ _ _ _ (T40.setTop (mkF m 31 #[.val (.int qv), .val (.ref w_STATUSES), .val (.int (18 : Int32)), .val (.int (12 : Int32)), .val (.ref w_INTERNAL_SERVER_ERROR)] []))
                            refine ogo (fun t k => XS.iinc X40.here hx rfl (hb hby d1_31) rfl (l' := #[.val (.int qv), .val (.ref w_STATUSES), .val (.int (18 : Int32)), .val (.int (13 : Int32)), .val (.ref w_INTERNAL_SERVER_ERROR)]) rfl k) ?_
                            show OwnEnds _ _ _ _ _ _ _ (T40.setTop (mkF m 34 #[.val (.int qv), .val (.ref w_STATUSES), .val (.int (18 : Int32)), .val (.int (13 : Int32)), .val (.ref w_INTERNAL_SERVER_ERROR)] []))
                            refine ogo (fun t k => XS.goto X40.here hx rfl (pc0 := 34) (pc' := 9) rfl (hb hby d1_34) (by decide) (by decide) k) ?_
                            show OwnEnds _ _ _ _ _ _ _ (T40.setTop (mkF m 9 #[.val (.int qv), .val (.ref w_STATUSES), .val (.int (18 : Int32)), .val (.int (13 : Int32)), .val (.ref w_INTERNAL_SERVER_ERROR)] []))
                            refine ogo (fun t k => XS.iloadN X40.here hx rfl (hb hby d1_9) rfl k) ?_
                            show OwnEnds _ _ _ _ _ _ _ (T40.setTop (mkF m 10 #[.val (.int qv), .val (.ref w_STATUSES), .val (.int (18 : Int32)), .val (.int (13 : Int32)), .val (.ref w_INTERNAL_SERVER_ERROR)] [(.int (13 : Int32))]))
                            refine ogo (fun t k => XS.iloadN X40.here hx rfl (hb hby d1_10) rfl k) ?_
                            show OwnEnds _ _ _ _ _ _ _ (T40.setTop (mkF m 11 #[.val (.int qv), .val (.ref w_STATUSES), .val (.int (18 : Int32)), .val (.int (13 : Int32)), .val (.ref w_INTERNAL_SERVER_ERROR)] [(.int (18 : Int32)), (.int (13 : Int32))]))
                            refine ogo (fun t k => XS.icmpNo X40.here hx rfl (hb hby d1_11) rfl (tlt (by decide : (13 : Int32) < (18 : Int32))).2.1 k) ?_
                            show OwnEnds _ _ _ _ _ _ _ (T40.setTop (mkF m 14 #[.val (.int qv), .val (.ref w_STATUSES), .val (.int (18 : Int32)), .val (.int (13 : Int32)), .val (.ref w_INTERNAL_SERVER_ERROR)] []))
                            refine ogo (fun t k => XS.aloadN X40.here hx rfl (hb hby d1_14) rfl rfl k) ?_
                            show OwnEnds _ _ _ _ _ _ _ (T40.setTop (mkF m 15 #[.val (.int qv), .val (.ref w_STATUSES), .val (.int (18 : Int32)), .val (.int (13 : Int32)), .val (.ref w_INTERNAL_SERVER_ERROR)] [(.ref w_STATUSES)]))
                            refine ogo (fun t k => XS.iloadN X40.here hx rfl (hb hby d1_15) rfl k) ?_
                            show OwnEnds _ _ _ _ _ _ _ (T40.setTop (mkF m 16 #[.val (.int qv), .val (.ref w_STATUSES), .val (.int (18 : Int32)), .val (.int (13 : Int32)), .val (.ref w_INTERNAL_SERVER_ERROR)] [(.int (13 : Int32)), (.ref w_STATUSES)]))
                            obtain ⟨ak42, cl42, Ar42, Aq42, As42, An42, Ah42, Ag42⟩ := id V_STATUSES
                            refine ogo (fun t k => X40.aaload hx (j := (13 : Int32)) (v := (.ref w_NOT_IMPLEMENTED)) (by rw [e40]; exact Ar42.1) (State.isArrayOf_alike hZ.alike Ar42.2.1) rfl Ar42.2.2 (inb_of As42 ⟨by decide, by decide⟩) (Ah42.at (inb_of As42 ⟨by decide, by decide⟩) rfl) (g := (mkF m 16 #[.val (.int qv), .val (.ref w_STATUSES), .val (.int (18 : Int32)), .val (.int (13 : Int32)), .val (.ref w_INTERNAL_SERVER_ERROR)] [(.int (13 : Int32)), (.ref w_STATUSES)])) rfl rfl (hb hby d1_16) t k) ?_
                            show OwnEnds _ _ _ _ _ _ _ (T40.setTop (mkF m 17 #[.val (.int qv), .val (.ref w_STATUSES), .val (.int (18 : Int32)), .val (.int (13 : Int32)), .val (.ref w_INTERNAL_SERVER_ERROR)] [(.ref w_NOT_IMPLEMENTED)]))
                            refine ogo (fun t k => XS.astore X40.here hx rfl (hb hby d1_17) rfl rfl (l' := #[.val (.int qv), .val (.ref w_STATUSES), .val (.int (18 : Int32)), .val (.int (13 : Int32)), .val (.ref w_NOT_IMPLEMENTED)]) rfl k) ?_
                            show OwnEnds _ _ _ _ _ _ _ (T40.setTop (mkF m 19 #[.val (.int qv), .val (.ref w_STATUSES), .val (.int (18 : Int32)), .val (.int (13 : Int32)), .val (.ref w_NOT_IMPLEMENTED)] []))
                            refine ogo (fun t k => XS.aload X40.here hx rfl (hb hby d1_19) rfl rfl k) ?_
                            show OwnEnds _ _ _ _ _ _ _ (T40.setTop (mkF m 21 #[.val (.int qv), .val (.ref w_STATUSES), .val (.int (18 : Int32)), .val (.int (13 : Int32)), .val (.ref w_NOT_IMPLEMENTED)] [(.ref w_NOT_IMPLEMENTED)]))
                            obtain ⟨T43, X43, e43, st43⟩ := getF X40 hx hZ hown (host := "") (Or.inl (hw _ (List.mem_of_getElem? (i := 7) rfl))) Via.refl e40 F_code_NOT_IMPLEMENTED (g := (mkF m 21 #[.val (.int qv), .val (.ref w_STATUSES), .val (.int (18 : Int32)), .val (.int (13 : Int32)), .val (.ref w_NOT_IMPLEMENTED)] [(.ref w_NOT_IMPLEMENTED)])) rfl rfl (hb hby d1_21)
                            refine ogo st43 ?_
                            show OwnEnds _ _ _ _ _ _ _ (T43.setTop (mkF m 24 #[.val (.int qv), .val (.ref w_STATUSES), .val (.int (18 : Int32)), .val (.int (13 : Int32)), .val (.ref w_NOT_IMPLEMENTED)] [(.int (49 : Int32))]))
                            refine ogo (fun t k => XS.iloadN X43.here hx rfl (hb hby d1_24) rfl k) ?_
                            show OwnEnds _ _ _ _ _ _ _ (T43.setTop (mkF m 25 #[.val (.int qv), .val (.ref w_STATUSES), .val (.int (18 : Int32)), .val (.int (13 : Int32)), .val (.ref w_NOT_IMPLEMENTED)] [(.int qv), (.int (49 : Int32))]))
                            by_cases hc44 : qv = (49 : Int32)
                            · refine ogo (fun t k => XS.icmpNo X43.here hx rfl (hb hby d1_25) rfl (teq (Eq.symm hc44)).2 k) ?_
                              show OwnEnds _ _ _ _ _ _ _ (T43.setTop (mkF m 28 #[.val (.int qv), .val (.ref w_STATUSES), .val (.int (18 : Int32)), .val (.int (13 : Int32)), .val (.ref w_NOT_IMPLEMENTED)] []))
                              refine ogo (fun t k => XS.aload X43.here hx rfl (hb hby d1_28) rfl rfl k) ?_
                              show OwnEnds _ _ _ _ _ _ _ (T43.setTop (mkF m 30 #[.val (.int qv), .val (.ref w_STATUSES), .val (.int (18 : Int32)), .val (.int (13 : Int32)), .val (.ref w_NOT_IMPLEMENTED)] [(.ref w_NOT_IMPLEMENTED)]))
                              refine endA X43 hx hlk Bd.returns rfl rfl (hb hby d1_30) (by decide) (by decide) ?_
                              show Q1 Z qv w_OK w_MOVED_PERMANENTLY w_FOUND w_NOT_MODIFIED w_BAD_REQUEST w_UNAUTHORIZED w_PAYMENT_REQUIRED w_FORBIDDEN w_NOT_FOUND w_REQUEST_TIMEOUT w_REQUEST_ENTITY_TOO_LARGE w_TOO_MANY_REQUESTS w_INTERNAL_SERVER_ERROR w_NOT_IMPLEMENTED w_BAD_GATEWAY w_SERVICE_UNAVAILABLE w_GATEWAY_TIMEOUT w_VERSION_NOT_SUPPORTED w_STATUSES h0 n0 _ T43.heap _
                              rw [e43]
                              exact ⟨by simp [own_of, hc5, hc8, hc11, hc14, hc17, hc20, hc23, hc26, hc29, hc32, hc35, hc38, hc41, hc44], N0, rfl⟩
                            · refine ogo (fun t k => XS.icmpYes X43.here hx rfl (pc0 := 25) (pc' := 31) rfl (hb hby d1_25) rfl (feq (fun q => hc44 (Eq.symm q))).2 (by decide) (by decide) k) ?_
                              show OwnEnds _ _ _ _ _ _ _ (T43.setTop (mkF m 31 #[.val (.int qv), .val (.ref w_STATUSES), .val (.int (18 : Int32)), .val (.int (13 : Int32)), .val (.ref w_NOT_IMPLEMENTED)] []))
                              refine ogo (fun t k => XS.iinc X43.here hx rfl (hb hby d1_31) rfl (l' := #[.val (.int qv), .val (.ref w_STATUSES), .val (.int (18 : Int32)), .val (.int (14 : Int32)), .val (.ref w_NOT_IMPLEMENTED)]) rfl k) ?_
                              show OwnEnds _ _ _ _ _ _ _ (T43.setTop (mkF m 34 #[.val (.int qv), .val (.ref w_STATUSES), .val (.int (18 : Int32)), .val (.int (14 : Int32)), .val (.ref w_NOT_IMPLEMENTED)] []))
                              refine ogo (fun t k => XS.goto X43.here hx rfl (pc0 := 34) (pc' := 9) rfl (hb hby d1_34) (by decide) (by decide) k) ?_
                              show OwnEnds _ _ _ _ _ _ _ (T43.setTop (mkF m 9 #[.val (.int qv), .val (.ref w_STATUSES), .val (.int (18 : Int32)), .val (.int (14 : Int32)), .val (.ref w_NOT_IMPLEMENTED)] []))
                              refine ogo (fun t k => XS.iloadN X43.here hx rfl (hb hby d1_9) rfl k) ?_
                              show OwnEnds _ _ _ _ _ _ _ (T43.setTop (mkF m 10 #[.val (.int qv), .val (.ref w_STATUSES), .val (.int (18 : Int32)), .val (.int (14 : Int32)), .val (.ref w_NOT_IMPLEMENTED)] [(.int (14 : Int32))]))
                              refine ogo (fun t k => XS.iloadN X43.here hx rfl (hb hby d1_10) rfl k) ?_
                              show OwnEnds _ _ _ _ _ _ _ (T43.setTop (mkF m 11 #[.val (.int qv), .val (.ref w_STATUSES), .val (.int (18 : Int32)), .val (.int (14 : Int32)), .val (.ref w_NOT_IMPLEMENTED)] [(.int (18 : Int32)), (.int (14 : Int32))]))
                              refine ogo (fun t k => XS.icmpNo X43.here hx rfl (hb hby d1_11) rfl (tlt (by decide : (14 : Int32) < (18 : Int32))).2.1 k) ?_
                              show OwnEnds _ _ _ _ _ _ _ (T43.setTop (mkF m 14 #[.val (.int qv), .val (.ref w_STATUSES), .val (.int (18 : Int32)), .val (.int (14 : Int32)), .val (.ref w_NOT_IMPLEMENTED)] []))
                              refine ogo (fun t k => XS.aloadN X43.here hx rfl (hb hby d1_14) rfl rfl k) ?_
                              show OwnEnds _ _ _ _ _ _ _ (T43.setTop (mkF m 15 #[.val (.int qv), .val (.ref w_STATUSES), .val (.int (18 : Int32)), .val (.int (14 : Int32)), .val (.ref w_NOT_IMPLEMENTED)] [(.ref w_STATUSES)]))
                              refine ogo (fun t k => XS.iloadN X43.here hx rfl (hb hby d1_15) rfl k) ?_
                              show OwnEnds _ _ _ _ _ _ _ (T43.setTop (mkF m 16 #[.val (.int qv), .val (.ref w_STATUSES), .val (.int (18 : Int32)), .val (.int (14 : Int32)), .val (.ref w_NOT_IMPLEMENTED)] [(.int (14 : Int32)), (.ref w_STATUSES)]))
                              obtain ⟨ak45, cl45, Ar45, Aq45, As45, An45, Ah45, Ag45⟩ := id V_STATUSES
                              refine ogo (fun t k => X43.aaload hx (j := (14 : Int32)) (v := (.ref w_BAD_GATEWAY)) (by rw [e43]; exact Ar45.1) (State.isArrayOf_alike hZ.alike Ar45.2.1) rfl Ar45.2.2 (inb_of As45 ⟨by decide, by decide⟩) (Ah45.at (inb_of As45 ⟨by decide, by decide⟩) rfl) (g := (mkF m 16 #[.val (.int qv), .val (.ref w_STATUSES), .val (.int (18 : Int32)), .val (.int (14 : Int32)), .val (.ref w_NOT_IMPLEMENTED)] [(.int (14 : Int32)), (.ref w_STATUSES)])) rfl rfl (hb hby d1_16) t k) ?_
                              show OwnEnds _ _ _ _ _ _ _ (T43.setTop (mkF m 17 #[.val (.int qv), .val (.ref w_STATUSES), .val (.int (18 : Int32)), .val (.int (14 : Int32)), .val (.ref w_NOT_IMPLEMENTED)] [(.ref w_BAD_GATEWAY)]))
                              refine ogo (fun t k => XS.astore X43.here hx rfl (hb hby d1_17) rfl rfl (l' := #[.val (.int qv), .val (.ref w_STATUSES), .val (.int (18 : Int32)), .val (.int (14 : Int32)), .val (.ref w_BAD_GATEWAY)]) rfl k) ?_
                              show OwnEnds _ _ _ _ _ _ _ (T43.setTop (mkF m 19 #[.val (.int qv), .val (.ref w_STATUSES), .val (.int (18 : Int32)), .val (.int (14 : Int32)), .val (.ref w_BAD_GATEWAY)] []))
                              refine ogo (fun t k => XS.aload X43.here hx rfl (hb hby d1_19) rfl rfl k) ?_
                              show OwnEnds _ _ _ _ _ _ _ (T43.setTop (mkF m 21 #[.val (.int qv), .val (.ref w_STATUSES), .val (.int (18 : Int32)), .val (.int (14 : Int32)), .val (.ref w_BAD_GATEWAY)] [(.ref w_BAD_GATEWAY)]))
                              obtain ⟨T46, X46, e46, st46⟩ := getF X43 hx hZ hown (host := "") (Or.inl (hw _ (List.mem_of_getElem? (i := 7) rfl))) Via.refl e43 F_code_BAD_GATEWAY (g := (mkF m 21 #[.val (.int qv), .val (.ref w_STATUSES), .val (.int (18 : Int32)), .val (.int (14 : Int32)), .val (.ref w_BAD_GATEWAY)] [(.ref w_BAD_GATEWAY)])) rfl rfl (hb hby d1_21)
                              refine ogo st46 ?_
                              show OwnEnds _ _ _ _ _ _ _ (T46.setTop (mkF m 24 #[.val (.int qv), .val (.ref w_STATUSES), .val (.int (18 : Int32)), .val (.int (14 : Int32)), .val (.ref w_BAD_GATEWAY)] [(.int (50 : Int32))]))
                              refine ogo (fun t k => XS.iloadN X46.here hx rfl (hb hby d1_24) rfl k) ?_
                              show OwnEnds _ _ _ _ _ _ _ (T46.setTop (mkF m 25 #[.val (.int qv), .val (.ref w_STATUSES), .val (.int (18 : Int32)), .val (.int (14 : Int32)), .val (.ref w_BAD_GATEWAY)] [(.int qv), (.int (50 : Int32))]))
                              by_cases hc47 : qv = (50 : Int32)
                              · refine ogo (fun t k => XS.icmpNo X46.here hx rfl (hb hby d1_25) rfl (teq (Eq.symm hc47)).2 k) ?_
                                show OwnEnds _ _ _ _ _ _ _ (T46.setTop (mkF m 28 #[.val (.int qv), .val (.ref w_STATUSES), .val (.int (18 : Int32)), .val (.int (14 : Int32)), .val (.ref w_BAD_GATEWAY)] []))
                                refine ogo (fun t k => XS.aload X46.here hx rfl (hb hby d1_28) rfl rfl k) ?_
                                show OwnEnds _ _ _ _ _ _ _ (T46.setTop (mkF m 30 #[.val (.int qv), .val (.ref w_STATUSES), .val (.int (18 : Int32)), .val (.int (14 : Int32)), .val (.ref w_BAD_GATEWAY)] [(.ref w_BAD_GATEWAY)]))
                                refine endA X46 hx hlk Bd.returns rfl rfl (hb hby d1_30) (by decide) (by decide) ?_
                                show Q1 Z qv w_OK w_MOVED_PERMANENTLY w_FOUND w_NOT_MODIFIED w_BAD_REQUEST w_UNAUTHORIZED w_PAYMENT_REQUIRED w_FORBIDDEN w_NOT_FOUND w_REQUEST_TIMEOUT w_REQUEST_ENTITY_TOO_LARGE w_TOO_MANY_REQUESTS w_INTERNAL_SERVER_ERROR w_NOT_IMPLEMENTED w_BAD_GATEWAY w_SERVICE_UNAVAILABLE w_GATEWAY_TIMEOUT w_VERSION_NOT_SUPPORTED w_STATUSES h0 n0 _ T46.heap _
                                rw [e46]
                                exact ⟨by simp [own_of, hc5, hc8, hc11, hc14, hc17, hc20, hc23, hc26, hc29, hc32, hc35, hc38, hc41, hc44, hc47], N0, rfl⟩
                              · refine ogo (fun t k => XS.icmpYes X46.here hx rfl (pc0 := 25) (pc' := 31) rfl (hb hby d1_25) rfl (feq (fun q => hc47 (Eq.symm q))).2 (by decide) (by decide) k) ?_
                                show OwnEnds _ _ _ _ _ _ _ (T46.setTop (mkF m 31 #[.val (.int qv), .val (.ref w_STATUSES), .val (.int (18 : Int32)), .val (.int (14 : Int32)), .val (.ref w_BAD_GATEWAY)] []))
                                refine ogo (fun t k => XS.iinc X46.here hx rfl (hb hby d1_31) rfl (l' := #[.val (.int qv), .val (.ref w_STATUSES), .val (.int (18 : Int32)), .val (.int (15 : Int32)), .val (.ref w_BAD_GATEWAY)]) rfl k) ?_
                                show OwnEnds _ _ _ _ _ _ _ (T46.setTop (mkF m 34 #[.val (.int qv), .val (.ref w_STATUSES), .val (.int (18 : Int32)), .val (.int (15 : Int32)), .val (.ref w_BAD_GATEWAY)] []))
                                refine ogo (fun t k => XS.goto X46.here hx rfl (pc0 := 34) (pc' := 9) rfl (hb hby d1_34) (by decide) (by decide) k) ?_
                                show OwnEnds _ _ _ _ _ _ _ (T46.setTop (mkF m 9 #[.val (.int qv), .val (.ref w_STATUSES), .val (.int (18 : Int32)), .val (.int (15 : Int32)), .val (.ref w_BAD_GATEWAY)] []))
                                refine ogo (fun t k => XS.iloadN X46.here hx rfl (hb hby d1_9) rfl k) ?_
                                show OwnEnds _ _ _ _ _ _ _ (T46.setTop (mkF m 10 #[.val (.int qv), .val (.ref w_STATUSES), .val (.int (18 : Int32)), .val (.int (15 : Int32)), .val (.ref w_BAD_GATEWAY)] [(.int (15 : Int32))]))
                                refine ogo (fun t k => XS.iloadN X46.here hx rfl (hb hby d1_10) rfl k) ?_
                                show OwnEnds _ _ _ _ _ _ _ (T46.setTop (mkF m 11 #[.val (.int qv), .val (.ref w_STATUSES), .val (.int (18 : Int32)), .val (.int (15 : Int32)), .val (.ref w_BAD_GATEWAY)] [(.int (18 : Int32)), (.int (15 : Int32))]))
                                refine ogo (fun t k => XS.icmpNo X46.here hx rfl (hb hby d1_11) rfl (tlt (by decide : (15 : Int32) < (18 : Int32))).2.1 k) ?_
                                show OwnEnds _ _ _ _ _ _ _ (T46.setTop (mkF m 14 #[.val (.int qv), .val (.ref w_STATUSES), .val (.int (18 : Int32)), .val (.int (15 : Int32)), .val (.ref w_BAD_GATEWAY)] []))
                                refine ogo (fun t k => XS.aloadN X46.here hx rfl (hb hby d1_14) rfl rfl k) ?_
                                show OwnEnds _ _ _ _ _ _ _ (T46.setTop (mkF m 15 #[.val (.int qv), .val (.ref w_STATUSES), .val (.int (18 : Int32)), .val (.int (15 : Int32)), .val (.ref w_BAD_GATEWAY)] [(.ref w_STATUSES)]))
                                refine ogo (fun t k => XS.iloadN X46.here hx rfl (hb hby d1_15) rfl k) ?_
                                show OwnEnds _ _ _ _ _ _ _ (T46.setTop (mkF m 16 #[.val (.int qv), .val (.ref w_STATUSES), .val (.int (18 : Int32)), .val (.int (15 : Int32)), .val (.ref w_BAD_GATEWAY)] [(.int (15 : Int32)), (.ref w_STATUSES)]))
                                obtain ⟨ak48, cl48, Ar48, Aq48, As48, An48, Ah48, Ag48⟩ := id V_STATUSES
                                refine ogo (fun t k => X46.aaload hx (j := (15 : Int32)) (v := (.ref w_SERVICE_UNAVAILABLE)) (by rw [e46]; exact Ar48.1) (State.isArrayOf_alike hZ.alike Ar48.2.1) rfl Ar48.2.2 (inb_of As48 ⟨by decide, by decide⟩) (Ah48.at (inb_of As48 ⟨by decide, by decide⟩) rfl) (g := (mkF m 16 #[.val (.int qv), .val (.ref w_STATUSES), .val (.int (18 : Int32)), .val (.int (15 : Int32)), .val (.ref w_BAD_GATEWAY)] [(.int (15 : Int32)), (.ref w_STATUSES)])) rfl rfl (hb hby d1_16) t k) ?_
                                show OwnEnds _ _ _ _ _ _ _ (T46.setTop (mkF m 17 #[.val (.int qv), .val (.ref w_STATUSES), .val (.int (18 : Int32)), .val (.int (15 : Int32)), .val (.ref w_BAD_GATEWAY)] [(.ref w_SERVICE_UNAVAILABLE)]))
                                refine ogo (fun t k => XS.astore X46.here hx rfl (hb hby d1_17) rfl rfl (l' := #[.val (.int qv), .val (.ref w_STATUSES), .val (.int (18 : Int32)), .val (.int (15 : Int32)), .val (.ref w_SERVICE_UNAVAILABLE)]) rfl k) ?_
                                show OwnEnds _ _ _ _ _ _ _ (T46.setTop (mkF m 19 #[.val (.int qv), .val (.ref w_STATUSES), .val (.int (18 : Int32)), .val (.int (15 : Int32)), .val (.ref w_SERVICE_UNAVAILABLE)] []))
                                refine ogo (fun t k => XS.aload X46.here hx rfl (hb hby d1_19) rfl rfl k) ?_
                                show OwnEnds _ _ _ _ _ _ _ (T46.setTop (mkF m 21 #[.val (.int qv), .val (.ref w_STATUSES), .val (.int (18 : Int32)), .val (.int (15 : Int32)), .val (.ref w_SERVICE_UNAVAILABLE)] [(.ref w_SERVICE_UNAVAILABLE)]))
                                obtain ⟨T49, X49, e49, st49⟩ := getF X46 hx hZ hown (host := "") (Or.inl (hw _ (List.mem_of_getElem? (i := 7) rfl))) Via.refl e46 F_code_SERVICE_UNAVAILABLE (g := (mkF m 21 #[.val (.int qv), .val (.ref w_STATUSES), .val (.int (18 : Int32)), .val (.int (15 : Int32)), .val (.ref w_SERVICE_UNAVAILABLE)] [(.ref w_SERVICE_UNAVAILABLE)])) rfl rfl (hb hby d1_21)
                                refine ogo st49 ?_
                                show OwnEnds _ _ _ _ _ _ _ (T49.setTop (mkF m 24 #[.val (.int qv), .val (.ref w_STATUSES), .val (.int (18 : Int32)), .val (.int (15 : Int32)), .val (.ref w_SERVICE_UNAVAILABLE)] [(.int (51 : Int32))]))
                                refine ogo (fun t k => XS.iloadN X49.here hx rfl (hb hby d1_24) rfl k) ?_
                                show OwnEnds _ _ _ _ _ _ _ (T49.setTop (mkF m 25 #[.val (.int qv), .val (.ref w_STATUSES), .val (.int (18 : Int32)), .val (.int (15 : Int32)), .val (.ref w_SERVICE_UNAVAILABLE)] [(.int qv), (.int (51 : Int32))]))
                                by_cases hc50 : qv = (51 : Int32)
                                · refine ogo (fun t k => XS.icmpNo X49.here hx rfl (hb hby d1_25) rfl (teq (Eq.symm hc50)).2 k) ?_
                                  show OwnEnds _ _ _ _ _ _ _ (T49.setTop (mkF m 28 #[.val (.int qv), .val (.ref w_STATUSES), .val (.int (18 : Int32)), .val (.int (15 : Int32)), .val (.ref w_SERVICE_UNAVAILABLE)] []))
                                  refine ogo (fun t k => XS.aload X49.here hx rfl (hb hby d1_28) rfl rfl k) ?_
                                  show OwnEnds _ _ _ _ _ _ _ (T49.setTop (mkF m 30 #[.val (.int qv), .val (.ref w_STATUSES), .val (.int (18 : Int32)), .val (.int (15 : Int32)), .val (.ref w_SERVICE_UNAVAILABLE)] [(.ref w_SERVICE_UNAVAILABLE)]))
                                  refine endA X49 hx hlk Bd.returns rfl rfl (hb hby d1_30) (by decide) (by decide) ?_
                                  show Q1 Z qv w_OK w_MOVED_PERMANENTLY w_FOUND w_NOT_MODIFIED w_BAD_REQUEST w_UNAUTHORIZED w_PAYMENT_REQUIRED w_FORBIDDEN w_NOT_FOUND w_REQUEST_TIMEOUT w_REQUEST_ENTITY_TOO_LARGE w_TOO_MANY_REQUESTS w_INTERNAL_SERVER_ERROR w_NOT_IMPLEMENTED w_BAD_GATEWAY w_SERVICE_UNAVAILABLE w_GATEWAY_TIMEOUT w_VERSION_NOT_SUPPORTED w_STATUSES h0 n0 _ T49.heap _
                                  rw [e49]
                                  exact ⟨by simp [own_of, hc5, hc8, hc11, hc14, hc17, hc20, hc23, hc26, hc29, hc32, hc35, hc38, hc41, hc44, hc47, hc50], N0, rfl⟩
                                · refine ogo (fun t k => XS.icmpYes X49.here hx rfl (pc0 := 25) (pc' := 31) rfl (hb hby d1_25) rfl (feq (fun q => hc50 (Eq.symm q))).2 (by decide) (by decide) k) ?_
                                  show OwnEnds _ _ _ _ _ _ _ (T49.setTop (mkF m 31 #[.val (.int qv), .val (.ref w_STATUSES), .val (.int (18 : Int32)), .val (.int (15 : Int32)), .val (.ref w_SERVICE_UNAVAILABLE)] []))
                                  refine ogo (fun t k => XS.iinc X49.here hx rfl (hb hby d1_31) rfl (l' := #[.val (.int qv), .val (.ref w_STATUSES), .val (.int (18 : Int32)), .val (.int (16 : Int32)), .val (.ref w_SERVICE_UNAVAILABLE)]) rfl k) ?_
                                  show OwnEnds _ _ _ _ _ _ _ (T49.setTop (mkF m 34 #[.val (.int qv), .val (.ref w_STATUSES), .val (.int (18 : Int32)), .val (.int (16 : Int32)), .val (.ref w_SERVICE_UNAVAILABLE)] []))
                                  refine ogo (fun t k => XS.goto X49.here hx rfl (pc0 := 34) (pc' := 9) rfl (hb hby d1_34) (by decide) (by decide) k) ?_
                                  show OwnEnds _ _ _ _ _ _ _ (T49.setTop (mkF m 9 #[.val (.int qv), .val (.ref w_STATUSES), .val (.int (18 : Int32)), .val (.int (16 : Int32)), .val (.ref w_SERVICE_UNAVAILABLE)] []))
                                  refine ogo (fun t k => XS.iloadN X49.here hx rfl (hb hby d1_9) rfl k) ?_
                                  show OwnEnds _ _ _ _ _ _ _ (T49.setTop (mkF m 10 #[.val (.int qv), .val (.ref w_STATUSES), .val (.int (18 : Int32)), .val (.int (16 : Int32)), .val (.ref w_SERVICE_UNAVAILABLE)] [(.int (16 : Int32))]))
                                  refine ogo (fun t k => XS.iloadN X49.here hx rfl (hb hby d1_10) rfl k) ?_
                                  show OwnEnds _ _ _ _ _ _ _ (T49.setTop (mkF m 11 #[.val (.int qv), .val (.ref w_STATUSES), .val (.int (18 : Int32)), .val (.int (16 : Int32)), .val (.ref w_SERVICE_UNAVAILABLE)] [(.int (18 : Int32)), (.int (16 : Int32))]))
                                  refine ogo (fun t k => XS.icmpNo X49.here hx rfl (hb hby d1_11) rfl (tlt (by decide : (16 : Int32) < (18 : Int32))).2.1 k) ?_
                                  show OwnEnds _ _ _ _ _ _ _ (T49.setTop (mkF m 14 #[.val (.int qv), .val (.ref w_STATUSES), .val (.int (18 : Int32)), .val (.int (16 : Int32)), .val (.ref w_SERVICE_UNAVAILABLE)] []))
                                  refine ogo (fun t k => XS.aloadN X49.here hx rfl (hb hby d1_14) rfl rfl k) ?_
                                  show OwnEnds _ _ _ _ _ _ _ (T49.setTop (mkF m 15 #[.val (.int qv), .val (.ref w_STATUSES), .val (.int (18 : Int32)), .val (.int (16 : Int32)), .val (.ref w_SERVICE_UNAVAILABLE)] [(.ref w_STATUSES)]))
                                  refine ogo (fun t k => XS.iloadN X49.here hx rfl (hb hby d1_15) rfl k) ?_
                                  show OwnEnds _ _ _ _ _ _ _ (T49.setTop (mkF m 16 #[.val (.int qv), .val (.ref w_STATUSES), .val (.int (18 : Int32)), .val (.int (16 : Int32)), .val (.ref w_SERVICE_UNAVAILABLE)] [(.int (16 : Int32)), (.ref w_STATUSES)]))
                                  obtain ⟨ak51, cl51, Ar51, Aq51, As51, An51, Ah51, Ag51⟩ := id V_STATUSES
                                  refine ogo (fun t k => X49.aaload hx (j := (16 : Int32)) (v := (.ref w_GATEWAY_TIMEOUT)) (by rw [e49]; exact Ar51.1) (State.isArrayOf_alike hZ.alike Ar51.2.1) rfl Ar51.2.2 (inb_of As51 ⟨by decide, by decide⟩) (Ah51.at (inb_of As51 ⟨by decide, by decide⟩) rfl) (g := (mkF m 16 #[.val (.int qv), .val (.ref w_STATUSES), .val (.int (18 : Int32)), .val (.int (16 : Int32)), .val (.ref w_SERVICE_UNAVAILABLE)] [(.int (16 : Int32)), (.ref w_STATUSES)])) rfl rfl (hb hby d1_16) t k) ?_
                                  show OwnEnds _ _ _ _ _ _ _ (T49.setTop (mkF m 17 #[.val (.int qv), .val (.ref w_STATUSES), .val (.int (18 : Int32)), .val (.int (16 : Int32)), .val (.ref w_SERVICE_UNAVAILABLE)] [(.ref w_GATEWAY_TIMEOUT)]))
                                  refine ogo (fun t k => XS.astore X49.here hx rfl (hb hby d1_17) rfl rfl (l' := #[.val (.int qv), .val (.ref w_STATUSES), .val (.int (18 : Int32)), .val (.int (16 : Int32)), .val (.ref w_GATEWAY_TIMEOUT)]) rfl k) ?_
                                  show OwnEnds _ _ _ _ _ _ _ (T49.setTop (mkF m 19 #[.val (.int qv), .val (.ref w_STATUSES), .val (.int (18 : Int32)), .val (.int (16 : Int32)), .val (.ref w_GATEWAY_TIMEOUT)] []))
                                  refine ogo (fun t k => XS.aload X49.here hx rfl (hb hby d1_19) rfl rfl k) ?_
                                  show OwnEnds _ _ _ _ _ _ _ (T49.setTop (mkF m 21 #[.val (.int qv), .val (.ref w_STATUSES), .val (.int (18 : Int32)), .val (.int (16 : Int32)), .val (.ref w_GATEWAY_TIMEOUT)] [(.ref w_GATEWAY_TIMEOUT)]))
                                  obtain ⟨T52, X52, e52, st52⟩ := getF X49 hx hZ hown (host := "") (Or.inl (hw _ (List.mem_of_getElem? (i := 7) rfl))) Via.refl e49 F_code_GATEWAY_TIMEOUT (g := (mkF m 21 #[.val (.int qv), .val (.ref w_STATUSES), .val (.int (18 : Int32)), .val (.int (16 : Int32)), .val (.ref w_GATEWAY_TIMEOUT)] [(.ref w_GATEWAY_TIMEOUT)])) rfl rfl (hb hby d1_21)
                                  refine ogo st52 ?_
                                  show OwnEnds _ _ _ _ _ _ _ (T52.setTop (mkF m 24 #[.val (.int qv), .val (.ref w_STATUSES), .val (.int (18 : Int32)), .val (.int (16 : Int32)), .val (.ref w_GATEWAY_TIMEOUT)] [(.int (52 : Int32))]))
                                  refine ogo (fun t k => XS.iloadN X52.here hx rfl (hb hby d1_24) rfl k) ?_
                                  show OwnEnds _ _ _ _ _ _ _ (T52.setTop (mkF m 25 #[.val (.int qv), .val (.ref w_STATUSES), .val (.int (18 : Int32)), .val (.int (16 : Int32)), .val (.ref w_GATEWAY_TIMEOUT)] [(.int qv), (.int (52 : Int32))]))
                                  by_cases hc53 : qv = (52 : Int32)
                                  · refine ogo (fun t k => XS.icmpNo X52.here hx rfl (hb hby d1_25) rfl (teq (Eq.symm hc53)).2 k) ?_
                                    show OwnEnds _ _ _ _ _ _ _ (T52.setTop (mkF m 28 #[.val (.int qv), .val (.ref w_STATUSES), .val (.int (18 : Int32)), .val (.int (16 : Int32)), .val (.ref w_GATEWAY_TIMEOUT)] []))
                                    refine ogo (fun t k => XS.aload X52.here hx rfl (hb hby d1_28) rfl rfl k) ?_
                                    show OwnEnds _ _ _ _ _ _ _ (T52.setTop (mkF m 30 #[.val (.int qv), .val (.ref w_STATUSES), .val (.int (18 : Int32)), .val (.int (16 : Int32)), .val (.ref w_GATEWAY_TIMEOUT)] [(.ref w_GATEWAY_TIMEOUT)]))
                                    refine endA X52 hx hlk Bd.returns rfl rfl (hb hby d1_30) (by decide) (by decide) ?_
                                    show Q1 Z qv w_OK w_MOVED_PERMANENTLY w_FOUND w_NOT_MODIFIED w_BAD_REQUEST w_UNAUTHORIZED w_PAYMENT_REQUIRED w_FORBIDDEN w_NOT_FOUND w_REQUEST_TIMEOUT w_REQUEST_ENTITY_TOO_LARGE w_TOO_MANY_REQUESTS w_INTERNAL_SERVER_ERROR w_NOT_IMPLEMENTED w_BAD_GATEWAY w_SERVICE_UNAVAILABLE w_GATEWAY_TIMEOUT w_VERSION_NOT_SUPPORTED w_STATUSES h0 n0 _ T52.heap _
                                    rw [e52]
                                    exact ⟨by simp [own_of, hc5, hc8, hc11, hc14, hc17, hc20, hc23, hc26, hc29, hc32, hc35, hc38, hc41, hc44, hc47, hc50, hc53], N0, rfl⟩
                                  · refine ogo (fun t k => XS.icmpYes X52.here hx rfl (pc0 := 25) (pc' := 31) rfl (hb hby d1_25) rfl (feq (fun q => hc53 (Eq.symm q))).2 (by decide) (by decide) k) ?_
                                    show OwnEnds _ _ _ _ _ _ _ (T52.setTop (mkF m 31 #[.val (.int qv), .val (.ref w_STATUSES), .val (.int (18 : Int32)), .val (.int (16 : Int32)), .val (.ref w_GATEWAY_TIMEOUT)] []))
                                    refine ogo (fun t k => XS.iinc X52.here hx rfl (hb hby d1_31) rfl (l' := #[.val (.int qv), .val (.ref w_STATUSES), .val (.int (18 : Int32)), .val (.int (17 : Int32)), .val (.ref w_GATEWAY_TIMEOUT)]) rfl k) ?_
                                    show OwnEnds _ _ _ _ _ _ _ (T52.setTop (mkF m 34 #[.val (.int qv), .val (.ref w_STATUSES), .val (.int (18 : Int32)), .val (.int (17 : Int32)), .val (.ref w_GATEWAY_TIMEOUT)] []))
                                    refine ogo (fun t k => XS.goto X52.here hx rfl (pc0 := 34) (pc' := 9) rfl (hb hby d1_34) (by decide) (by decide) k) ?_
                                    show OwnEnds _ _ _ _ _ _ _ (T52.setTop (mkF m 9 #[.val (.int qv), .val (.ref w_STATUSES), .val (.int (18 : Int32)), .val (.int (17 : Int32)), .val (.ref w_GATEWAY_TIMEOUT)] []))
                                    refine ogo (fun t k => XS.iloadN X52.here hx rfl (hb hby d1_9) rfl k) ?_
                                    show OwnEnds _ _ _ _ _ _ _ (T52.setTop (mkF m 10 #[.val (.int qv), .val (.ref w_STATUSES), .val (.int (18 : Int32)), .val (.int (17 : Int32)), .val (.ref w_GATEWAY_TIMEOUT)] [(.int (17 : Int32))]))
                                    refine ogo (fun t k => XS.iloadN X52.here hx rfl (hb hby d1_10) rfl k) ?_
                                    show OwnEnds _ _ _ _ _ _ _ (T52.setTop (mkF m 11 #[.val (.int qv), .val (.ref w_STATUSES), .val (.int (18 : Int32)), .val (.int (17 : Int32)), .val (.ref w_GATEWAY_TIMEOUT)] [(.int (18 : Int32)), (.int (17 : Int32))]))
                                    refine ogo (fun t k => XS.icmpNo X52.here hx rfl (hb hby d1_11) rfl (tlt (by decide : (17 : Int32) < (18 : Int32))).2.1 k) ?_
                                    show OwnEnds _ _ _ _ _ _ _ (T52.setTop (mkF m 14 #[.val (.int qv), .val (.ref w_STATUSES), .val (.int (18 : Int32)), .val (.int (17 : Int32)), .val (.ref w_GATEWAY_TIMEOUT)] []))
                                    refine ogo (fun t k => XS.aloadN X52.here hx rfl (hb hby d1_14) rfl rfl k) ?_
                                    show OwnEnds _ _ _ _ _ _ _ (T52.setTop (mkF m 15 #[.val (.int qv), .val (.ref w_STATUSES), .val (.int (18 : Int32)), .val (.int (17 : Int32)), .val (.ref w_GATEWAY_TIMEOUT)] [(.ref w_STATUSES)]))
                                    refine ogo (fun t k => XS.iloadN X52.here hx rfl (hb hby d1_15) rfl k) ?_
                                    show OwnEnds _ _ _ _ _ _ _ (T52.setTop (mkF m 16 #[.val (.int qv), .val (.ref w_STATUSES), .val (.int (18 : Int32)), .val (.int (17 : Int32)), .val (.ref w_GATEWAY_TIMEOUT)] [(.int (17 : Int32)), (.ref w_STATUSES)]))
                                    obtain ⟨ak54, cl54, Ar54, Aq54, As54, An54, Ah54, Ag54⟩ := id V_STATUSES
                                    refine ogo (fun t k => X52.aaload hx (j := (17 : Int32)) (v := (.ref w_VERSION_NOT_SUPPORTED)) (by rw [e52]; exact Ar54.1) (State.isArrayOf_alike hZ.alike Ar54.2.1) rfl Ar54.2.2 (inb_of As54 ⟨by decide, by decide⟩) (Ah54.at (inb_of As54 ⟨by decide, by decide⟩) rfl) (g := (mkF m 16 #[.val (.int qv), .val (.ref w_STATUSES), .val (.int (18 : Int32)), .val (.int (17 : Int32)), .val (.ref w_GATEWAY_TIMEOUT)] [(.int (17 : Int32)), (.ref w_STATUSES)])) rfl rfl (hb hby d1_16) t k) ?_
                                    show OwnEnds _ _ _ _ _ _ _ (T52.setTop (mkF m 17 #[.val (.int qv), .val (.ref w_STATUSES), .val (.int (18 : Int32)), .val (.int (17 : Int32)), .val (.ref w_GATEWAY_TIMEOUT)] [(.ref w_VERSION_NOT_SUPPORTED)]))
                                    refine ogo (fun t k => XS.astore X52.here hx rfl (hb hby d1_17) rfl rfl (l' := #[.val (.int qv), .val (.ref w_STATUSES), .val (.int (18 : Int32)), .val (.int (17 : Int32)), .val (.ref w_VERSION_NOT_SUPPORTED)]) rfl k) ?_
                                    show OwnEnds _ _ _ _ _ _ _ (T52.setTop (mkF m 19 #[.val (.int qv), .val (.ref w_STATUSES), .val (.int (18 : Int32)), .val (.int (17 : Int32)), .val (.ref w_VERSION_NOT_SUPPORTED)] []))
                                    refine ogo (fun t k => XS.aload X52.here hx rfl (hb hby d1_19) rfl rfl k) ?_
                                    show OwnEnds _ _ _ _ _ _ _ (T52.setTop (mkF m 21 #[.val (.int qv), .val (.ref w_STATUSES), .val (.int (18 : Int32)), .val (.int (17 : Int32)), .val (.ref w_VERSION_NOT_SUPPORTED)] [(.ref w_VERSION_NOT_SUPPORTED)]))
                                    obtain ⟨T55, X55, e55, st55⟩ := getF X52 hx hZ hown (host := "") (Or.inl (hw _ (List.mem_of_getElem? (i := 7) rfl))) Via.refl e52 F_code_VERSION_NOT_SUPPORTED (g := (mkF m 21 #[.val (.int qv), .val (.ref w_STATUSES), .val (.int (18 : Int32)), .val (.int (17 : Int32)), .val (.ref w_VERSION_NOT_SUPPORTED)] [(.ref w_VERSION_NOT_SUPPORTED)])) rfl rfl (hb hby d1_21)
                                    refine ogo st55 ?_
                                    show OwnEnds _ _ _ _ _ _ _ (T55.setTop (mkF m 24 #[.val (.int qv), .val (.ref w_STATUSES), .val (.int (18 : Int32)), .val (.int (17 : Int32)), .val (.ref w_VERSION_NOT_SUPPORTED)] [(.int (53 : Int32))]))
                                    refine ogo (fun t k => XS.iloadN X55.here hx rfl (hb hby d1_24) rfl k) ?_
                                    show OwnEnds _ _ _ _ _ _ _ (T55.setTop (mkF m 25 #[.val (.int qv), .val (.ref w_STATUSES), .val (.int (18 : Int32)), .val (.int (17 : Int32)), .val (.ref w_VERSION_NOT_SUPPORTED)] [(.int qv), (.int (53 : Int32))]))
                                    by_cases hc56 : qv = (53 : Int32)
                                    · refine ogo (fun t k => XS.icmpNo X55.here hx rfl (hb hby d1_25) rfl (teq (Eq.symm hc56)).2 k) ?_
                                      show OwnEnds _ _ _ _ _ _ _ (T55.setTop (mkF m 28 #[.val (.int qv), .val (.ref w_STATUSES), .val (.int (18 : Int32)), .val (.int (17 : Int32)), .val (.ref w_VERSION_NOT_SUPPORTED)] []))
                                      refine ogo (fun t k => XS.aload X55.here hx rfl (hb hby d1_28) rfl rfl k) ?_
                                      show OwnEnds _ _ _ _ _ _ _ (T55.setTop (mkF m 30 #[.val (.int qv), .val (.ref w_STATUSES), .val (.int (18 : Int32)), .val (.int (17 : Int32)), .val (.ref w_VERSION_NOT_SUPPORTED)] [(.ref w_VERSION_NOT_SUPPORTED)]))
                                      refine endA X55 hx hlk Bd.returns rfl rfl (hb hby d1_30) (by decide) (by decide) ?_
                                      show Q1 Z qv w_OK w_MOVED_PERMANENTLY w_FOUND w_NOT_MODIFIED w_BAD_REQUEST w_UNAUTHORIZED w_PAYMENT_REQUIRED w_FORBIDDEN w_NOT_FOUND w_REQUEST_TIMEOUT w_REQUEST_ENTITY_TOO_LARGE w_TOO_MANY_REQUESTS w_INTERNAL_SERVER_ERROR w_NOT_IMPLEMENTED w_BAD_GATEWAY w_SERVICE_UNAVAILABLE w_GATEWAY_TIMEOUT w_VERSION_NOT_SUPPORTED w_STATUSES h0 n0 _ T55.heap _
                                      rw [e55]
                                      exact ⟨by simp [own_of, hc5, hc8, hc11, hc14, hc17, hc20, hc23, hc26, hc29, hc32, hc35, hc38, hc41, hc44, hc47, hc50, hc53, hc56], N0, rfl⟩
                                    · refine ogo (fun t k => XS.icmpYes X55.here hx rfl (pc0 := 25) (pc' := 31) rfl (hb hby d1_25) rfl (feq (fun q => hc56 (Eq.symm q))).2 (by decide) (by decide) k) ?_
                                      show OwnEnds _ _ _ _ _ _ _ (T55.setTop (mkF m 31 #[.val (.int qv), .val (.ref w_STATUSES), .val (.int (18 : Int32)), .val (.int (17 : Int32)), .val (.ref w_VERSION_NOT_SUPPORTED)] []))
                                      refine ogo (fun t k => XS.iinc X55.here hx rfl (hb hby d1_31) rfl (l' := #[.val (.int qv), .val (.ref w_STATUSES), .val (.int (18 : Int32)), .val (.int (18 : Int32)), .val (.ref w_VERSION_NOT_SUPPORTED)]) rfl k) ?_
                                      show OwnEnds _ _ _ _ _ _ _ (T55.setTop (mkF m 34 #[.val (.int qv), .val (.ref w_STATUSES), .val (.int (18 : Int32)), .val (.int (18 : Int32)), .val (.ref w_VERSION_NOT_SUPPORTED)] []))
                                      refine ogo (fun t k => XS.goto X55.here hx rfl (pc0 := 34) (pc' := 9) rfl (hb hby d1_34) (by decide) (by decide) k) ?_
                                      show OwnEnds _ _ _ _ _ _ _ (T55.setTop (mkF m 9 #[.val (.int qv), .val (.ref w_STATUSES), .val (.int (18 : Int32)), .val (.int (18 : Int32)), .val (.ref w_VERSION_NOT_SUPPORTED)] []))
                                      refine ogo (fun t k => XS.iloadN X55.here hx rfl (hb hby d1_9) rfl k) ?_
                                      show OwnEnds _ _ _ _ _ _ _ (T55.setTop (mkF m 10 #[.val (.int qv), .val (.ref w_STATUSES), .val (.int (18 : Int32)), .val (.int (18 : Int32)), .val (.ref w_VERSION_NOT_SUPPORTED)] [(.int (18 : Int32))]))
                                      refine ogo (fun t k => XS.iloadN X55.here hx rfl (hb hby d1_10) rfl k) ?_
                                      show OwnEnds _ _ _ _ _ _ _ (T55.setTop (mkF m 11 #[.val (.int qv), .val (.ref w_STATUSES), .val (.int (18 : Int32)), .val (.int (18 : Int32)), .val (.ref w_VERSION_NOT_SUPPORTED)] [(.int (18 : Int32)), (.int (18 : Int32))]))
                                      refine ogo (fun t k => XS.icmpYes X55.here hx rfl (pc0 := 11) (pc' := 37) rfl (hb hby d1_11) rfl (flt (by decide : ¬ ((18 : Int32) < (18 : Int32)))).2.1 (by decide) (by decide) k) ?_
                                      show OwnEnds _ _ _ _ _ _ _ (T55.setTop (mkF m 37 #[.val (.int qv), .val (.ref w_STATUSES), .val (.int (18 : Int32)), .val (.int (18 : Int32)), .val (.ref w_VERSION_NOT_SUPPORTED)] []))
                                      refine ogo (fun t k => XS.aconstNull X55.here hx rfl (hb hby d1_37) k) ?_
                                      show OwnEnds _ _ _ _ _ _ _ (T55.setTop (mkF m 38 #[.val (.int qv), .val (.ref w_STATUSES), .val (.int (18 : Int32)), .val (.int (18 : Int32)), .val (.ref w_VERSION_NOT_SUPPORTED)] [.null]))
                                      refine endA X55 hx hlk Bd.returns rfl rfl (hb hby d1_38) (by decide) (by decide) ?_
                                      show Q1 Z qv w_OK w_MOVED_PERMANENTLY w_FOUND w_NOT_MODIFIED w_BAD_REQUEST w_UNAUTHORIZED w_PAYMENT_REQUIRED w_FORBIDDEN w_NOT_FOUND w_REQUEST_TIMEOUT w_REQUEST_ENTITY_TOO_LARGE w_TOO_MANY_REQUESTS w_INTERNAL_SERVER_ERROR w_NOT_IMPLEMENTED w_BAD_GATEWAY w_SERVICE_UNAVAILABLE w_GATEWAY_TIMEOUT w_VERSION_NOT_SUPPORTED w_STATUSES h0 n0 _ T55.heap _
                                      rw [e55]
                                      exact ⟨by simp [own_of, hc5, hc8, hc11, hc14, hc17, hc20, hc23, hc26, hc29, hc32, hc35, hc38, hc41, hc44, hc47, hc50, hc53, hc56], N0, rfl⟩
theorem d2_0 : decode method_3_code 0 = .ok (.iload_n 0, 1) := by decide +kernel
theorem d2_1 : decode method_3_code 1 = .ok (.ifCond .ne 7, 3) := by decide +kernel
theorem d2_4 : decode method_3_code 4 = .ok (.getstatic 18, 3) := by decide +kernel
theorem d2_7 : decode method_3_code 7 = .ok (.areturn, 1) := by decide +kernel
theorem d2_8 : decode method_3_code 8 = .ok (.iload_n 0, 1) := by decide +kernel
theorem d2_9 : decode method_3_code 9 = .ok (.bipush 16, 2) := by decide +kernel
theorem d2_11 : decode method_3_code 11 = .ok (.if_icmp .lt 33, 3) := by decide +kernel
theorem d2_14 : decode method_3_code 14 = .ok (.iload_n 0, 1) := by decide +kernel
theorem d2_15 : decode method_3_code 15 = .ok (.bipush 18, 2) := by decide +kernel
theorem d2_17 : decode method_3_code 17 = .ok (.if_icmp .gt 27, 3) := by decide +kernel
theorem d2_20 : decode method_3_code 20 = .ok (.iload_n 0, 1) := by decide +kernel
theorem d2_21 : decode method_3_code 21 = .ok (.bipush 16, 2) := by decide +kernel
theorem d2_23 : decode method_3_code 23 = .ok (.if_icmp .ne 7, 3) := by decide +kernel
theorem d2_26 : decode method_3_code 26 = .ok (.getstatic 22, 3) := by decide +kernel
theorem d2_29 : decode method_3_code 29 = .ok (.areturn, 1) := by decide +kernel
theorem d2_30 : decode method_3_code 30 = .ok (.iload_n 0, 1) := by decide +kernel
theorem d2_31 : decode method_3_code 31 = .ok (.bipush 17, 2) := by decide +kernel
theorem d2_33 : decode method_3_code 33 = .ok (.if_icmp .ne 7, 3) := by decide +kernel
theorem d2_36 : decode method_3_code 36 = .ok (.getstatic 25, 3) := by decide +kernel
theorem d2_39 : decode method_3_code 39 = .ok (.areturn, 1) := by decide +kernel
theorem d2_40 : decode method_3_code 40 = .ok (.getstatic 28, 3) := by decide +kernel
theorem d2_43 : decode method_3_code 43 = .ok (.areturn, 1) := by decide +kernel
theorem d2_44 : decode method_3_code 44 = .ok (.iload_n 0, 1) := by decide +kernel
theorem d2_45 : decode method_3_code 45 = .ok (.bipush 32, 2) := by decide +kernel
theorem d2_47 : decode method_3_code 47 = .ok (.if_icmp .lt 83, 3) := by decide +kernel
theorem d2_50 : decode method_3_code 50 = .ok (.iload_n 0, 1) := by decide +kernel
theorem d2_51 : decode method_3_code 51 = .ok (.bipush 39, 2) := by decide +kernel
theorem d2_53 : decode method_3_code 53 = .ok (.if_icmp .gt 77, 3) := by decide +kernel
theorem d2_56 : decode method_3_code 56 = .ok (.iload_n 0, 1) := by decide +kernel
theorem d2_57 : decode method_3_code 57 = .ok (.bipush 32, 2) := by decide +kernel
theorem d2_59 : decode method_3_code 59 = .ok (.if_icmp .ne 7, 3) := by decide +kernel
theorem d2_62 : decode method_3_code 62 = .ok (.getstatic 31, 3) := by decide +kernel
theorem d2_65 : decode method_3_code 65 = .ok (.areturn, 1) := by decide +kernel
theorem d2_66 : decode method_3_code 66 = .ok (.iload_n 0, 1) := by decide +kernel
theorem d2_67 : decode method_3_code 67 = .ok (.bipush 33, 2) := by decide +kernel
theorem d2_69 : decode method_3_code 69 = .ok (.if_icmp .ne 7, 3) := by decide +kernel
theorem d2_72 : decode method_3_code 72 = .ok (.getstatic 34, 3) := by decide +kernel
theorem d2_75 : decode method_3_code 75 = .ok (.areturn, 1) := by decide +kernel
theorem d2_76 : decode method_3_code 76 = .ok (.iload_n 0, 1) := by decide +kernel
theorem d2_77 : decode method_3_code 77 = .ok (.bipush 34, 2) := by decide +kernel
theorem d2_79 : decode method_3_code 79 = .ok (.if_icmp .ne 7, 3) := by decide +kernel
theorem d2_82 : decode method_3_code 82 = .ok (.getstatic 37, 3) := by decide +kernel
theorem d2_85 : decode method_3_code 85 = .ok (.areturn, 1) := by decide +kernel
theorem d2_86 : decode method_3_code 86 = .ok (.iload_n 0, 1) := by decide +kernel
theorem d2_87 : decode method_3_code 87 = .ok (.bipush 35, 2) := by decide +kernel
theorem d2_89 : decode method_3_code 89 = .ok (.if_icmp .ne 7, 3) := by decide +kernel
theorem d2_92 : decode method_3_code 92 = .ok (.getstatic 40, 3) := by decide +kernel
theorem d2_95 : decode method_3_code 95 = .ok (.areturn, 1) := by decide +kernel
theorem d2_96 : decode method_3_code 96 = .ok (.iload_n 0, 1) := by decide +kernel
theorem d2_97 : decode method_3_code 97 = .ok (.bipush 36, 2) := by decide +kernel
theorem d2_99 : decode method_3_code 99 = .ok (.if_icmp .ne 7, 3) := by decide +kernel
theorem d2_102 : decode method_3_code 102 = .ok (.getstatic 43, 3) := by decide +kernel
theorem d2_105 : decode method_3_code 105 = .ok (.areturn, 1) := by decide +kernel
theorem d2_106 : decode method_3_code 106 = .ok (.iload_n 0, 1) := by decide +kernel
theorem d2_107 : decode method_3_code 107 = .ok (.bipush 37, 2) := by decide +kernel
theorem d2_109 : decode method_3_code 109 = .ok (.if_icmp .ne 7, 3) := by decide +kernel
theorem d2_112 : decode method_3_code 112 = .ok (.getstatic 46, 3) := by decide +kernel
theorem d2_115 : decode method_3_code 115 = .ok (.areturn, 1) := by decide +kernel
theorem d2_116 : decode method_3_code 116 = .ok (.iload_n 0, 1) := by decide +kernel
theorem d2_117 : decode method_3_code 117 = .ok (.bipush 38, 2) := by decide +kernel
theorem d2_119 : decode method_3_code 119 = .ok (.if_icmp .ne 7, 3) := by decide +kernel
theorem d2_122 : decode method_3_code 122 = .ok (.getstatic 49, 3) := by decide +kernel
theorem d2_125 : decode method_3_code 125 = .ok (.areturn, 1) := by decide +kernel
theorem d2_126 : decode method_3_code 126 = .ok (.getstatic 52, 3) := by decide +kernel
theorem d2_129 : decode method_3_code 129 = .ok (.areturn, 1) := by decide +kernel
theorem d2_130 : decode method_3_code 130 = .ok (.iload_n 0, 1) := by decide +kernel
theorem d2_131 : decode method_3_code 131 = .ok (.bipush 48, 2) := by decide +kernel
theorem d2_133 : decode method_3_code 133 = .ok (.if_icmp .lt 63, 3) := by decide +kernel
theorem d2_136 : decode method_3_code 136 = .ok (.iload_n 0, 1) := by decide +kernel
theorem d2_137 : decode method_3_code 137 = .ok (.bipush 53, 2) := by decide +kernel
theorem d2_139 : decode method_3_code 139 = .ok (.if_icmp .gt 57, 3) := by decide +kernel
theorem d2_142 : decode method_3_code 142 = .ok (.iload_n 0, 1) := by decide +kernel
theorem d2_143 : decode method_3_code 143 = .ok (.bipush 48, 2) := by decide +kernel
theorem d2_145 : decode method_3_code 145 = .ok (.if_icmp .ne 7, 3) := by decide +kernel
theorem d2_148 : decode method_3_code 148 = .ok (.getstatic 55, 3) := by decide +kernel
theorem d2_151 : decode method_3_code 151 = .ok (.areturn, 1) := by decide +kernel
theorem d2_152 : decode method_3_code 152 = .ok (.iload_n 0, 1) := by decide +kernel
theorem d2_153 : decode method_3_code 153 = .ok (.bipush 49, 2) := by decide +kernel
theorem d2_155 : decode method_3_code 155 = .ok (.if_icmp .ne 7, 3) := by decide +kernel
theorem d2_158 : decode method_3_code 158 = .ok (.getstatic 58, 3) := by decide +kernel
theorem d2_161 : decode method_3_code 161 = .ok (.areturn, 1) := by decide +kernel
theorem d2_162 : decode method_3_code 162 = .ok (.iload_n 0, 1) := by decide +kernel
theorem d2_163 : decode method_3_code 163 = .ok (.bipush 50, 2) := by decide +kernel
theorem d2_165 : decode method_3_code 165 = .ok (.if_icmp .ne 7, 3) := by decide +kernel
theorem d2_168 : decode method_3_code 168 = .ok (.getstatic 61, 3) := by decide +kernel
theorem d2_171 : decode method_3_code 171 = .ok (.areturn, 1) := by decide +kernel
theorem d2_172 : decode method_3_code 172 = .ok (.iload_n 0, 1) := by decide +kernel
theorem d2_173 : decode method_3_code 173 = .ok (.bipush 51, 2) := by decide +kernel
theorem d2_175 : decode method_3_code 175 = .ok (.if_icmp .ne 7, 3) := by decide +kernel
theorem d2_178 : decode method_3_code 178 = .ok (.getstatic 64, 3) := by decide +kernel
theorem d2_181 : decode method_3_code 181 = .ok (.areturn, 1) := by decide +kernel
theorem d2_182 : decode method_3_code 182 = .ok (.iload_n 0, 1) := by decide +kernel
theorem d2_183 : decode method_3_code 183 = .ok (.bipush 52, 2) := by decide +kernel
theorem d2_185 : decode method_3_code 185 = .ok (.if_icmp .ne 7, 3) := by decide +kernel
theorem d2_188 : decode method_3_code 188 = .ok (.getstatic 67, 3) := by decide +kernel
theorem d2_191 : decode method_3_code 191 = .ok (.areturn, 1) := by decide +kernel
theorem d2_192 : decode method_3_code 192 = .ok (.getstatic 70, 3) := by decide +kernel
theorem d2_195 : decode method_3_code 195 = .ok (.areturn, 1) := by decide +kernel
theorem d2_196 : decode method_3_code 196 = .ok (.aconst_null, 1) := by decide +kernel
theorem d2_197 : decode method_3_code 197 = .ok (.areturn, 1) := by decide +kernel
theorem pn_StatusOfCodePinLaw : plainName "com/example/packframe/packframe/onebyte/StatusOfCodePinLaw" = true := by first | (simp [plainName, overriddenIn]; done) | decide +kernel
theorem ef_2 (m : MethodId) (x0 : Int32) : entryFrame m #[(.int x0)] 1 = mkF m 0 #[.val (.int x0)] [] := by first | (simp [entryFrame, mkF, argsToLocals, Value.category]; done) | rfl
def Q2 (Z : State) (qv : Int32) (w_OK w_MOVED_PERMANENTLY w_FOUND w_NOT_MODIFIED w_BAD_REQUEST w_UNAUTHORIZED w_PAYMENT_REQUIRED w_FORBIDDEN w_NOT_FOUND w_REQUEST_TIMEOUT w_REQUEST_ENTITY_TOO_LARGE w_TOO_MANY_REQUESTS w_INTERNAL_SERVER_ERROR w_NOT_IMPLEMENTED w_BAD_GATEWAY w_SERVICE_UNAVAILABLE w_GATEWAY_TIMEOUT w_VERSION_NOT_SUPPORTED w_STATUSES : Addr) (h0 : Heap) (n0 : Nat) (v : Option Value) (h : Heap) (L : List Loc) : Prop := v = some (own_of qv w_OK w_MOVED_PERMANENTLY w_FOUND w_NOT_MODIFIED w_BAD_REQUEST w_UNAUTHORIZED w_PAYMENT_REQUIRED w_FORBIDDEN w_NOT_FOUND w_REQUEST_TIMEOUT w_REQUEST_ENTITY_TOO_LARGE w_TOO_MANY_REQUESTS w_INTERNAL_SERVER_ERROR w_NOT_IMPLEMENTED w_BAD_GATEWAY w_SERVICE_UNAVAILABLE w_GATEWAY_TIMEOUT w_VERSION_NOT_SUPPORTED) ∧ Fr n0 L ∧ h = h0
set_option maxRecDepth 65536 in
set_option maxHeartbeats 40000000 in
theorem rm2 (l : Launch) (Z : State) (a0 : Array Value) (hw : ∀ d ∈ tables_1, d.before a0 Z = true) (ws : List Jvm.Cond) (qv : Int32) (w_OK w_MOVED_PERMANENTLY w_FOUND w_NOT_MODIFIED w_BAD_REQUEST w_UNAUTHORIZED w_PAYMENT_REQUIRED w_FORBIDDEN w_NOT_FOUND w_REQUEST_TIMEOUT w_REQUEST_ENTITY_TOO_LARGE w_TOO_MANY_REQUESTS w_INTERNAL_SERVER_ERROR w_NOT_IMPLEMENTED w_BAD_GATEWAY w_SERVICE_UNAVAILABLE w_GATEWAY_TIMEOUT w_VERSION_NOT_SUPPORTED w_STATUSES : Addr) (h0 : Heap) (n0 : Nat) (Z0 : n0 ≤ h0.size) (S_OK : Sta Z h0 "com/example/packframe/packframe/onebyte/Status" "OK" "Lcom/example/packframe/packframe/onebyte/Status;" (.ref w_OK)) (E_OK : Exa Z h0 w_OK "com/example/packframe/packframe/onebyte/Status") (F_code_OK : Fld Z h0 w_OK "com/example/packframe/packframe/onebyte/Status" "code" "I" (.int (0 : Int32))) (S_MOVED_PERMANENTLY : Sta Z h0 "com/example/packframe/packframe/onebyte/Status" "MOVED_PERMANENTLY" "Lcom/example/packframe/packframe/onebyte/Status;" (.ref w_MOVED_PERMANENTLY)) (E_MOVED_PERMANENTLY : Exa Z h0 w_MOVED_PERMANENTLY "com/example/packframe/packframe/onebyte/Status") (F_code_MOVED_PERMANENTLY : Fld Z h0 w_MOVED_PERMANENTLY "com/example/packframe/packframe/onebyte/Status" "code" "I" (.int (16 : Int32))) (S_FOUND : Sta Z h0 "com/example/packframe/packframe/onebyte/Status" "FOUND" "Lcom/example/packframe/packframe/onebyte/Status;" (.ref w_FOUND)) (E_FOUND : Exa Z h0 w_FOUND "com/example/packframe/packframe/onebyte/Status") (F_code_FOUND : Fld Z h0 w_FOUND "com/example/packframe/packframe/onebyte/Status" "code" "I" (.int (17 : Int32))) (S_NOT_MODIFIED : Sta Z h0 "com/example/packframe/packframe/onebyte/Status" "NOT_MODIFIED" "Lcom/example/packframe/packframe/onebyte/Status;" (.ref w_NOT_MODIFIED)) (E_NOT_MODIFIED : Exa Z h0 w_NOT_MODIFIED "com/example/packframe/packframe/onebyte/Status") (F_code_NOT_MODIFIED : Fld Z h0 w_NOT_MODIFIED "com/example/packframe/packframe/onebyte/Status" "code" "I" (.int (18 : Int32))) (S_BAD_REQUEST : Sta Z h0 "com/example/packframe/packframe/onebyte/Status" "BAD_REQUEST" "Lcom/example/packframe/packframe/onebyte/Status;" (.ref w_BAD_REQUEST)) (E_BAD_REQUEST : Exa Z h0 w_BAD_REQUEST "com/example/packframe/packframe/onebyte/Status") (F_code_BAD_REQUEST : Fld Z h0 w_BAD_REQUEST "com/example/packframe/packframe/onebyte/Status" "code" "I" (.int (32 : Int32))) (S_UNAUTHORIZED : Sta Z h0 "com/example/packframe/packframe/onebyte/Status" "UNAUTHORIZED" "Lcom/example/packframe/packframe/onebyte/Status;" (.ref w_UNAUTHORIZED)) (E_UNAUTHORIZED : Exa Z h0 w_UNAUTHORIZED "com/example/packframe/packframe/onebyte/Status") (F_code_UNAUTHORIZED : Fld Z h0 w_UNAUTHORIZED "com/example/packframe/packframe/onebyte/Status" "code" "I" (.int (33 : Int32))) (S_PAYMENT_REQUIRED : Sta Z h0 "com/example/packframe/packframe/onebyte/Status" "PAYMENT_REQUIRED" "Lcom/example/packframe/packframe/onebyte/Status;" (.ref w_PAYMENT_REQUIRED)) (E_PAYMENT_REQUIRED : Exa Z h0 w_PAYMENT_REQUIRED "com/example/packframe/packframe/onebyte/Status") (F_code_PAYMENT_REQUIRED : Fld Z h0 w_PAYMENT_REQUIRED "com/example/packframe/packframe/onebyte/Status" "code" "I" (.int (34 : Int32))) (S_FORBIDDEN : Sta Z h0 "com/example/packframe/packframe/onebyte/Status" "FORBIDDEN" "Lcom/example/packframe/packframe/onebyte/Status;" (.ref w_FORBIDDEN)) (E_FORBIDDEN : Exa Z h0 w_FORBIDDEN "com/example/packframe/packframe/onebyte/Status") (F_code_FORBIDDEN : Fld Z h0 w_FORBIDDEN "com/example/packframe/packframe/onebyte/Status" "code" "I" (.int (35 : Int32))) (S_NOT_FOUND : Sta Z h0 "com/example/packframe/packframe/onebyte/Status" "NOT_FOUND" "Lcom/example/packframe/packframe/onebyte/Status;" (.ref w_NOT_FOUND)) (E_NOT_FOUND : Exa Z h0 w_NOT_FOUND "com/example/packframe/packframe/onebyte/Status") (F_code_NOT_FOUND : Fld Z h0 w_NOT_FOUND "com/example/packframe/packframe/onebyte/Status" "code" "I" (.int (36 : Int32))) (S_REQUEST_TIMEOUT : Sta Z h0 "com/example/packframe/packframe/onebyte/Status" "REQUEST_TIMEOUT" "Lcom/example/packframe/packframe/onebyte/Status;" (.ref w_REQUEST_TIMEOUT)) (E_REQUEST_TIMEOUT : Exa Z h0 w_REQUEST_TIMEOUT "com/example/packframe/packframe/onebyte/Status") (F_code_REQUEST_TIMEOUT : Fld Z h0 w_REQUEST_TIMEOUT "com/example/packframe/packframe/onebyte/Status" "code" "I" (.int (37 : Int32))) (S_REQUEST_ENTITY_TOO_LARGE : Sta Z h0 "com/example/packframe/packframe/onebyte/Status" "REQUEST_ENTITY_TOO_LARGE" "Lcom/example/packframe/packframe/onebyte/Status;" (.ref w_REQUEST_ENTITY_TOO_LARGE)) (E_REQUEST_ENTITY_TOO_LARGE : Exa Z h0 w_REQUEST_ENTITY_TOO_LARGE "com/example/packframe/packframe/onebyte/Status") (F_code_REQUEST_ENTITY_TOO_LARGE : Fld Z h0 w_REQUEST_ENTITY_TOO_LARGE "com/example/packframe/packframe/onebyte/Status" "code" "I" (.int (38 : Int32))) (S_TOO_MANY_REQUESTS : Sta Z h0 "com/example/packframe/packframe/onebyte/Status" "TOO_MANY_REQUESTS" "Lcom/example/packframe/packframe/onebyte/Status;" (.ref w_TOO_MANY_REQUESTS)) (E_TOO_MANY_REQUESTS : Exa Z h0 w_TOO_MANY_REQUESTS "com/example/packframe/packframe/onebyte/Status") (F_code_TOO_MANY_REQUESTS : Fld Z h0 w_TOO_MANY_REQUESTS "com/example/packframe/packframe/onebyte/Status" "code" "I" (.int (39 : Int32))) (S_INTERNAL_SERVER_ERROR : Sta Z h0 "com/example/packframe/packframe/onebyte/Status" "INTERNAL_SERVER_ERROR" "Lcom/example/packframe/packframe/onebyte/Status;" (.ref w_INTERNAL_SERVER_ERROR)) (E_INTERNAL_SERVER_ERROR : Exa Z h0 w_INTERNAL_SERVER_ERROR "com/example/packframe/packframe/onebyte/Status") (F_code_INTERNAL_SERVER_ERROR : Fld Z h0 w_INTERNAL_SERVER_ERROR "com/example/packframe/packframe/onebyte/Status" "code" "I" (.int (48 : Int32))) (S_NOT_IMPLEMENTED : Sta Z h0 "com/example/packframe/packframe/onebyte/Status" "NOT_IMPLEMENTED" "Lcom/example/packframe/packframe/onebyte/Status;" (.ref w_NOT_IMPLEMENTED)) (E_NOT_IMPLEMENTED : Exa Z h0 w_NOT_IMPLEMENTED "com/example/packframe/packframe/onebyte/Status") (F_code_NOT_IMPLEMENTED : Fld Z h0 w_NOT_IMPLEMENTED "com/example/packframe/packframe/onebyte/Status" "code" "I" (.int (49 : Int32))) (S_BAD_GATEWAY : Sta Z h0 "com/example/packframe/packframe/onebyte/Status" "BAD_GATEWAY" "Lcom/example/packframe/packframe/onebyte/Status;" (.ref w_BAD_GATEWAY)) (E_BAD_GATEWAY : Exa Z h0 w_BAD_GATEWAY "com/example/packframe/packframe/onebyte/Status") (F_code_BAD_GATEWAY : Fld Z h0 w_BAD_GATEWAY "com/example/packframe/packframe/onebyte/Status" "code" "I" (.int (50 : Int32))) (S_SERVICE_UNAVAILABLE : Sta Z h0 "com/example/packframe/packframe/onebyte/Status" "SERVICE_UNAVAILABLE" "Lcom/example/packframe/packframe/onebyte/Status;" (.ref w_SERVICE_UNAVAILABLE)) (E_SERVICE_UNAVAILABLE : Exa Z h0 w_SERVICE_UNAVAILABLE "com/example/packframe/packframe/onebyte/Status") (F_code_SERVICE_UNAVAILABLE : Fld Z h0 w_SERVICE_UNAVAILABLE "com/example/packframe/packframe/onebyte/Status" "code" "I" (.int (51 : Int32))) (S_GATEWAY_TIMEOUT : Sta Z h0 "com/example/packframe/packframe/onebyte/Status" "GATEWAY_TIMEOUT" "Lcom/example/packframe/packframe/onebyte/Status;" (.ref w_GATEWAY_TIMEOUT)) (E_GATEWAY_TIMEOUT : Exa Z h0 w_GATEWAY_TIMEOUT "com/example/packframe/packframe/onebyte/Status") (F_code_GATEWAY_TIMEOUT : Fld Z h0 w_GATEWAY_TIMEOUT "com/example/packframe/packframe/onebyte/Status" "code" "I" (.int (52 : Int32))) (S_VERSION_NOT_SUPPORTED : Sta Z h0 "com/example/packframe/packframe/onebyte/Status" "VERSION_NOT_SUPPORTED" "Lcom/example/packframe/packframe/onebyte/Status;" (.ref w_VERSION_NOT_SUPPORTED)) (E_VERSION_NOT_SUPPORTED : Exa Z h0 w_VERSION_NOT_SUPPORTED "com/example/packframe/packframe/onebyte/Status") (F_code_VERSION_NOT_SUPPORTED : Fld Z h0 w_VERSION_NOT_SUPPORTED "com/example/packframe/packframe/onebyte/Status" "code" "I" (.int (53 : Int32))) (S_STATUSES : Sta Z h0 "com/example/packframe/packframe/onebyte/Status" "STATUSES" "[Lcom/example/packframe/packframe/onebyte/Status;" (.ref w_STATUSES)) (V_STATUSES : ∃ k, Arv Z h0 w_STATUSES k (.object "com/example/packframe/packframe/onebyte/Status") (18 : Int32) [(.ref w_OK), (.ref w_MOVED_PERMANENTLY), (.ref w_FOUND), (.ref w_NOT_MODIFIED), (.ref w_BAD_REQUEST), (.ref w_UNAUTHORIZED), (.ref w_PAYMENT_REQUIRED), (.ref w_FORBIDDEN), (.ref w_NOT_FOUND), (.ref w_REQUEST_TIMEOUT), (.ref w_REQUEST_ENTITY_TOO_LARGE), (.ref w_TOO_MANY_REQUESTS), (.ref w_INTERNAL_SERVER_ERROR), (.ref w_NOT_IMPLEMENTED), (.ref w_BAD_GATEWAY), (.ref w_SERVICE_UNAVAILABLE), (.ref w_GATEWAY_TIMEOUT), (.ref w_VERSION_NOT_SUPPORTED)] .null) :
    MetFree l (⟨"com/example/packframe/packframe/onebyte/StatusOfCodePinLaw", "expected", "(I)Lcom/example/packframe/packframe/onebyte/Status;"⟩ : MethodName) (head1 (Jvm.Cond.code (⟨"com/example/packframe/packframe/onebyte/StatusOfCodePinLaw", "expected", "(I)Lcom/example/packframe/packframe/onebyte/Status;"⟩ : MethodName) method_3_code 1 (some (.object "com/example/packframe/packframe/onebyte/Status")) :: ws) ({ frames := 0, cells := 0, slots := 0, locals := 0 } : Room)) (fun a U => a = #[(.int qv)] ∧ Z.Warmed39 U.vm ∧ U.heap = h0) (fun _ _ _ _ _ => True) (fun _ U o U' => ∃ v L, o = .returned v ∧ Q2 Z qv w_OK w_MOVED_PERMANENTLY w_FOUND w_NOT_MODIFIED w_BAD_REQUEST w_UNAUTHORIZED w_PAYMENT_REQUIRED w_FORBIDDEN w_NOT_FOUND w_REQUEST_TIMEOUT w_REQUEST_ENTITY_TOO_LARGE w_TOO_MANY_REQUESTS w_INTERNAL_SERVER_ERROR w_NOT_IMPLEMENTED w_BAD_GATEWAY w_SERVICE_UNAVAILABLE w_GATEWAY_TIMEOUT w_VERSION_NOT_SUPPORTED w_STATUSES h0 n0 v U'.heap L ∧ FrameEnd U o U' L ({ frames := 0, cells := 0, slots := 0, locals := 0 } : Room).cells ({ frames := 0, cells := 0, slots := 0, locals := 0 } : Room).slots) := by
  refine MetFree.of_bodySF (plainFor_of_name pn_StatusOfCodePinLaw) hisR ?_
  intro p e s m args below meth c s₁ Bd hml0 hP hK
  obtain ⟨rfl, hZ, hh⟩ := hP
  have hx := Bd.exec
  have hby := Bd.bytes
  have hml : c.maxLocals = 1 := hml0
  have hown : s.vm.findClass "com/example/packframe/packframe/onebyte/StatusOfCodePinLaw" = some m.cls := findClass_of_methodNamed Bd.named
  have hnm := (name_of_methodNamed Bd.named Bd.method).1
  have hlk : meth.locks = false := BodyLoose.notSynchronized Bd
  have X0 : Stand p l e ({ frames := 0, cells := 0, slots := 0, locals := 0 } : Room) s m #[(.int qv)] below meth c s₁ [] 0 0 := Stand.of_body Bd
  have e0 : s₁.heap = h0 := by rw [← hh, Bd.state]; rfl
  have N0 := Fr.nil n0
  refine ogo (U' := s₁.setTop (mkF m 0 #[.val (.int qv)] [])) (Q := Q2 Z qv w_OK w_MOVED_PERMANENTLY w_FOUND w_NOT_MODIFIED w_BAD_REQUEST w_UNAUTHORIZED w_PAYMENT_REQUIRED w_FORBIDDEN w_NOT_FOUND w_REQUEST_TIMEOUT w_REQUEST_ENTITY_TOO_LARGE w_TOO_MANY_REQUESTS w_INTERNAL_SERVER_ERROR w_NOT_IMPLEMENTED w_BAD_GATEWAY w_SERVICE_UNAVAILABLE w_GATEWAY_TIMEOUT w_VERSION_NOT_SUPPORTED w_STATUSES h0 n0) (K := ({ frames := 0, cells := 0, slots := 0, locals := 0 } : Room).cells) (N := ({ frames := 0, cells := 0, slots := 0, locals := 0 } : Room).slots) (fun t k => castTop (ef_2 m qv) k) ?_
  show OwnEnds _ _ _ _ _ _ _ (s₁.setTop (mkF m 0 #[.val (.int qv)] []))
  refine ogo (fun t k => XS.iloadN X0.here hx rfl (hb hby d2_0) rfl k) ?_
  show OwnEnds _ _ _ _ _ _ _ (s₁.setTop (mkF m 1 #[.val (.int qv)] [(.int qv)]))
  by_cases hc1 : qv = (0 : Int32)
  · refine ogo (fun t k => XS.ifNo X0.here hx rfl (hb hby d2_1) rfl ((if0 _ _).trans (teq hc1).2) k) ?_
    show OwnEnds _ _ _ _ _ _ _ (s₁.setTop (mkF m 4 #[.val (.int qv)] []))
    obtain ⟨T2, X2, e2, st2⟩ := getS2 X0 hx hZ hown (host := "") (Or.inl (hw _ (List.mem_of_getElem? (i := 13) rfl))) Via.refl e0 S_OK (g := (mkF m 4 #[.val (.int qv)] [])) rfl (hb hby d2_4)
    refine ogo st2 ?_
    show OwnEnds _ _ _ _ _ _ _ (T2.setTop (mkF m 7 #[.val (.int qv)] [(.ref w_OK)]))
    refine endA X2 hx hlk Bd.returns rfl rfl (hb hby d2_7) (by decide) (by decide) ?_
    show Q2 Z qv w_OK w_MOVED_PERMANENTLY w_FOUND w_NOT_MODIFIED w_BAD_REQUEST w_UNAUTHORIZED w_PAYMENT_REQUIRED w_FORBIDDEN w_NOT_FOUND w_REQUEST_TIMEOUT w_REQUEST_ENTITY_TOO_LARGE w_TOO_MANY_REQUESTS w_INTERNAL_SERVER_ERROR w_NOT_IMPLEMENTED w_BAD_GATEWAY w_SERVICE_UNAVAILABLE w_GATEWAY_TIMEOUT w_VERSION_NOT_SUPPORTED w_STATUSES h0 n0 _ T2.heap _
    rw [e2]
    exact ⟨by simp [own_of, hc1], N0, rfl⟩
  · refine ogo (fun t k => XS.ifYes X0.here hx rfl (pc0 := 1) (pc' := 8) rfl (hb hby d2_1) rfl ((if0 _ _).trans (feq hc1).2) (by decide) (by decide) k) ?_
    show OwnEnds _ _ _ _ _ _ _ (s₁.setTop (mkF m 8 #[.val (.int qv)] []))
    refine ogo (fun t k => XS.iloadN X0.here hx rfl (hb hby d2_8) rfl k) ?_
    show OwnEnds _ _ _ _ _ _ _ (s₁.setTop (mkF m 9 #[.val (.int qv)] [(.int qv)]))
    refine ogo (fun t k => XS.bipush X0.here hx rfl (hb hby d2_9) k) ?_
    show OwnEnds _ _ _ _ _ _ _ (s₁.setTop (mkF m 11 #[.val (.int qv)] [(.int (16 : Int32)), (.int qv)]))
    by_cases hc3 : qv < (16 : Int32)
    · refine ogo (fun t k => XS.icmpYes X0.here hx rfl (pc0 := 11) (pc' := 44) rfl (hb hby d2_11) rfl (tlt hc3).1 (by decide) (by decide) k) ?_
      show OwnEnds _ _ _ _ _ _ _ (s₁.setTop (mkF m 44 #[.val (.int qv)] []))
      refine ogo (fun t k => XS.iloadN X0.here hx rfl (hb hby d2_44) rfl k) ?_
      show OwnEnds _ _ _ _ _ _ _ (s₁.setTop (mkF m 45 #[.val (.int qv)] [(.int qv)]))
      refine ogo (fun t k => XS.bipush X0.here hx rfl (hb hby d2_45) k) ?_
      show OwnEnds _ _ _ _ _ _ _ (s₁.setTop (mkF m 47 #[.val (.int qv)] [(.int (32 : Int32)), (.int qv)]))
      by_cases hc4 : qv < (32 : Int32)
      · refine ogo (fun t k => XS.icmpYes X0.here hx rfl (pc0 := 47) (pc' := 130) rfl (hb hby d2_47) rfl (tlt hc4).1 (by decide) (by decide) k) ?_
        show OwnEnds _ _ _ _ _ _ _ (s₁.setTop (mkF m 130 #[.val (.int qv)] []))
        refine ogo (fun t k => XS.iloadN X0.here hx rfl (hb hby d2_130) rfl k) ?_
        show OwnEnds _ _ _ _ _ _ _ (s₁.setTop (mkF m 131 #[.val (.int qv)] [(.int qv)]))
        refine ogo (fun t k => XS.bipush X0.here hx rfl (hb hby d2_131) k) ?_
        show OwnEnds _ _ _ _ _ _ _ (s₁.setTop (mkF m 133 #[.val (.int qv)] [(.int (48 : Int32)), (.int qv)]))
        by_cases hc5 : qv < (48 : Int32)
        · refine ogo (fun t k => XS.icmpYes X0.here hx rfl (pc0 := 133) (pc' := 196) rfl (hb hby d2_133) rfl (tlt hc5).1 (by decide) (by decide) k) ?_
          show OwnEnds _ _ _ _ _ _ _ (s₁.setTop (mkF m 196 #[.val (.int qv)] []))
          refine ogo (fun t k => XS.aconstNull X0.here hx rfl (hb hby d2_196) k) ?_
          show OwnEnds _ _ _ _ _ _ _ (s₁.setTop (mkF m 197 #[.val (.int qv)] [.null]))
          refine endA X0 hx hlk Bd.returns rfl rfl (hb hby d2_197) (by decide) (by decide) ?_
          show Q2 Z qv w_OK w_MOVED_PERMANENTLY w_FOUND w_NOT_MODIFIED w_BAD_REQUEST w_UNAUTHORIZED w_PAYMENT_REQUIRED w_FORBIDDEN w_NOT_FOUND w_REQUEST_TIMEOUT w_REQUEST_ENTITY_TOO_LARGE w_TOO_MANY_REQUESTS w_INTERNAL_SERVER_ERROR w_NOT_IMPLEMENTED w_BAD_GATEWAY w_SERVICE_UNAVAILABLE w_GATEWAY_TIMEOUT w_VERSION_NOT_SUPPORTED w_STATUSES h0 n0 _ s₁.heap _
          rw [e0]
          have z0 : ¬ qv = 0 := by
            intro z; subst z; first | exact absurd hc1 (by decide) | exact absurd hc3 (by decide) | exact absurd hc4 (by decide) | exact absurd hc5 (by decide)
          have z16 : ¬ qv = 16 := by
            intro z; subst z; first | exact absurd hc1 (by decide) | exact absurd hc3 (by decide) | exact absurd hc4 (by decide) | exact absurd hc5 (by decide)
          have z17 : ¬ qv = 17 := by
            intro z; subst z; first | exact absurd hc1 (by decide) | exact absurd hc3 (by decide) | exact absurd hc4 (by decide) | exact absurd hc5 (by decide)
          have z18 : ¬ qv = 18 := by
            intro z; subst z; first | exact absurd hc1 (by decide) | exact absurd hc3 (by decide) | exact absurd hc4 (by decide) | exact absurd hc5 (by decide)
          have z32 : ¬ qv = 32 := by
            intro z; subst z; first | exact absurd hc1 (by decide) | exact absurd hc3 (by decide) | exact absurd hc4 (by decide) | exact absurd hc5 (by decide)
          have z33 : ¬ qv = 33 := by
            intro z; subst z; first | exact absurd hc1 (by decide) | exact absurd hc3 (by decide) | exact absurd hc4 (by decide) | exact absurd hc5 (by decide)
          have z34 : ¬ qv = 34 := by
            intro z; subst z; first | exact absurd hc1 (by decide) | exact absurd hc3 (by decide) | exact absurd hc4 (by decide) | exact absurd hc5 (by decide)
          have z35 : ¬ qv = 35 := by
            intro z; subst z; first | exact absurd hc1 (by decide) | exact absurd hc3 (by decide) | exact absurd hc4 (by decide) | exact absurd hc5 (by decide)
          have z36 : ¬ qv = 36 := by
            intro z; subst z; first | exact absurd hc1 (by decide) | exact absurd hc3 (by decide) | exact absurd hc4 (by decide) | exact absurd hc5 (by decide)
          have z37 : ¬ qv = 37 := by
            intro z; subst z; first | exact absurd hc1 (by decide) | exact absurd hc3 (by decide) | exact absurd hc4 (by decide) | exact absurd hc5 (by decide)
          have z38 : ¬ qv = 38 := by
            intro z; subst z; first | exact absurd hc1 (by decide) | exact absurd hc3 (by decide) | exact absurd hc4 (by decide) | exact absurd hc5 (by decide)
          have z39 : ¬ qv = 39 := by
            intro z; subst z; first | exact absurd hc1 (by decide) | exact absurd hc3 (by decide) | exact absurd hc4 (by decide) | exact absurd hc5 (by decide)
          have z48 : ¬ qv = 48 := by
            intro z; subst z; first | exact absurd hc1 (by decide) | exact absurd hc3 (by decide) | exact absurd hc4 (by decide) | exact absurd hc5 (by decide)
          have z49 : ¬ qv = 49 := by
            intro z; subst z; first | exact absurd hc1 (by decide) | exact absurd hc3 (by decide) | exact absurd hc4 (by decide) | exact absurd hc5 (by decide)
          have z50 : ¬ qv = 50 := by
            intro z; subst z; first | exact absurd hc1 (by decide) | exact absurd hc3 (by decide) | exact absurd hc4 (by decide) | exact absurd hc5 (by decide)
          have z51 : ¬ qv = 51 := by
            intro z; subst z; first | exact absurd hc1 (by decide) | exact absurd hc3 (by decide) | exact absurd hc4 (by decide) | exact absurd hc5 (by decide)
          have z52 : ¬ qv = 52 := by
            intro z; subst z; first | exact absurd hc1 (by decide) | exact absurd hc3 (by decide) | exact absurd hc4 (by decide) | exact absurd hc5 (by decide)
          have z53 : ¬ qv = 53 := by
            intro z; subst z; first | exact absurd hc1 (by decide) | exact absurd hc3 (by decide) | exact absurd hc4 (by decide) | exact absurd hc5 (by decide)
          exact ⟨by simp [own_of, z0, z16, z17, z18, z32, z33, z34, z35, z36, z37, z38, z39, z48, z49, z50, z51, z52, z53], N0, rfl⟩
        · refine ogo (fun t k => XS.icmpNo X0.here hx rfl (hb hby d2_133) rfl (flt hc5).1 k) ?_
          show OwnEnds _ _ _ _ _ _ _ (s₁.setTop (mkF m 136 #[.val (.int qv)] []))
          refine ogo (fun t k => XS.iloadN X0.here hx rfl (hb hby d2_136) rfl k) ?_
          show OwnEnds _ _ _ _ _ _ _ (s₁.setTop (mkF m 137 #[.val (.int qv)] [(.int qv)]))
          refine ogo (fun t k => XS.bipush X0.here hx rfl (hb hby d2_137) k) ?_
          show OwnEnds _ _ _ _ _ _ _ (s₁.setTop (mkF m 139 #[.val (.int qv)] [(.int (53 : Int32)), (.int qv)]))
          by_cases hc6 : (53 : Int32) < qv
          · refine ogo (fun t k => XS.icmpYes X0.here hx rfl (pc0 := 139) (pc' := 196) rfl (hb hby d2_139) rfl (tlt hc6).2.2.1 (by decide) (by decide) k) ?_
            show OwnEnds _ _ _ _ _ _ _ (s₁.setTop (mkF m 196 #[.val (.int qv)] []))
            refine ogo (fun t k => XS.aconstNull X0.here hx rfl (hb hby d2_196) k) ?_
            show OwnEnds _ _ _ _ _ _ _ (s₁.setTop (mkF m 197 #[.val (.int qv)] [.null]))
            refine endA X0 hx hlk Bd.returns rfl rfl (hb hby d2_197) (by decide) (by decide) ?_
            show Q2 Z qv w_OK w_MOVED_PERMANENTLY w_FOUND w_NOT_MODIFIED w_BAD_REQUEST w_UNAUTHORIZED w_PAYMENT_REQUIRED w_FORBIDDEN w_NOT_FOUND w_REQUEST_TIMEOUT w_REQUEST_ENTITY_TOO_LARGE w_TOO_MANY_REQUESTS w_INTERNAL_SERVER_ERROR w_NOT_IMPLEMENTED w_BAD_GATEWAY w_SERVICE_UNAVAILABLE w_GATEWAY_TIMEOUT w_VERSION_NOT_SUPPORTED w_STATUSES h0 n0 _ s₁.heap _
            rw [e0]
            have z0 : ¬ qv = 0 := by
              intro z; subst z; first | exact absurd hc1 (by decide) | exact absurd hc3 (by decide) | exact absurd hc4 (by decide) | exact absurd hc5 (by decide) | exact absurd hc6 (by decide)
            have z16 : ¬ qv = 16 := by
              intro z; subst z; first | exact absurd hc1 (by decide) | exact absurd hc3 (by decide) | exact absurd hc4 (by decide) | exact absurd hc5 (by decide) | exact absurd hc6 (by decide)
            have z17 : ¬ qv = 17 := by
              intro z; subst z; first | exact absurd hc1 (by decide) | exact absurd hc3 (by decide) | exact absurd hc4 (by decide) | exact absurd hc5 (by decide) | exact absurd hc6 (by decide)
            have z18 : ¬ qv = 18 := by
              intro z; subst z; first | exact absurd hc1 (by decide) | exact absurd hc3 (by decide) | exact absurd hc4 (by decide) | exact absurd hc5 (by decide) | exact absurd hc6 (by decide)
            have z32 : ¬ qv = 32 := by
              intro z; subst z; first | exact absurd hc1 (by decide) | exact absurd hc3 (by decide) | exact absurd hc4 (by decide) | exact absurd hc5 (by decide) | exact absurd hc6 (by decide)
            have z33 : ¬ qv = 33 := by
              intro z; subst z; first | exact absurd hc1 (by decide) | exact absurd hc3 (by decide) | exact absurd hc4 (by decide) | exact absurd hc5 (by decide) | exact absurd hc6 (by decide)
            have z34 : ¬ qv = 34 := by
              intro z; subst z; first | exact absurd hc1 (by decide) | exact absurd hc3 (by decide) | exact absurd hc4 (by decide) | exact absurd hc5 (by decide) | exact absurd hc6 (by decide)
            have z35 : ¬ qv = 35 := by
              intro z; subst z; first | exact absurd hc1 (by decide) | exact absurd hc3 (by decide) | exact absurd hc4 (by decide) | exact absurd hc5 (by decide) | exact absurd hc6 (by decide)
            have z36 : ¬ qv = 36 := by
              intro z; subst z; first | exact absurd hc1 (by decide) | exact absurd hc3 (by decide) | exact absurd hc4 (by decide) | exact absurd hc5 (by decide) | exact absurd hc6 (by decide)
            have z37 : ¬ qv = 37 := by
              intro z; subst z; first | exact absurd hc1 (by decide) | exact absurd hc3 (by decide) | exact absurd hc4 (by decide) | exact absurd hc5 (by decide) | exact absurd hc6 (by decide)
            have z38 : ¬ qv = 38 := by
              intro z; subst z; first | exact absurd hc1 (by decide) | exact absurd hc3 (by decide) | exact absurd hc4 (by decide) | exact absurd hc5 (by decide) | exact absurd hc6 (by decide)
            have z39 : ¬ qv = 39 := by
              intro z; subst z; first | exact absurd hc1 (by decide) | exact absurd hc3 (by decide) | exact absurd hc4 (by decide) | exact absurd hc5 (by decide) | exact absurd hc6 (by decide)
            have z48 : ¬ qv = 48 := by
              intro z; subst z; first | exact absurd hc1 (by decide) | exact absurd hc3 (by decide) | exact absurd hc4 (by decide) | exact absurd hc5 (by decide) | exact absurd hc6 (by decide)
            have z49 : ¬ qv = 49 := by
              intro z; subst z; first | exact absurd hc1 (by decide) | exact absurd hc3 (by decide) | exact absurd hc4 (by decide) | exact absurd hc5 (by decide) | exact absurd hc6 (by decide)
            have z50 : ¬ qv = 50 := by
              intro z; subst z; first | exact absurd hc1 (by decide) | exact absurd hc3 (by decide) | exact absurd hc4 (by decide) | exact absurd hc5 (by decide) | exact absurd hc6 (by decide)
            have z51 : ¬ qv = 51 := by
              intro z; subst z; first | exact absurd hc1 (by decide) | exact absurd hc3 (by decide) | exact absurd hc4 (by decide) | exact absurd hc5 (by decide) | exact absurd hc6 (by decide)
            have z52 : ¬ qv = 52 := by
              intro z; subst z; first | exact absurd hc1 (by decide) | exact absurd hc3 (by decide) | exact absurd hc4 (by decide) | exact absurd hc5 (by decide) | exact absurd hc6 (by decide)
            have z53 : ¬ qv = 53 := by
              intro z; subst z; first | exact absurd hc1 (by decide) | exact absurd hc3 (by decide) | exact absurd hc4 (by decide) | exact absurd hc5 (by decide) | exact absurd hc6 (by decide)
            exact ⟨by simp [own_of, z0, z16, z17, z18, z32, z33, z34, z35, z36, z37, z38, z39, z48, z49, z50, z51, z52, z53], N0, rfl⟩
          · refine ogo (fun t k => XS.icmpNo X0.here hx rfl (hb hby d2_139) rfl (flt hc6).2.2.1 k) ?_
            show OwnEnds _ _ _ _ _ _ _ (s₁.setTop (mkF m 142 #[.val (.int qv)] []))
            refine ogo (fun t k => XS.iloadN X0.here hx rfl (hb hby d2_142) rfl k) ?_
            show OwnEnds _ _ _ _ _ _ _ (s₁.setTop (mkF m 143 #[.val (.int qv)] [(.int qv)]))
            refine ogo (fun t k => XS.bipush X0.here hx rfl (hb hby d2_143) k) ?_
            show OwnEnds _ _ _ _ _ _ _ (s₁.setTop (mkF m 145 #[.val (.int qv)] [(.int (48 : Int32)), (.int qv)]))
            by_cases hc7 : qv = (48 : Int32)
            · refine ogo (fun t k => XS.icmpNo X0.here hx rfl (hb hby d2_145) rfl (teq hc7).2 k) ?_
              show OwnEnds _ _ _ _ _ _ _ (s₁.setTop (mkF m 148 #[.val (.int qv)] []))
              obtain ⟨T8, X8, e8, st8⟩ := getS2 X0 hx hZ hown (host := "") (Or.inl (hw _ (List.mem_of_getElem? (i := 34) rfl))) Via.refl e0 S_INTERNAL_SERVER_ERROR (g := (mkF m 148 #[.val (.int qv)] [])) rfl (hb hby d2_148)
              refine ogo st8 ?_
              show OwnEnds _ _ _ _ _ _ _ (T8.setTop (mkF m 151 #[.val (.int qv)] [(.ref w_INTERNAL_SERVER_ERROR)]))
              refine endA X8 hx hlk Bd.returns rfl rfl (hb hby d2_151) (by decide) (by decide) ?_
              show Q2 Z qv w_OK w_MOVED_PERMANENTLY w_FOUND w_NOT_MODIFIED w_BAD_REQUEST w_UNAUTHORIZED w_PAYMENT_REQUIRED w_FORBIDDEN w_NOT_FOUND w_REQUEST_TIMEOUT w_REQUEST_ENTITY_TOO_LARGE w_TOO_MANY_REQUESTS w_INTERNAL_SERVER_ERROR w_NOT_IMPLEMENTED w_BAD_GATEWAY w_SERVICE_UNAVAILABLE w_GATEWAY_TIMEOUT w_VERSION_NOT_SUPPORTED w_STATUSES h0 n0 _ T8.heap _
              rw [e8]
              exact ⟨by simp [own_of, hc1, hc3, hc4, hc5, hc6, hc7], N0, rfl⟩
            · refine ogo (fun t k => XS.icmpYes X0.here hx rfl (pc0 := 145) (pc' := 152) rfl (hb hby d2_145) rfl (feq hc7).2 (by decide) (by decide) k) ?_
              show OwnEnds _ _ _ _ _ _ _ (s₁.setTop (mkF m 152 #[.val (.int qv)] []))
              refine ogo (fun t k => XS.iloadN X0.here hx rfl (hb hby d2_152) rfl k) ?_
              show OwnEnds _ _ _ _ _ _ _ (s₁.setTop (mkF m 153 #[.val (.int qv)] [(.int qv)]))
              refine ogo (fun t k => XS.bipush X0.here hx rfl (hb hby d2_153) k) ?_
              show OwnEnds _ _ _ _ _ _ _ (s₁.setTop (mkF m 155 #[.val (.int qv)] [(.int (49 : Int32)), (.int qv)]))
              by_cases hc9 : qv = (49 : Int32)
              · refine ogo (fun t k => XS.icmpNo X0.here hx rfl (hb hby d2_155) rfl (teq hc9).2 k) ?_
                show OwnEnds _ _ _ _ _ _ _ (s₁.setTop (mkF m 158 #[.val (.int qv)] []))
                obtain ⟨T10, X10, e10, st10⟩ := getS2 X0 hx hZ hown (host := "") (Or.inl (hw _ (List.mem_of_getElem? (i := 44) rfl))) Via.refl e0 S_NOT_IMPLEMENTED (g := (mkF m 158 #[.val (.int qv)] [])) rfl (hb hby d2_158)
                refine ogo st10 ?_
                show OwnEnds _ _ _ _ _ _ _ (T10.setTop (mkF m 161 #[.val (.int qv)] [(.ref w_NOT_IMPLEMENTED)]))
                refine endA X10 hx hlk Bd.returns rfl rfl (hb hby d2_161) (by decide) (by decide) ?_
                show Q2 Z qv w_OK w_MOVED_PERMANENTLY w_FOUND w_NOT_MODIFIED w_BAD_REQUEST w_UNAUTHORIZED w_PAYMENT_REQUIRED w_FORBIDDEN w_NOT_FOUND w_REQUEST_TIMEOUT w_REQUEST_ENTITY_TOO_LARGE w_TOO_MANY_REQUESTS w_INTERNAL_SERVER_ERROR w_NOT_IMPLEMENTED w_BAD_GATEWAY w_SERVICE_UNAVAILABLE w_GATEWAY_TIMEOUT w_VERSION_NOT_SUPPORTED w_STATUSES h0 n0 _ T10.heap _
                rw [e10]
                exact ⟨by simp [own_of, hc1, hc3, hc4, hc5, hc6, hc7, hc9], N0, rfl⟩
              · refine ogo (fun t k => XS.icmpYes X0.here hx rfl (pc0 := 155) (pc' := 162) rfl (hb hby d2_155) rfl (feq hc9).2 (by decide) (by decide) k) ?_
                show OwnEnds _ _ _ _ _ _ _ (s₁.setTop (mkF m 162 #[.val (.int qv)] []))
                refine ogo (fun t k => XS.iloadN X0.here hx rfl (hb hby d2_162) rfl k) ?_
                show OwnEnds _ _ _ _ _ _ _ (s₁.setTop (mkF m 163 #[.val (.int qv)] [(.int qv)]))
                refine ogo (fun t k => XS.bipush X0.here hx rfl (hb hby d2_163) k) ?_
                show OwnEnds _ _ _ _ _ _ _ (s₁.setTop (mkF m 165 #[.val (.int qv)] [(.int (50 : Int32)), (.int qv)]))
                by_cases hc11 : qv = (50 : Int32)
                · refine ogo (fun t k => XS.icmpNo X0.here hx rfl (hb hby d2_165) rfl (teq hc11).2 k) ?_
                  show OwnEnds _ _ _ _ _ _ _ (s₁.setTop (mkF m 168 #[.val (.int qv)] []))
                  obtain ⟨T12, X12, e12, st12⟩ := getS2 X0 hx hZ hown (host := "") (Or.inl (hw _ (List.mem_of_getElem? (i := 38) rfl))) Via.refl e0 S_BAD_GATEWAY (g := (mkF m 168 #[.val (.int qv)] [])) rfl (hb hby d2_168)
                  refine ogo st12 ?_
                  show OwnEnds _ _ _ _ _ _ _ (T12.setTop (mkF m 171 #[.val (.int qv)] [(.ref w_BAD_GATEWAY)]))
                  refine endA X12 hx hlk Bd.returns rfl rfl (hb hby d2_171) (by decide) (by decide) ?_
                  show Q2 Z qv w_OK w_MOVED_PERMANENTLY w_FOUND w_NOT_MODIFIED w_BAD_REQUEST w_UNAUTHORIZED w_PAYMENT_REQUIRED w_FORBIDDEN w_NOT_FOUND w_REQUEST_TIMEOUT w_REQUEST_ENTITY_TOO_LARGE w_TOO_MANY_REQUESTS w_INTERNAL_SERVER_ERROR w_NOT_IMPLEMENTED w_BAD_GATEWAY w_SERVICE_UNAVAILABLE w_GATEWAY_TIMEOUT w_VERSION_NOT_SUPPORTED w_STATUSES h0 n0 _ T12.heap _
                  rw [e12]
                  exact ⟨by simp [own_of, hc1, hc3, hc4, hc5, hc6, hc7, hc9, hc11], N0, rfl⟩
                · refine ogo (fun t k => XS.icmpYes X0.here hx rfl (pc0 := 165) (pc' := 172) rfl (hb hby d2_165) rfl (feq hc11).2 (by decide) (by decide) k) ?_
                  show OwnEnds _ _ _ _ _ _ _ (s₁.setTop (mkF m 172 #[.val (.int qv)] []))
                  refine ogo (fun t k => XS.iloadN X0.here hx rfl (hb hby d2_172) rfl k) ?_
                  show OwnEnds _ _ _ _ _ _ _ (s₁.setTop (mkF m 173 #[.val (.int qv)] [(.int qv)]))
                  refine ogo (fun t k => XS.bipush X0.here hx rfl (hb hby d2_173) k) ?_
                  show OwnEnds _ _ _ _ _ _ _ (s₁.setTop (mkF m 175 #[.val (.int qv)] [(.int (51 : Int32)), (.int qv)]))
                  by_cases hc13 : qv = (51 : Int32)
                  · refine ogo (fun t k => XS.icmpNo X0.here hx rfl (hb hby d2_175) rfl (teq hc13).2 k) ?_
                    show OwnEnds _ _ _ _ _ _ _ (s₁.setTop (mkF m 178 #[.val (.int qv)] []))
                    obtain ⟨T14, X14, e14, st14⟩ := getS2 X0 hx hZ hown (host := "") (Or.inl (hw _ (List.mem_of_getElem? (i := 36) rfl))) Via.refl e0 S_SERVICE_UNAVAILABLE (g := (mkF m 178 #[.val (.int qv)] [])) rfl (hb hby d2_178)
                    refine ogo st14 ?_
                    show OwnEnds _ _ _ _ _ _ _ (T14.setTop (mkF m 181 #[.val (.int qv)] [(.ref w_SERVICE_UNAVAILABLE)]))
                    refine endA X14 hx hlk Bd.returns rfl rfl (hb hby d2_181) (by decide) (by decide) ?_
                    show Q2 Z qv w_OK w_MOVED_PERMANENTLY w_FOUND w_NOT_MODIFIED w_BAD_REQUEST w_UNAUTHORIZED w_PAYMENT_REQUIRED w_FORBIDDEN w_NOT_FOUND w_REQUEST_TIMEOUT w_REQUEST_ENTITY_TOO_LARGE w_TOO_MANY_REQUESTS w_INTERNAL_SERVER_ERROR w_NOT_IMPLEMENTED w_BAD_GATEWAY w_SERVICE_UNAVAILABLE w_GATEWAY_TIMEOUT w_VERSION_NOT_SUPPORTED w_STATUSES h0 n0 _ T14.heap _
                    rw [e14]
                    exact ⟨by simp [own_of, hc1, hc3, hc4, hc5, hc6, hc7, hc9, hc11, hc13], N0, rfl⟩
                  · refine ogo (fun t k => XS.icmpYes X0.here hx rfl (pc0 := 175) (pc' := 182) rfl (hb hby d2_175) rfl (feq hc13).2 (by decide) (by decide) k) ?_
                    show OwnEnds _ _ _ _ _ _ _ (s₁.setTop (mkF m 182 #[.val (.int qv)] []))
                    refine ogo (fun t k => XS.iloadN X0.here hx rfl (hb hby d2_182) rfl k) ?_
                    show OwnEnds _ _ _ _ _ _ _ (s₁.setTop (mkF m 183 #[.val (.int qv)] [(.int qv)]))
                    refine ogo (fun t k => XS.bipush X0.here hx rfl (hb hby d2_183) k) ?_
                    show OwnEnds _ _ _ _ _ _ _ (s₁.setTop (mkF m 185 #[.val (.int qv)] [(.int (52 : Int32)), (.int qv)]))
                    by_cases hc15 : qv = (52 : Int32)
                    · refine ogo (fun t k => XS.icmpNo X0.here hx rfl (hb hby d2_185) rfl (teq hc15).2 k) ?_
                      show OwnEnds _ _ _ _ _ _ _ (s₁.setTop (mkF m 188 #[.val (.int qv)] []))
                      obtain ⟨T16, X16, e16, st16⟩ := getS2 X0 hx hZ hown (host := "") (Or.inl (hw _ (List.mem_of_getElem? (i := 35) rfl))) Via.refl e0 S_GATEWAY_TIMEOUT (g := (mkF m 188 #[.val (.int qv)] [])) rfl (hb hby d2_188)
                      refine ogo st16 ?_
                      show OwnEnds _ _ _ _ _ _ _ (T16.setTop (mkF m 191 #[.val (.int qv)] [(.ref w_GATEWAY_TIMEOUT)]))
                      refine endA X16 hx hlk Bd.returns rfl rfl (hb hby d2_191) (by decide) (by decide) ?_
                      show Q2 Z qv w_OK w_MOVED_PERMANENTLY w_FOUND w_NOT_MODIFIED w_BAD_REQUEST w_UNAUTHORIZED w_PAYMENT_REQUIRED w_FORBIDDEN w_NOT_FOUND w_REQUEST_TIMEOUT w_REQUEST_ENTITY_TOO_LARGE w_TOO_MANY_REQUESTS w_INTERNAL_SERVER_ERROR w_NOT_IMPLEMENTED w_BAD_GATEWAY w_SERVICE_UNAVAILABLE w_GATEWAY_TIMEOUT w_VERSION_NOT_SUPPORTED w_STATUSES h0 n0 _ T16.heap _
                      rw [e16]
                      exact ⟨by simp [own_of, hc1, hc3, hc4, hc5, hc6, hc7, hc9, hc11, hc13, hc15], N0, rfl⟩
                    · refine ogo (fun t k => XS.icmpYes X0.here hx rfl (pc0 := 185) (pc' := 192) rfl (hb hby d2_185) rfl (feq hc15).2 (by decide) (by decide) k) ?_
                      show OwnEnds _ _ _ _ _ _ _ (s₁.setTop (mkF m 192 #[.val (.int qv)] []))
                      obtain ⟨T17, X17, e17, st17⟩ := getS2 X0 hx hZ hown (host := "") (Or.inl (hw _ (List.mem_of_getElem? (i := 39) rfl))) Via.refl e0 S_VERSION_NOT_SUPPORTED (g := (mkF m 192 #[.val (.int qv)] [])) rfl (hb hby d2_192)
                      refine ogo st17 ?_
                      show OwnEnds _ _ _ _ _ _ _ (T17.setTop (mkF m 195 #[.val (.int qv)] [(.ref w_VERSION_NOT_SUPPORTED)]))
                      refine endA X17 hx hlk Bd.returns rfl rfl (hb hby d2_195) (by decide) (by decide) ?_
                      show Q2 Z qv w_OK w_MOVED_PERMANENTLY w_FOUND w_NOT_MODIFIED w_BAD_REQUEST w_UNAUTHORIZED w_PAYMENT_REQUIRED w_FORBIDDEN w_NOT_FOUND w_REQUEST_TIMEOUT w_REQUEST_ENTITY_TOO_LARGE w_TOO_MANY_REQUESTS w_INTERNAL_SERVER_ERROR w_NOT_IMPLEMENTED w_BAD_GATEWAY w_SERVICE_UNAVAILABLE w_GATEWAY_TIMEOUT w_VERSION_NOT_SUPPORTED w_STATUSES h0 n0 _ T17.heap _
                      rw [e17]
                      have z : qv = 53 := by
                        apply Int32.toInt_inj.mp
                        have yhc1 := hc1
                        have yhc3 := hc3
                        have yhc4 := hc4
                        have yhc5 := hc5
                        have yhc6 := hc6
                        have yhc7 := hc7
                        have yhc9 := hc9
                        have yhc11 := hc11
                        have yhc13 := hc13
                        have yhc15 := hc15
                        simp only [Int32.lt_iff_toInt_lt, ← Int32.toInt_inj] at yhc1 yhc3 yhc4 yhc5 yhc6 yhc7 yhc9 yhc11 yhc13 yhc15
                        have t0 : (0 : Int32).toInt = 0 := by decide
                        have t16 : (16 : Int32).toInt = 16 := by decide
                        have t32 : (32 : Int32).toInt = 32 := by decide
                        have t48 : (48 : Int32).toInt = 48 := by decide
                        have t49 : (49 : Int32).toInt = 49 := by decide
                        have t50 : (50 : Int32).toInt = 50 := by decide
                        have t51 : (51 : Int32).toInt = 51 := by decide
                        have t52 : (52 : Int32).toInt = 52 := by decide
                        have t53 : (53 : Int32).toInt = 53 := by decide
                        omega
                      exact ⟨by simp [own_of, z], N0, rfl⟩
      · refine ogo (fun t k => XS.icmpNo X0.here hx rfl (hb hby d2_47) rfl (flt hc4).1 k) ?_
        show OwnEnds _ _ _ _ _ _ _ (s₁.setTop (mkF m 50 #[.val (.int qv)] []))
        refine ogo (fun t k => XS.iloadN X0.here hx rfl (hb hby d2_50) rfl k) ?_
        show OwnEnds _ _ _ _ _ _ _ (s₁.setTop (mkF m 51 #[.val (.int qv)] [(.int qv)]))
        refine ogo (fun t k => XS.bipush X0.here hx rfl (hb hby d2_51) k) ?_
        show OwnEnds _ _ _ _ _ _ _ (s₁.setTop (mkF m 53 #[.val (.int qv)] [(.int (39 : Int32)), (.int qv)]))
        by_cases hc18 : (39 : Int32) < qv
        · refine ogo (fun t k => XS.icmpYes X0.here hx rfl (pc0 := 53) (pc' := 130) rfl (hb hby d2_53) rfl (tlt hc18).2.2.1 (by decide) (by decide) k) ?_
          show OwnEnds _ _ _ _ _ _ _ (s₁.setTop (mkF m 130 #[.val (.int qv)] []))
          refine ogo (fun t k => XS.iloadN X0.here hx rfl (hb hby d2_130) rfl k) ?_
          show OwnEnds _ _ _ _ _ _ _ (s₁.setTop (mkF m 131 #[.val (.int qv)] [(.int qv)]))
          refine ogo (fun t k => XS.bipush X0.here hx rfl (hb hby d2_131) k) ?_
          show OwnEnds _ _ _ _ _ _ _ (s₁.setTop (mkF m 133 #[.val (.int qv)] [(.int (48 : Int32)), (.int qv)]))
          by_cases hc19 : qv < (48 : Int32)
          · refine ogo (fun t k => XS.icmpYes X0.here hx rfl (pc0 := 133) (pc' := 196) rfl (hb hby d2_133) rfl (tlt hc19).1 (by decide) (by decide) k) ?_
            show OwnEnds _ _ _ _ _ _ _ (s₁.setTop (mkF m 196 #[.val (.int qv)] []))
            refine ogo (fun t k => XS.aconstNull X0.here hx rfl (hb hby d2_196) k) ?_
            show OwnEnds _ _ _ _ _ _ _ (s₁.setTop (mkF m 197 #[.val (.int qv)] [.null]))
            refine endA X0 hx hlk Bd.returns rfl rfl (hb hby d2_197) (by decide) (by decide) ?_
            show Q2 Z qv w_OK w_MOVED_PERMANENTLY w_FOUND w_NOT_MODIFIED w_BAD_REQUEST w_UNAUTHORIZED w_PAYMENT_REQUIRED w_FORBIDDEN w_NOT_FOUND w_REQUEST_TIMEOUT w_REQUEST_ENTITY_TOO_LARGE w_TOO_MANY_REQUESTS w_INTERNAL_SERVER_ERROR w_NOT_IMPLEMENTED w_BAD_GATEWAY w_SERVICE_UNAVAILABLE w_GATEWAY_TIMEOUT w_VERSION_NOT_SUPPORTED w_STATUSES h0 n0 _ s₁.heap _
            rw [e0]
            have z0 : ¬ qv = 0 := by
              intro z; subst z; first | exact absurd hc1 (by decide) | exact absurd hc3 (by decide) | exact absurd hc4 (by decide) | exact absurd hc18 (by decide) | exact absurd hc19 (by decide)
            have z16 : ¬ qv = 16 := by
              intro z; subst z; first | exact absurd hc1 (by decide) | exact absurd hc3 (by decide) | exact absurd hc4 (by decide) | exact absurd hc18 (by decide) | exact absurd hc19 (by decide)
            have z17 : ¬ qv = 17 := by
              intro z; subst z; first | exact absurd hc1 (by decide) | exact absurd hc3 (by decide) | exact absurd hc4 (by decide) | exact absurd hc18 (by decide) | exact absurd hc19 (by decide)
            have z18 : ¬ qv = 18 := by
              intro z; subst z; first | exact absurd hc1 (by decide) | exact absurd hc3 (by decide) | exact absurd hc4 (by decide) | exact absurd hc18 (by decide) | exact absurd hc19 (by decide)
            have z32 : ¬ qv = 32 := by
              intro z; subst z; first | exact absurd hc1 (by decide) | exact absurd hc3 (by decide) | exact absurd hc4 (by decide) | exact absurd hc18 (by decide) | exact absurd hc19 (by decide)
            have z33 : ¬ qv = 33 := by
              intro z; subst z; first | exact absurd hc1 (by decide) | exact absurd hc3 (by decide) | exact absurd hc4 (by decide) | exact absurd hc18 (by decide) | exact absurd hc19 (by decide)
            have z34 : ¬ qv = 34 := by
              intro z; subst z; first | exact absurd hc1 (by decide) | exact absurd hc3 (by decide) | exact absurd hc4 (by decide) | exact absurd hc18 (by decide) | exact absurd hc19 (by decide)
            have z35 : ¬ qv = 35 := by
              intro z; subst z; first | exact absurd hc1 (by decide) | exact absurd hc3 (by decide) | exact absurd hc4 (by decide) | exact absurd hc18 (by decide) | exact absurd hc19 (by decide)
            have z36 : ¬ qv = 36 := by
              intro z; subst z; first | exact absurd hc1 (by decide) | exact absurd hc3 (by decide) | exact absurd hc4 (by decide) | exact absurd hc18 (by decide) | exact absurd hc19 (by decide)
            have z37 : ¬ qv = 37 := by
              intro z; subst z; first | exact absurd hc1 (by decide) | exact absurd hc3 (by decide) | exact absurd hc4 (by decide) | exact absurd hc18 (by decide) | exact absurd hc19 (by decide)
            have z38 : ¬ qv = 38 := by
              intro z; subst z; first | exact absurd hc1 (by decide) | exact absurd hc3 (by decide) | exact absurd hc4 (by decide) | exact absurd hc18 (by decide) | exact absurd hc19 (by decide)
            have z39 : ¬ qv = 39 := by
              intro z; subst z; first | exact absurd hc1 (by decide) | exact absurd hc3 (by decide) | exact absurd hc4 (by decide) | exact absurd hc18 (by decide) | exact absurd hc19 (by decide)
            have z48 : ¬ qv = 48 := by
              intro z; subst z; first | exact absurd hc1 (by decide) | exact absurd hc3 (by decide) | exact absurd hc4 (by decide) | exact absurd hc18 (by decide) | exact absurd hc19 (by decide)
            have z49 : ¬ qv = 49 := by
              intro z; subst z; first | exact absurd hc1 (by decide) | exact absurd hc3 (by decide) | exact absurd hc4 (by decide) | exact absurd hc18 (by decide) | exact absurd hc19 (by decide)
            have z50 : ¬ qv = 50 := by
              intro z; subst z; first | exact absurd hc1 (by decide) | exact absurd hc3 (by decide) | exact absurd hc4 (by decide) | exact absurd hc18 (by decide) | exact absurd hc19 (by decide)
            have z51 : ¬ qv = 51 := by
              intro z; subst z; first | exact absurd hc1 (by decide) | exact absurd hc3 (by decide) | exact absurd hc4 (by decide) | exact absurd hc18 (by decide) | exact absurd hc19 (by decide)
            have z52 : ¬ qv = 52 := by
              intro z; subst z; first | exact absurd hc1 (by decide) | exact absurd hc3 (by decide) | exact absurd hc4 (by decide) | exact absurd hc18 (by decide) | exact absurd hc19 (by decide)
            have z53 : ¬ qv = 53 := by
              intro z; subst z; first | exact absurd hc1 (by decide) | exact absurd hc3 (by decide) | exact absurd hc4 (by decide) | exact absurd hc18 (by decide) | exact absurd hc19 (by decide)
            exact ⟨by simp [own_of, z0, z16, z17, z18, z32, z33, z34, z35, z36, z37, z38, z39, z48, z49, z50, z51, z52, z53], N0, rfl⟩
          · refine ogo (fun t k => XS.icmpNo X0.here hx rfl (hb hby d2_133) rfl (flt hc19).1 k) ?_
            show OwnEnds _ _ _ _ _ _ _ (s₁.setTop (mkF m 136 #[.val (.int qv)] []))
            refine ogo (fun t k => XS.iloadN X0.here hx rfl (hb hby d2_136) rfl k) ?_
            show OwnEnds _ _ _ _ _ _ _ (s₁.setTop (mkF m 137 #[.val (.int qv)] [(.int qv)]))
            refine ogo (fun t k => XS.bipush X0.here hx rfl (hb hby d2_137) k) ?_
            show OwnEnds _ _ _ _ _ _ _ (s₁.setTop (mkF m 139 #[.val (.int qv)] [(.int (53 : Int32)), (.int qv)]))
            by_cases hc20 : (53 : Int32) < qv
            · refine ogo (fun t k => XS.icmpYes X0.here hx rfl (pc0 := 139) (pc' := 196) rfl (hb hby d2_139) rfl (tlt hc20).2.2.1 (by decide) (by decide) k) ?_
              show OwnEnds _ _ _ _ _ _ _ (s₁.setTop (mkF m 196 #[.val (.int qv)] []))
              refine ogo (fun t k => XS.aconstNull X0.here hx rfl (hb hby d2_196) k) ?_
              show OwnEnds _ _ _ _ _ _ _ (s₁.setTop (mkF m 197 #[.val (.int qv)] [.null]))
              refine endA X0 hx hlk Bd.returns rfl rfl (hb hby d2_197) (by decide) (by decide) ?_
              show Q2 Z qv w_OK w_MOVED_PERMANENTLY w_FOUND w_NOT_MODIFIED w_BAD_REQUEST w_UNAUTHORIZED w_PAYMENT_REQUIRED w_FORBIDDEN w_NOT_FOUND w_REQUEST_TIMEOUT w_REQUEST_ENTITY_TOO_LARGE w_TOO_MANY_REQUESTS w_INTERNAL_SERVER_ERROR w_NOT_IMPLEMENTED w_BAD_GATEWAY w_SERVICE_UNAVAILABLE w_GATEWAY_TIMEOUT w_VERSION_NOT_SUPPORTED w_STATUSES h0 n0 _ s₁.heap _
              rw [e0]
              have z0 : ¬ qv = 0 := by
                intro z; subst z; first | exact absurd hc1 (by decide) | exact absurd hc3 (by decide) | exact absurd hc4 (by decide) | exact absurd hc18 (by decide) | exact absurd hc19 (by decide) | exact absurd hc20 (by decide)
              have z16 : ¬ qv = 16 := by
                intro z; subst z; first | exact absurd hc1 (by decide) | exact absurd hc3 (by decide) | exact absurd hc4 (by decide) | exact absurd hc18 (by decide) | exact absurd hc19 (by decide) | exact absurd hc20 (by decide)
              have z17 : ¬ qv = 17 := by
                intro z; subst z; first | exact absurd hc1 (by decide) | exact absurd hc3 (by decide) | exact absurd hc4 (by decide) | exact absurd hc18 (by decide) | exact absurd hc19 (by decide) | exact absurd hc20 (by decide)
              have z18 : ¬ qv = 18 := by
                intro z; subst z; first | exact absurd hc1 (by decide) | exact absurd hc3 (by decide) | exact absurd hc4 (by decide) | exact absurd hc18 (by decide) | exact absurd hc19 (by decide) | exact absurd hc20 (by decide)
              have z32 : ¬ qv = 32 := by
                intro z; subst z; first | exact absurd hc1 (by decide) | exact absurd hc3 (by decide) | exact absurd hc4 (by decide) | exact absurd hc18 (by decide) | exact absurd hc19 (by decide) | exact absurd hc20 (by decide)
              have z33 : ¬ qv = 33 := by
                intro z; subst z; first | exact absurd hc1 (by decide) | exact absurd hc3 (by decide) | exact absurd hc4 (by decide) | exact absurd hc18 (by decide) | exact absurd hc19 (by decide) | exact absurd hc20 (by decide)
              have z34 : ¬ qv = 34 := by
                intro z; subst z; first | exact absurd hc1 (by decide) | exact absurd hc3 (by decide) | exact absurd hc4 (by decide) | exact absurd hc18 (by decide) | exact absurd hc19 (by decide) | exact absurd hc20 (by decide)
              have z35 : ¬ qv = 35 := by
                intro z; subst z; first | exact absurd hc1 (by decide) | exact absurd hc3 (by decide) | exact absurd hc4 (by decide) | exact absurd hc18 (by decide) | exact absurd hc19 (by decide) | exact absurd hc20 (by decide)
              have z36 : ¬ qv = 36 := by
                intro z; subst z; first | exact absurd hc1 (by decide) | exact absurd hc3 (by decide) | exact absurd hc4 (by decide) | exact absurd hc18 (by decide) | exact absurd hc19 (by decide) | exact absurd hc20 (by decide)
              have z37 : ¬ qv = 37 := by
                intro z; subst z; first | exact absurd hc1 (by decide) | exact absurd hc3 (by decide) | exact absurd hc4 (by decide) | exact absurd hc18 (by decide) | exact absurd hc19 (by decide) | exact absurd hc20 (by decide)
              have z38 : ¬ qv = 38 := by
                intro z; subst z; first | exact absurd hc1 (by decide) | exact absurd hc3 (by decide) | exact absurd hc4 (by decide) | exact absurd hc18 (by decide) | exact absurd hc19 (by decide) | exact absurd hc20 (by decide)
              have z39 : ¬ qv = 39 := by
                intro z; subst z; first | exact absurd hc1 (by decide) | exact absurd hc3 (by decide) | exact absurd hc4 (by decide) | exact absurd hc18 (by decide) | exact absurd hc19 (by decide) | exact absurd hc20 (by decide)
              have z48 : ¬ qv = 48 := by
                intro z; subst z; first | exact absurd hc1 (by decide) | exact absurd hc3 (by decide) | exact absurd hc4 (by decide) | exact absurd hc18 (by decide) | exact absurd hc19 (by decide) | exact absurd hc20 (by decide)
              have z49 : ¬ qv = 49 := by
                intro z; subst z; first | exact absurd hc1 (by decide) | exact absurd hc3 (by decide) | exact absurd hc4 (by decide) | exact absurd hc18 (by decide) | exact absurd hc19 (by decide) | exact absurd hc20 (by decide)
              have z50 : ¬ qv = 50 := by
                intro z; subst z; first | exact absurd hc1 (by decide) | exact absurd hc3 (by decide) | exact absurd hc4 (by decide) | exact absurd hc18 (by decide) | exact absurd hc19 (by decide) | exact absurd hc20 (by decide)
              have z51 : ¬ qv = 51 := by
                intro z; subst z; first | exact absurd hc1 (by decide) | exact absurd hc3 (by decide) | exact absurd hc4 (by decide) | exact absurd hc18 (by decide) | exact absurd hc19 (by decide) | exact absurd hc20 (by decide)
              have z52 : ¬ qv = 52 := by
                intro z; subst z; first | exact absurd hc1 (by decide) | exact absurd hc3 (by decide) | exact absurd hc4 (by decide) | exact absurd hc18 (by decide) | exact absurd hc19 (by decide) | exact absurd hc20 (by decide)
              have z53 : ¬ qv = 53 := by
                intro z; subst z; first | exact absurd hc1 (by decide) | exact absurd hc3 (by decide) | exact absurd hc4 (by decide) | exact absurd hc18 (by decide) | exact absurd hc19 (by decide) | exact absurd hc20 (by decide)
              exact ⟨by simp [own_of, z0, z16, z17, z18, z32, z33, z34, z35, z36, z37, z38, z39, z48, z49, z50, z51, z52, z53], N0, rfl⟩
            · refine ogo (fun t k => XS.icmpNo X0.here hx rfl (hb hby d2_139) rfl (flt hc20).2.2.1 k) ?_
              show OwnEnds _ _ _ _ _ _ _ (s₁.setTop (mkF m 142 #[.val (.int qv)] []))
              refine ogo (fun t k => XS.iloadN X0.here hx rfl (hb hby d2_142) rfl k) ?_
              show OwnEnds _ _ _ _ _ _ _ (s₁.setTop (mkF m 143 #[.val (.int qv)] [(.int qv)]))
              refine ogo (fun t k => XS.bipush X0.here hx rfl (hb hby d2_143) k) ?_
              show OwnEnds _ _ _ _ _ _ _ (s₁.setTop (mkF m 145 #[.val (.int qv)] [(.int (48 : Int32)), (.int qv)]))
              by_cases hc21 : qv = (48 : Int32)
              · refine ogo (fun t k => XS.icmpNo X0.here hx rfl (hb hby d2_145) rfl (teq hc21).2 k) ?_
                show OwnEnds _ _ _ _ _ _ _ (s₁.setTop (mkF m 148 #[.val (.int qv)] []))
                obtain ⟨T22, X22, e22, st22⟩ := getS2 X0 hx hZ hown (host := "") (Or.inl (hw _ (List.mem_of_getElem? (i := 34) rfl))) Via.refl e0 S_INTERNAL_SERVER_ERROR (g := (mkF m 148 #[.val (.int qv)] [])) rfl (hb hby d2_148)
                refine ogo st22 ?_
                show OwnEnds _ _ _ _ _ _ _ (T22.setTop (mkF m 151 #[.val (.int qv)] [(.ref w_INTERNAL_SERVER_ERROR)]))
                refine endA X22 hx hlk Bd.returns rfl rfl (hb hby d2_151) (by decide) (by decide) ?_
                show Q2 Z qv w_OK w_MOVED_PERMANENTLY w_FOUND w_NOT_MODIFIED w_BAD_REQUEST w_UNAUTHORIZED w_PAYMENT_REQUIRED w_FORBIDDEN w_NOT_FOUND w_REQUEST_TIMEOUT w_REQUEST_ENTITY_TOO_LARGE w_TOO_MANY_REQUESTS w_INTERNAL_SERVER_ERROR w_NOT_IMPLEMENTED w_BAD_GATEWAY w_SERVICE_UNAVAILABLE w_GATEWAY_TIMEOUT w_VERSION_NOT_SUPPORTED w_STATUSES h0 n0 _ T22.heap _
                rw [e22]
                exact ⟨by simp [own_of, hc1, hc3, hc4, hc18, hc19, hc20, hc21], N0, rfl⟩
              · refine ogo (fun t k => XS.icmpYes X0.here hx rfl (pc0 := 145) (pc' := 152) rfl (hb hby d2_145) rfl (feq hc21).2 (by decide) (by decide) k) ?_
                show OwnEnds _ _ _ _ _ _ _ (s₁.setTop (mkF m 152 #[.val (.int qv)] []))
                refine ogo (fun t k => XS.iloadN X0.here hx rfl (hb hby d2_152) rfl k) ?_
                show OwnEnds _ _ _ _ _ _ _ (s₁.setTop (mkF m 153 #[.val (.int qv)] [(.int qv)]))
                refine ogo (fun t k => XS.bipush X0.here hx rfl (hb hby d2_153) k) ?_
                show OwnEnds _ _ _ _ _ _ _ (s₁.setTop (mkF m 155 #[.val (.int qv)] [(.int (49 : Int32)), (.int qv)]))
                by_cases hc23 : qv = (49 : Int32)
                · refine ogo (fun t k => XS.icmpNo X0.here hx rfl (hb hby d2_155) rfl (teq hc23).2 k) ?_
                  show OwnEnds _ _ _ _ _ _ _ (s₁.setTop (mkF m 158 #[.val (.int qv)] []))
                  obtain ⟨T24, X24, e24, st24⟩ := getS2 X0 hx hZ hown (host := "") (Or.inl (hw _ (List.mem_of_getElem? (i := 44) rfl))) Via.refl e0 S_NOT_IMPLEMENTED (g := (mkF m 158 #[.val (.int qv)] [])) rfl (hb hby d2_158)
                  refine ogo st24 ?_
                  show OwnEnds _ _ _ _ _ _ _ (T24.setTop (mkF m 161 #[.val (.int qv)] [(.ref w_NOT_IMPLEMENTED)]))
                  refine endA X24 hx hlk Bd.returns rfl rfl (hb hby d2_161) (by decide) (by decide) ?_
                  show Q2 Z qv w_OK w_MOVED_PERMANENTLY w_FOUND w_NOT_MODIFIED w_BAD_REQUEST w_UNAUTHORIZED w_PAYMENT_REQUIRED w_FORBIDDEN w_NOT_FOUND w_REQUEST_TIMEOUT w_REQUEST_ENTITY_TOO_LARGE w_TOO_MANY_REQUESTS w_INTERNAL_SERVER_ERROR w_NOT_IMPLEMENTED w_BAD_GATEWAY w_SERVICE_UNAVAILABLE w_GATEWAY_TIMEOUT w_VERSION_NOT_SUPPORTED w_STATUSES h0 n0 _ T24.heap _
                  rw [e24]
                  exact ⟨by simp [own_of, hc1, hc3, hc4, hc18, hc19, hc20, hc21, hc23], N0, rfl⟩
                · refine ogo (fun t k => XS.icmpYes X0.here hx rfl (pc0 := 155) (pc' := 162) rfl (hb hby d2_155) rfl (feq hc23).2 (by decide) (by decide) k) ?_
                  show OwnEnds _ _ _ _ _ _ _ (s₁.setTop (mkF m 162 #[.val (.int qv)] []))
                  refine ogo (fun t k => XS.iloadN X0.here hx rfl (hb hby d2_162) rfl k) ?_
                  show OwnEnds _ _ _ _ _ _ _ (s₁.setTop (mkF m 163 #[.val (.int qv)] [(.int qv)]))
                  refine ogo (fun t k => XS.bipush X0.here hx rfl (hb hby d2_163) k) ?_
                  show OwnEnds _ _ _ _ _ _ _ (s₁.setTop (mkF m 165 #[.val (.int qv)] [(.int (50 : Int32)), (.int qv)]))
                  by_cases hc25 : qv = (50 : Int32)
                  · refine ogo (fun t k => XS.icmpNo X0.here hx rfl (hb hby d2_165) rfl (teq hc25).2 k) ?_
                    show OwnEnds _ _ _ _ _ _ _ (s₁.setTop (mkF m 168 #[.val (.int qv)] []))
                    obtain ⟨T26, X26, e26, st26⟩ := getS2 X0 hx hZ hown (host := "") (Or.inl (hw _ (List.mem_of_getElem? (i := 38) rfl))) Via.refl e0 S_BAD_GATEWAY (g := (mkF m 168 #[.val (.int qv)] [])) rfl (hb hby d2_168)
                    refine ogo st26 ?_
                    show OwnEnds _ _ _ _ _ _ _ (T26.setTop (mkF m 171 #[.val (.int qv)] [(.ref w_BAD_GATEWAY)]))
                    refine endA X26 hx hlk Bd.returns rfl rfl (hb hby d2_171) (by decide) (by decide) ?_
                    show Q2 Z qv w_OK w_MOVED_PERMANENTLY w_FOUND w_NOT_MODIFIED w_BAD_REQUEST w_UNAUTHORIZED w_PAYMENT_REQUIRED w_FORBIDDEN w_NOT_FOUND w_REQUEST_TIMEOUT w_REQUEST_ENTITY_TOO_LARGE w_TOO_MANY_REQUESTS w_INTERNAL_SERVER_ERROR w_NOT_IMPLEMENTED w_BAD_GATEWAY w_SERVICE_UNAVAILABLE w_GATEWAY_TIMEOUT w_VERSION_NOT_SUPPORTED w_STATUSES h0 n0 _ T26.heap _
                    rw [e26]
                    exact ⟨by simp [own_of, hc1, hc3, hc4, hc18, hc19, hc20, hc21, hc23, hc25], N0, rfl⟩
                  · refine ogo (fun t k => XS.icmpYes X0.here hx rfl (pc0 := 165) (pc' := 172) rfl (hb hby d2_165) rfl (feq hc25).2 (by decide) (by decide) k) ?_
                    show OwnEnds _ _ _ _ _ _ _ (s₁.setTop (mkF m 172 #[.val (.int qv)] []))
                    refine ogo (fun t k => XS.iloadN X0.here hx rfl (hb hby d2_172) rfl k) ?_
                    show OwnEnds _ _ _ _ _ _ _ (s₁.setTop (mkF m 173 #[.val (.int qv)] [(.int qv)]))
                    refine ogo (fun t k => XS.bipush X0.here hx rfl (hb hby d2_173) k) ?_
                    show OwnEnds _ _ _ _ _ _ _ (s₁.setTop (mkF m 175 #[.val (.int qv)] [(.int (51 : Int32)), (.int qv)]))
                    by_cases hc27 : qv = (51 : Int32)
                    · refine ogo (fun t k => XS.icmpNo X0.here hx rfl (hb hby d2_175) rfl (teq hc27).2 k) ?_
                      show OwnEnds _ _ _ _ _ _ _ (s₁.setTop (mkF m 178 #[.val (.int qv)] []))
                      obtain ⟨T28, X28, e28, st28⟩ := getS2 X0 hx hZ hown (host := "") (Or.inl (hw _ (List.mem_of_getElem? (i := 36) rfl))) Via.refl e0 S_SERVICE_UNAVAILABLE (g := (mkF m 178 #[.val (.int qv)] [])) rfl (hb hby d2_178)
                      refine ogo st28 ?_
                      show OwnEnds _ _ _ _ _ _ _ (T28.setTop (mkF m 181 #[.val (.int qv)] [(.ref w_SERVICE_UNAVAILABLE)]))
                      refine endA X28 hx hlk Bd.returns rfl rfl (hb hby d2_181) (by decide) (by decide) ?_
                      show Q2 Z qv w_OK w_MOVED_PERMANENTLY w_FOUND w_NOT_MODIFIED w_BAD_REQUEST w_UNAUTHORIZED w_PAYMENT_REQUIRED w_FORBIDDEN w_NOT_FOUND w_REQUEST_TIMEOUT w_REQUEST_ENTITY_TOO_LARGE w_TOO_MANY_REQUESTS w_INTERNAL_SERVER_ERROR w_NOT_IMPLEMENTED w_BAD_GATEWAY w_SERVICE_UNAVAILABLE w_GATEWAY_TIMEOUT w_VERSION_NOT_SUPPORTED w_STATUSES h0 n0 _ T28.heap _
                      rw [e28]
                      exact ⟨by simp [own_of, hc1, hc3, hc4, hc18, hc19, hc20, hc21, hc23, hc25, hc27], N0, rfl⟩
                    · refine ogo (fun t k => XS.icmpYes X0.here hx rfl (pc0 := 175) (pc' := 182) rfl (hb hby d2_175) rfl (feq hc27).2 (by decide) (by decide) k) ?_
                      show OwnEnds _ _ _ _ _ _ _ (s₁.setTop (mkF m 182 #[.val (.int qv)] []))
                      refine ogo (fun t k => XS.iloadN X0.here hx rfl (hb hby d2_182) rfl k) ?_
                      show OwnEnds _ _ _ _ _ _ _ (s₁.setTop (mkF m 183 #[.val (.int qv)] [(.int qv)]))
                      refine ogo (fun t k => XS.bipush X0.here hx rfl (hb hby d2_183) k) ?_
                      show OwnEnds _ _ _ _ _ _ _ (s₁.setTop (mkF m 185 #[.val (.int qv)] [(.int (52 : Int32)), (.int qv)]))
                      by_cases hc29 : qv = (52 : Int32)
                      · refine ogo (fun t k => XS.icmpNo X0.here hx rfl (hb hby d2_185) rfl (teq hc29).2 k) ?_
                        show OwnEnds _ _ _ _ _ _ _ (s₁.setTop (mkF m 188 #[.val (.int qv)] []))
                        obtain ⟨T30, X30, e30, st30⟩ := getS2 X0 hx hZ hown (host := "") (Or.inl (hw _ (List.mem_of_getElem? (i := 35) rfl))) Via.refl e0 S_GATEWAY_TIMEOUT (g := (mkF m 188 #[.val (.int qv)] [])) rfl (hb hby d2_188)
                        refine ogo st30 ?_
                        show OwnEnds _ _ _ _ _ _ _ (T30.setTop (mkF m 191 #[.val (.int qv)] [(.ref w_GATEWAY_TIMEOUT)]))
                        refine endA X30 hx hlk Bd.returns rfl rfl (hb hby d2_191) (by decide) (by decide) ?_
                        show Q2 Z qv w_OK w_MOVED_PERMANENTLY w_FOUND w_NOT_MODIFIED w_BAD_REQUEST w_UNAUTHORIZED w_PAYMENT_REQUIRED w_FORBIDDEN w_NOT_FOUND w_REQUEST_TIMEOUT w_REQUEST_ENTITY_TOO_LARGE w_TOO_MANY_REQUESTS w_INTERNAL_SERVER_ERROR w_NOT_IMPLEMENTED w_BAD_GATEWAY w_SERVICE_UNAVAILABLE w_GATEWAY_TIMEOUT w_VERSION_NOT_SUPPORTED w_STATUSES h0 n0 _ T30.heap _
                        rw [e30]
                        exact ⟨by simp [own_of, hc1, hc3, hc4, hc18, hc19, hc20, hc21, hc23, hc25, hc27, hc29], N0, rfl⟩
                      · refine ogo (fun t k => XS.icmpYes X0.here hx rfl (pc0 := 185) (pc' := 192) rfl (hb hby d2_185) rfl (feq hc29).2 (by decide) (by decide) k) ?_
                        show OwnEnds _ _ _ _ _ _ _ (s₁.setTop (mkF m 192 #[.val (.int qv)] []))
                        obtain ⟨T31, X31, e31, st31⟩ := getS2 X0 hx hZ hown (host := "") (Or.inl (hw _ (List.mem_of_getElem? (i := 39) rfl))) Via.refl e0 S_VERSION_NOT_SUPPORTED (g := (mkF m 192 #[.val (.int qv)] [])) rfl (hb hby d2_192)
                        refine ogo st31 ?_
                        show OwnEnds _ _ _ _ _ _ _ (T31.setTop (mkF m 195 #[.val (.int qv)] [(.ref w_VERSION_NOT_SUPPORTED)]))
                        refine endA X31 hx hlk Bd.returns rfl rfl (hb hby d2_195) (by decide) (by decide) ?_
                        show Q2 Z qv w_OK w_MOVED_PERMANENTLY w_FOUND w_NOT_MODIFIED w_BAD_REQUEST w_UNAUTHORIZED w_PAYMENT_REQUIRED w_FORBIDDEN w_NOT_FOUND w_REQUEST_TIMEOUT w_REQUEST_ENTITY_TOO_LARGE w_TOO_MANY_REQUESTS w_INTERNAL_SERVER_ERROR w_NOT_IMPLEMENTED w_BAD_GATEWAY w_SERVICE_UNAVAILABLE w_GATEWAY_TIMEOUT w_VERSION_NOT_SUPPORTED w_STATUSES h0 n0 _ T31.heap _
                        rw [e31]
                        have z : qv = 53 := by
                          apply Int32.toInt_inj.mp
                          have yhc1 := hc1
                          have yhc3 := hc3
                          have yhc4 := hc4
                          have yhc18 := hc18
                          have yhc19 := hc19
                          have yhc20 := hc20
                          have yhc21 := hc21
                          have yhc23 := hc23
                          have yhc25 := hc25
                          have yhc27 := hc27
                          have yhc29 := hc29
                          simp only [Int32.lt_iff_toInt_lt, ← Int32.toInt_inj] at yhc1 yhc3 yhc4 yhc18 yhc19 yhc20 yhc21 yhc23 yhc25 yhc27 yhc29
                          have t0 : (0 : Int32).toInt = 0 := by decide
                          have t16 : (16 : Int32).toInt = 16 := by decide
                          have t32 : (32 : Int32).toInt = 32 := by decide
                          have t39 : (39 : Int32).toInt = 39 := by decide
                          have t48 : (48 : Int32).toInt = 48 := by decide
                          have t49 : (49 : Int32).toInt = 49 := by decide
                          have t50 : (50 : Int32).toInt = 50 := by decide
                          have t51 : (51 : Int32).toInt = 51 := by decide
                          have t52 : (52 : Int32).toInt = 52 := by decide
                          have t53 : (53 : Int32).toInt = 53 := by decide
                          omega
                        exact ⟨by simp [own_of, z], N0, rfl⟩
        · refine ogo (fun t k => XS.icmpNo X0.here hx rfl (hb hby d2_53) rfl (flt hc18).2.2.1 k) ?_
          show OwnEnds _ _ _ _ _ _ _ (s₁.setTop (mkF m 56 #[.val (.int qv)] []))
          refine ogo (fun t k => XS.iloadN X0.here hx rfl (hb hby d2_56) rfl k) ?_
          show OwnEnds _ _ _ _ _ _ _ (s₁.setTop (mkF m 57 #[.val (.int qv)] [(.int qv)]))
          refine ogo (fun t k => XS.bipush X0.here hx rfl (hb hby d2_57) k) ?_
          show OwnEnds _ _ _ _ _ _ _ (s₁.setTop (mkF m 59 #[.val (.int qv)] [(.int (32 : Int32)), (.int qv)]))
          by_cases hc32 : qv = (32 : Int32)
          · refine ogo (fun t k => XS.icmpNo X0.here hx rfl (hb hby d2_59) rfl (teq hc32).2 k) ?_
            show OwnEnds _ _ _ _ _ _ _ (s₁.setTop (mkF m 62 #[.val (.int qv)] []))
            obtain ⟨T33, X33, e33, st33⟩ := getS2 X0 hx hZ hown (host := "") (Or.inl (hw _ (List.mem_of_getElem? (i := 32) rfl))) Via.refl e0 S_BAD_REQUEST (g := (mkF m 62 #[.val (.int qv)] [])) rfl (hb hby d2_62)
            refine ogo st33 ?_
            show OwnEnds _ _ _ _ _ _ _ (T33.setTop (mkF m 65 #[.val (.int qv)] [(.ref w_BAD_REQUEST)]))
            refine endA X33 hx hlk Bd.returns rfl rfl (hb hby d2_65) (by decide) (by decide) ?_
            show Q2 Z qv w_OK w_MOVED_PERMANENTLY w_FOUND w_NOT_MODIFIED w_BAD_REQUEST w_UNAUTHORIZED w_PAYMENT_REQUIRED w_FORBIDDEN w_NOT_FOUND w_REQUEST_TIMEOUT w_REQUEST_ENTITY_TOO_LARGE w_TOO_MANY_REQUESTS w_INTERNAL_SERVER_ERROR w_NOT_IMPLEMENTED w_BAD_GATEWAY w_SERVICE_UNAVAILABLE w_GATEWAY_TIMEOUT w_VERSION_NOT_SUPPORTED w_STATUSES h0 n0 _ T33.heap _
            rw [e33]
            exact ⟨by simp [own_of, hc1, hc3, hc4, hc18, hc32], N0, rfl⟩
          · refine ogo (fun t k => XS.icmpYes X0.here hx rfl (pc0 := 59) (pc' := 66) rfl (hb hby d2_59) rfl (feq hc32).2 (by decide) (by decide) k) ?_
            show OwnEnds _ _ _ _ _ _ _ (s₁.setTop (mkF m 66 #[.val (.int qv)] []))
            refine ogo (fun t k => XS.iloadN X0.here hx rfl (hb hby d2_66) rfl k) ?_
            show OwnEnds _ _ _ _ _ _ _ (s₁.setTop (mkF m 67 #[.val (.int qv)] [(.int qv)]))
            refine ogo (fun t k => XS.bipush X0.here hx rfl (hb hby d2_67) k) ?_
            show OwnEnds _ _ _ _ _ _ _ (s₁.setTop (mkF m 69 #[.val (.int qv)] [(.int (33 : Int32)), (.int qv)]))
            by_cases hc34 : qv = (33 : Int32)
            · refine ogo (fun t k => XS.icmpNo X0.here hx rfl (hb hby d2_69) rfl (teq hc34).2 k) ?_
              show OwnEnds _ _ _ _ _ _ _ (s₁.setTop (mkF m 72 #[.val (.int qv)] []))
              obtain ⟨T35, X35, e35, st35⟩ := getS2 X0 hx hZ hown (host := "") (Or.inl (hw _ (List.mem_of_getElem? (i := 42) rfl))) Via.refl e0 S_UNAUTHORIZED (g := (mkF m 72 #[.val (.int qv)] [])) rfl (hb hby d2_72)
              refine ogo st35 ?_
              show OwnEnds _ _ _ _ _ _ _ (T35.setTop (mkF m 75 #[.val (.int qv)] [(.ref w_UNAUTHORIZED)]))
              refine endA X35 hx hlk Bd.returns rfl rfl (hb hby d2_75) (by decide) (by decide) ?_
              show Q2 Z qv w_OK w_MOVED_PERMANENTLY w_FOUND w_NOT_MODIFIED w_BAD_REQUEST w_UNAUTHORIZED w_PAYMENT_REQUIRED w_FORBIDDEN w_NOT_FOUND w_REQUEST_TIMEOUT w_REQUEST_ENTITY_TOO_LARGE w_TOO_MANY_REQUESTS w_INTERNAL_SERVER_ERROR w_NOT_IMPLEMENTED w_BAD_GATEWAY w_SERVICE_UNAVAILABLE w_GATEWAY_TIMEOUT w_VERSION_NOT_SUPPORTED w_STATUSES h0 n0 _ T35.heap _
              rw [e35]
              exact ⟨by simp [own_of, hc1, hc3, hc4, hc18, hc32, hc34], N0, rfl⟩
            · refine ogo (fun t k => XS.icmpYes X0.here hx rfl (pc0 := 69) (pc' := 76) rfl (hb hby d2_69) rfl (feq hc34).2 (by decide) (by decide) k) ?_
              show OwnEnds _ _ _ _ _ _ _ (s₁.setTop (mkF m 76 #[.val (.int qv)] []))
              refine ogo (fun t k => XS.iloadN X0.here hx rfl (hb hby d2_76) rfl k) ?_
              show OwnEnds _ _ _ _ _ _ _ (s₁.setTop (mkF m 77 #[.val (.int qv)] [(.int qv)]))
              refine ogo (fun t k => XS.bipush X0.here hx rfl (hb hby d2_77) k) ?_
              show OwnEnds _ _ _ _ _ _ _ (s₁.setTop (mkF m 79 #[.val (.int qv)] [(.int (34 : Int32)), (.int qv)]))
              by_cases hc36 : qv = (34 : Int32)
              · refine ogo (fun t k => XS.icmpNo X0.here hx rfl (hb hby d2_79) rfl (teq hc36).2 k) ?_
                show OwnEnds _ _ _ _ _ _ _ (s₁.setTop (mkF m 82 #[.val (.int qv)] []))
                obtain ⟨T37, X37, e37, st37⟩ := getS2 X0 hx hZ hown (host := "") (Or.inl (hw _ (List.mem_of_getElem? (i := 45) rfl))) Via.refl e0 S_PAYMENT_REQUIRED (g := (mkF m 82 #[.val (.int qv)] [])) rfl (hb hby d2_82)
                refine ogo st37 ?_
                show OwnEnds _ _ _ _ _ _ _ (T37.setTop (mkF m 85 #[.val (.int qv)] [(.ref w_PAYMENT_REQUIRED)]))
                refine endA X37 hx hlk Bd.returns rfl rfl (hb hby d2_85) (by decide) (by decide) ?_
                show Q2 Z qv w_OK w_MOVED_PERMANENTLY w_FOUND w_NOT_MODIFIED w_BAD_REQUEST w_UNAUTHORIZED w_PAYMENT_REQUIRED w_FORBIDDEN w_NOT_FOUND w_REQUEST_TIMEOUT w_REQUEST_ENTITY_TOO_LARGE w_TOO_MANY_REQUESTS w_INTERNAL_SERVER_ERROR w_NOT_IMPLEMENTED w_BAD_GATEWAY w_SERVICE_UNAVAILABLE w_GATEWAY_TIMEOUT w_VERSION_NOT_SUPPORTED w_STATUSES h0 n0 _ T37.heap _
                rw [e37]
                exact ⟨by simp [own_of, hc1, hc3, hc4, hc18, hc32, hc34, hc36], N0, rfl⟩
              · refine ogo (fun t k => XS.icmpYes X0.here hx rfl (pc0 := 79) (pc' := 86) rfl (hb hby d2_79) rfl (feq hc36).2 (by decide) (by decide) k) ?_
                show OwnEnds _ _ _ _ _ _ _ (s₁.setTop (mkF m 86 #[.val (.int qv)] []))
                refine ogo (fun t k => XS.iloadN X0.here hx rfl (hb hby d2_86) rfl k) ?_
                show OwnEnds _ _ _ _ _ _ _ (s₁.setTop (mkF m 87 #[.val (.int qv)] [(.int qv)]))
                refine ogo (fun t k => XS.bipush X0.here hx rfl (hb hby d2_87) k) ?_
                show OwnEnds _ _ _ _ _ _ _ (s₁.setTop (mkF m 89 #[.val (.int qv)] [(.int (35 : Int32)), (.int qv)]))
                by_cases hc38 : qv = (35 : Int32)
                · refine ogo (fun t k => XS.icmpNo X0.here hx rfl (hb hby d2_89) rfl (teq hc38).2 k) ?_
                  show OwnEnds _ _ _ _ _ _ _ (s₁.setTop (mkF m 92 #[.val (.int qv)] []))
                  obtain ⟨T39, X39, e39, st39⟩ := getS2 X0 hx hZ hown (host := "") (Or.inl (hw _ (List.mem_of_getElem? (i := 47) rfl))) Via.refl e0 S_FORBIDDEN (g := (mkF m 92 #[.val (.int qv)] [])) rfl (hb hby d2_92)
                  refine ogo st39 ?_
                  show OwnEnds _ _ _ _ _ _ _ (T39.setTop (mkF m 95 #[.val (.int qv)] [(.ref w_FORBIDDEN)]))
                  refine endA X39 hx hlk Bd.returns rfl rfl (hb hby d2_95) (by decide) (by decide) ?_
                  show Q2 Z qv w_OK w_MOVED_PERMANENTLY w_FOUND w_NOT_MODIFIED w_BAD_REQUEST w_UNAUTHORIZED w_PAYMENT_REQUIRED w_FORBIDDEN w_NOT_FOUND w_REQUEST_TIMEOUT w_REQUEST_ENTITY_TOO_LARGE w_TOO_MANY_REQUESTS w_INTERNAL_SERVER_ERROR w_NOT_IMPLEMENTED w_BAD_GATEWAY w_SERVICE_UNAVAILABLE w_GATEWAY_TIMEOUT w_VERSION_NOT_SUPPORTED w_STATUSES h0 n0 _ T39.heap _
                  rw [e39]
                  exact ⟨by simp [own_of, hc1, hc3, hc4, hc18, hc32, hc34, hc36, hc38], N0, rfl⟩
                · refine ogo (fun t k => XS.icmpYes X0.here hx rfl (pc0 := 89) (pc' := 96) rfl (hb hby d2_89) rfl (feq hc38).2 (by decide) (by decide) k) ?_
                  show OwnEnds _ _ _ _ _ _ _ (s₁.setTop (mkF m 96 #[.val (.int qv)] []))
                  refine ogo (fun t k => XS.iloadN X0.here hx rfl (hb hby d2_96) rfl k) ?_
                  show OwnEnds _ _ _ _ _ _ _ (s₁.setTop (mkF m 97 #[.val (.int qv)] [(.int qv)]))
                  refine ogo (fun t k => XS.bipush X0.here hx rfl (hb hby d2_97) k) ?_
                  show OwnEnds _ _ _ _ _ _ _ (s₁.setTop (mkF m 99 #[.val (.int qv)] [(.int (36 : Int32)), (.int qv)]))
                  by_cases hc40 : qv = (36 : Int32)
                  · refine ogo (fun t k => XS.icmpNo X0.here hx rfl (hb hby d2_99) rfl (teq hc40).2 k) ?_
                    show OwnEnds _ _ _ _ _ _ _ (s₁.setTop (mkF m 102 #[.val (.int qv)] []))
                    obtain ⟨T41, X41, e41, st41⟩ := getS2 X0 hx hZ hown (host := "") (Or.inl (hw _ (List.mem_of_getElem? (i := 41) rfl))) Via.refl e0 S_NOT_FOUND (g := (mkF m 102 #[.val (.int qv)] [])) rfl (hb hby d2_102)
                    refine ogo st41 ?_
                    show OwnEnds _ _ _ _ _ _ _ (T41.setTop (mkF m 105 #[.val (.int qv)] [(.ref w_NOT_FOUND)]))
                    refine endA X41 hx hlk Bd.returns rfl rfl (hb hby d2_105) (by decide) (by decide) ?_
                    show Q2 Z qv w_OK w_MOVED_PERMANENTLY w_FOUND w_NOT_MODIFIED w_BAD_REQUEST w_UNAUTHORIZED w_PAYMENT_REQUIRED w_FORBIDDEN w_NOT_FOUND w_REQUEST_TIMEOUT w_REQUEST_ENTITY_TOO_LARGE w_TOO_MANY_REQUESTS w_INTERNAL_SERVER_ERROR w_NOT_IMPLEMENTED w_BAD_GATEWAY w_SERVICE_UNAVAILABLE w_GATEWAY_TIMEOUT w_VERSION_NOT_SUPPORTED w_STATUSES h0 n0 _ T41.heap _
                    rw [e41]
                    exact ⟨by simp [own_of, hc1, hc3, hc4, hc18, hc32, hc34, hc36, hc38, hc40], N0, rfl⟩
                  · refine ogo (fun t k => XS.icmpYes X0.here hx rfl (pc0 := 99) (pc' := 106) rfl (hb hby d2_99) rfl (feq hc40).2 (by decide) (by decide) k) ?_
                    show OwnEnds _ _ _ _ _ _ _ (s₁.setTop (mkF m 106 #[.val (.int qv)] []))
                    refine ogo (fun t k => XS.iloadN X0.here hx rfl (hb hby d2_106) rfl k) ?_
                    show OwnEnds _ _ _ _ _ _ _ (s₁.setTop (mkF m 107 #[.val (.int qv)] [(.int qv)]))
                    refine ogo (fun t k => XS.bipush X0.here hx rfl (hb hby d2_107) k) ?_
                    show OwnEnds _ _ _ _ _ _ _ (s₁.setTop (mkF m 109 #[.val (.int qv)] [(.int (37 : Int32)), (.int qv)]))
                    by_cases hc42 : qv = (37 : Int32)
                    · refine ogo (fun t k => XS.icmpNo X0.here hx rfl (hb hby d2_109) rfl (teq hc42).2 k) ?_
                      show OwnEnds _ _ _ _ _ _ _ (s₁.setTop (mkF m 112 #[.val (.int qv)] []))
                      obtain ⟨T43, X43, e43, st43⟩ := getS2 X0 hx hZ hown (host := "") (Or.inl (hw _ (List.mem_of_getElem? (i := 46) rfl))) Via.refl e0 S_REQUEST_TIMEOUT (g := (mkF m 112 #[.val (.int qv)] [])) rfl (hb hby d2_112)
                      refine ogo st43 ?_
                      show OwnEnds _ _ _ _ _ _ _ (T43.setTop (mkF m 115 #[.val (.int qv)] [(.ref w_REQUEST_TIMEOUT)]))
                      refine endA X43 hx hlk Bd.returns rfl rfl (hb hby d2_115) (by decide) (by decide) ?_
                      show Q2 Z qv w_OK w_MOVED_PERMANENTLY w_FOUND w_NOT_MODIFIED w_BAD_REQUEST w_UNAUTHORIZED w_PAYMENT_REQUIRED w_FORBIDDEN w_NOT_FOUND w_REQUEST_TIMEOUT w_REQUEST_ENTITY_TOO_LARGE w_TOO_MANY_REQUESTS w_INTERNAL_SERVER_ERROR w_NOT_IMPLEMENTED w_BAD_GATEWAY w_SERVICE_UNAVAILABLE w_GATEWAY_TIMEOUT w_VERSION_NOT_SUPPORTED w_STATUSES h0 n0 _ T43.heap _
                      rw [e43]
                      exact ⟨by simp [own_of, hc1, hc3, hc4, hc18, hc32, hc34, hc36, hc38, hc40, hc42], N0, rfl⟩
                    · refine ogo (fun t k => XS.icmpYes X0.here hx rfl (pc0 := 109) (pc' := 116) rfl (hb hby d2_109) rfl (feq hc42).2 (by decide) (by decide) k) ?_
                      show OwnEnds _ _ _ _ _ _ _ (s₁.setTop (mkF m 116 #[.val (.int qv)] []))
                      refine ogo (fun t k => XS.iloadN X0.here hx rfl (hb hby d2_116) rfl k) ?_
                      show OwnEnds _ _ _ _ _ _ _ (s₁.setTop (mkF m 117 #[.val (.int qv)] [(.int qv)]))
                      refine ogo (fun t k => XS.bipush X0.here hx rfl (hb hby d2_117) k) ?_
                      show OwnEnds _ _ _ _ _ _ _ (s₁.setTop (mkF m 119 #[.val (.int qv)] [(.int (38 : Int32)), (.int qv)]))
                      by_cases hc44 : qv = (38 : Int32)
                      · refine ogo (fun t k => XS.icmpNo X0.here hx rfl (hb hby d2_119) rfl (teq hc44).2 k) ?_
                        show OwnEnds _ _ _ _ _ _ _ (s₁.setTop (mkF m 122 #[.val (.int qv)] []))
                        obtain ⟨T45, X45, e45, st45⟩ := getS2 X0 hx hZ hown (host := "") (Or.inl (hw _ (List.mem_of_getElem? (i := 43) rfl))) Via.refl e0 S_REQUEST_ENTITY_TOO_LARGE (g := (mkF m 122 #[.val (.int qv)] [])) rfl (hb hby d2_122)
                        refine ogo st45 ?_
                        show OwnEnds _ _ _ _ _ _ _ (T45.setTop (mkF m 125 #[.val (.int qv)] [(.ref w_REQUEST_ENTITY_TOO_LARGE)]))
                        refine endA X45 hx hlk Bd.returns rfl rfl (hb hby d2_125) (by decide) (by decide) ?_
                        show Q2 Z qv w_OK w_MOVED_PERMANENTLY w_FOUND w_NOT_MODIFIED w_BAD_REQUEST w_UNAUTHORIZED w_PAYMENT_REQUIRED w_FORBIDDEN w_NOT_FOUND w_REQUEST_TIMEOUT w_REQUEST_ENTITY_TOO_LARGE w_TOO_MANY_REQUESTS w_INTERNAL_SERVER_ERROR w_NOT_IMPLEMENTED w_BAD_GATEWAY w_SERVICE_UNAVAILABLE w_GATEWAY_TIMEOUT w_VERSION_NOT_SUPPORTED w_STATUSES h0 n0 _ T45.heap _
                        rw [e45]
                        exact ⟨by simp [own_of, hc1, hc3, hc4, hc18, hc32, hc34, hc36, hc38, hc40, hc42, hc44], N0, rfl⟩
                      · refine ogo (fun t k => XS.icmpYes X0.here hx rfl (pc0 := 119) (pc' := 126) rfl (hb hby d2_119) rfl (feq hc44).2 (by decide) (by decide) k) ?_
                        show OwnEnds _ _ _ _ _ _ _ (s₁.setTop (mkF m 126 #[.val (.int qv)] []))
                        obtain ⟨T46, X46, e46, st46⟩ := getS2 X0 hx hZ hown (host := "") (Or.inl (hw _ (List.mem_of_getElem? (i := 37) rfl))) Via.refl e0 S_TOO_MANY_REQUESTS (g := (mkF m 126 #[.val (.int qv)] [])) rfl (hb hby d2_126)
                        refine ogo st46 ?_
                        show OwnEnds _ _ _ _ _ _ _ (T46.setTop (mkF m 129 #[.val (.int qv)] [(.ref w_TOO_MANY_REQUESTS)]))
                        refine endA X46 hx hlk Bd.returns rfl rfl (hb hby d2_129) (by decide) (by decide) ?_
                        show Q2 Z qv w_OK w_MOVED_PERMANENTLY w_FOUND w_NOT_MODIFIED w_BAD_REQUEST w_UNAUTHORIZED w_PAYMENT_REQUIRED w_FORBIDDEN w_NOT_FOUND w_REQUEST_TIMEOUT w_REQUEST_ENTITY_TOO_LARGE w_TOO_MANY_REQUESTS w_INTERNAL_SERVER_ERROR w_NOT_IMPLEMENTED w_BAD_GATEWAY w_SERVICE_UNAVAILABLE w_GATEWAY_TIMEOUT w_VERSION_NOT_SUPPORTED w_STATUSES h0 n0 _ T46.heap _
                        rw [e46]
                        have z : qv = 39 := by
                          apply Int32.toInt_inj.mp
                          have yhc1 := hc1
                          have yhc3 := hc3
                          have yhc4 := hc4
                          have yhc18 := hc18
                          have yhc32 := hc32
                          have yhc34 := hc34
                          have yhc36 := hc36
                          have yhc38 := hc38
                          have yhc40 := hc40
                          have yhc42 := hc42
                          have yhc44 := hc44
                          simp only [Int32.lt_iff_toInt_lt, ← Int32.toInt_inj] at yhc1 yhc3 yhc4 yhc18 yhc32 yhc34 yhc36 yhc38 yhc40 yhc42 yhc44
                          have t0 : (0 : Int32).toInt = 0 := by decide
                          have t16 : (16 : Int32).toInt = 16 := by decide
                          have t32 : (32 : Int32).toInt = 32 := by decide
                          have t33 : (33 : Int32).toInt = 33 := by decide
                          have t34 : (34 : Int32).toInt = 34 := by decide
                          have t35 : (35 : Int32).toInt = 35 := by decide
                          have t36 : (36 : Int32).toInt = 36 := by decide
                          have t37 : (37 : Int32).toInt = 37 := by decide
                          have t38 : (38 : Int32).toInt = 38 := by decide
                          have t39 : (39 : Int32).toInt = 39 := by decide
                          omega
                        exact ⟨by simp [own_of, z], N0, rfl⟩
    · refine ogo (fun t k => XS.icmpNo X0.here hx rfl (hb hby d2_11) rfl (flt hc3).1 k) ?_
      show OwnEnds _ _ _ _ _ _ _ (s₁.setTop (mkF m 14 #[.val (.int qv)] []))
      refine ogo (fun t k => XS.iloadN X0.here hx rfl (hb hby d2_14) rfl k) ?_
      show OwnEnds _ _ _ _ _ _ _ (s₁.setTop (mkF m 15 #[.val (.int qv)] [(.int qv)]))
      refine ogo (fun t k => XS.bipush X0.here hx rfl (hb hby d2_15) k) ?_
      show OwnEnds _ _ _ _ _ _ _ (s₁.setTop (mkF m 17 #[.val (.int qv)] [(.int (18 : Int32)), (.int qv)]))
      by_cases hc47 : (18 : Int32) < qv
      · refine ogo (fun t k => XS.icmpYes X0.here hx rfl (pc0 := 17) (pc' := 44) rfl (hb hby d2_17) rfl (tlt hc47).2.2.1 (by decide) (by decide) k) ?_
        show OwnEnds _ _ _ _ _ _ _ (s₁.setTop (mkF m 44 #[.val (.int qv)] []))
        refine ogo (fun t k => XS.iloadN X0.here hx rfl (hb hby d2_44) rfl k) ?_
        show OwnEnds _ _ _ _ _ _ _ (s₁.setTop (mkF m 45 #[.val (.int qv)] [(.int qv)]))
        refine ogo (fun t k => XS.bipush X0.here hx rfl (hb hby d2_45) k) ?_
        show OwnEnds _ _ _ _ _ _ _ (s₁.setTop (mkF m 47 #[.val (.int qv)] [(.int (32 : Int32)), (.int qv)]))
        by_cases hc48 : qv < (32 : Int32)
        · refine ogo (fun t k => XS.icmpYes X0.here hx rfl (pc0 := 47) (pc' := 130) rfl (hb hby d2_47) rfl (tlt hc48).1 (by decide) (by decide) k) ?_
          show OwnEnds _ _ _ _ _ _ _ (s₁.setTop (mkF m 130 #[.val (.int qv)] []))
          refine ogo (fun t k => XS.iloadN X0.here hx rfl (hb hby d2_130) rfl k) ?_
          show OwnEnds _ _ _ _ _ _ _ (s₁.setTop (mkF m 131 #[.val (.int qv)] [(.int qv)]))
          refine ogo (fun t k => XS.bipush X0.here hx rfl (hb hby d2_131) k) ?_
          show OwnEnds _ _ _ _ _ _ _ (s₁.setTop (mkF m 133 #[.val (.int qv)] [(.int (48 : Int32)), (.int qv)]))
          by_cases hc49 : qv < (48 : Int32)
          · refine ogo (fun t k => XS.icmpYes X0.here hx rfl (pc0 := 133) (pc' := 196) rfl (hb hby d2_133) rfl (tlt hc49).1 (by decide) (by decide) k) ?_
            show OwnEnds _ _ _ _ _ _ _ (s₁.setTop (mkF m 196 #[.val (.int qv)] []))
            refine ogo (fun t k => XS.aconstNull X0.here hx rfl (hb hby d2_196) k) ?_
            show OwnEnds _ _ _ _ _ _ _ (s₁.setTop (mkF m 197 #[.val (.int qv)] [.null]))
            refine endA X0 hx hlk Bd.returns rfl rfl (hb hby d2_197) (by decide) (by decide) ?_
            show Q2 Z qv w_OK w_MOVED_PERMANENTLY w_FOUND w_NOT_MODIFIED w_BAD_REQUEST w_UNAUTHORIZED w_PAYMENT_REQUIRED w_FORBIDDEN w_NOT_FOUND w_REQUEST_TIMEOUT w_REQUEST_ENTITY_TOO_LARGE w_TOO_MANY_REQUESTS w_INTERNAL_SERVER_ERROR w_NOT_IMPLEMENTED w_BAD_GATEWAY w_SERVICE_UNAVAILABLE w_GATEWAY_TIMEOUT w_VERSION_NOT_SUPPORTED w_STATUSES h0 n0 _ s₁.heap _
            rw [e0]
            have z0 : ¬ qv = 0 := by
              intro z; subst z; first | exact absurd hc1 (by decide) | exact absurd hc3 (by decide) | exact absurd hc47 (by decide) | exact absurd hc48 (by decide) | exact absurd hc49 (by decide)
            have z16 : ¬ qv = 16 := by
              intro z; subst z; first | exact absurd hc1 (by decide) | exact absurd hc3 (by decide) | exact absurd hc47 (by decide) | exact absurd hc48 (by decide) | exact absurd hc49 (by decide)
            have z17 : ¬ qv = 17 := by
              intro z; subst z; first | exact absurd hc1 (by decide) | exact absurd hc3 (by decide) | exact absurd hc47 (by decide) | exact absurd hc48 (by decide) | exact absurd hc49 (by decide)
            have z18 : ¬ qv = 18 := by
              intro z; subst z; first | exact absurd hc1 (by decide) | exact absurd hc3 (by decide) | exact absurd hc47 (by decide) | exact absurd hc48 (by decide) | exact absurd hc49 (by decide)
            have z32 : ¬ qv = 32 := by
              intro z; subst z; first | exact absurd hc1 (by decide) | exact absurd hc3 (by decide) | exact absurd hc47 (by decide) | exact absurd hc48 (by decide) | exact absurd hc49 (by decide)
            have z33 : ¬ qv = 33 := by
              intro z; subst z; first | exact absurd hc1 (by decide) | exact absurd hc3 (by decide) | exact absurd hc47 (by decide) | exact absurd hc48 (by decide) | exact absurd hc49 (by decide)
            have z34 : ¬ qv = 34 := by
              intro z; subst z; first | exact absurd hc1 (by decide) | exact absurd hc3 (by decide) | exact absurd hc47 (by decide) | exact absurd hc48 (by decide) | exact absurd hc49 (by decide)
            have z35 : ¬ qv = 35 := by
              intro z; subst z; first | exact absurd hc1 (by decide) | exact absurd hc3 (by decide) | exact absurd hc47 (by decide) | exact absurd hc48 (by decide) | exact absurd hc49 (by decide)
            have z36 : ¬ qv = 36 := by
              intro z; subst z; first | exact absurd hc1 (by decide) | exact absurd hc3 (by decide) | exact absurd hc47 (by decide) | exact absurd hc48 (by decide) | exact absurd hc49 (by decide)
            have z37 : ¬ qv = 37 := by
              intro z; subst z; first | exact absurd hc1 (by decide) | exact absurd hc3 (by decide) | exact absurd hc47 (by decide) | exact absurd hc48 (by decide) | exact absurd hc49 (by decide)
            have z38 : ¬ qv = 38 := by
              intro z; subst z; first | exact absurd hc1 (by decide) | exact absurd hc3 (by decide) | exact absurd hc47 (by decide) | exact absurd hc48 (by decide) | exact absurd hc49 (by decide)
            have z39 : ¬ qv = 39 := by
              intro z; subst z; first | exact absurd hc1 (by decide) | exact absurd hc3 (by decide) | exact absurd hc47 (by decide) | exact absurd hc48 (by decide) | exact absurd hc49 (by decide)
            have z48 : ¬ qv = 48 := by
              intro z; subst z; first | exact absurd hc1 (by decide) | exact absurd hc3 (by decide) | exact absurd hc47 (by decide) | exact absurd hc48 (by decide) | exact absurd hc49 (by decide)
            have z49 : ¬ qv = 49 := by
              intro z; subst z; first | exact absurd hc1 (by decide) | exact absurd hc3 (by decide) | exact absurd hc47 (by decide) | exact absurd hc48 (by decide) | exact absurd hc49 (by decide)
            have z50 : ¬ qv = 50 := by
              intro z; subst z; first | exact absurd hc1 (by decide) | exact absurd hc3 (by decide) | exact absurd hc47 (by decide) | exact absurd hc48 (by decide) | exact absurd hc49 (by decide)
            have z51 : ¬ qv = 51 := by
              intro z; subst z; first | exact absurd hc1 (by decide) | exact absurd hc3 (by decide) | exact absurd hc47 (by decide) | exact absurd hc48 (by decide) | exact absurd hc49 (by decide)
            have z52 : ¬ qv = 52 := by
              intro z; subst z; first | exact absurd hc1 (by decide) | exact absurd hc3 (by decide) | exact absurd hc47 (by decide) | exact absurd hc48 (by decide) | exact absurd hc49 (by decide)
            have z53 : ¬ qv = 53 := by
              intro z; subst z; first | exact absurd hc1 (by decide) | exact absurd hc3 (by decide) | exact absurd hc47 (by decide) | exact absurd hc48 (by decide) | exact absurd hc49 (by decide)
            exact ⟨by simp [own_of, z0, z16, z17, z18, z32, z33, z34, z35, z36, z37, z38, z39, z48, z49, z50, z51, z52, z53], N0, rfl⟩
          · refine ogo (fun t k => XS.icmpNo X0.here hx rfl (hb hby d2_133) rfl (flt hc49).1 k) ?_
            show OwnEnds _ _ _ _ _ _ _ (s₁.setTop (mkF m 136 #[.val (.int qv)] []))
            refine ogo (fun t k => XS.iloadN X0.here hx rfl (hb hby d2_136) rfl k) ?_
            show OwnEnds _ _ _ _ _ _ _ (s₁.setTop (mkF m 137 #[.val (.int qv)] [(.int qv)]))
            refine ogo (fun t k => XS.bipush X0.here hx rfl (hb hby d2_137) k) ?_
            show OwnEnds _ _ _ _ _ _ _ (s₁.setTop (mkF m 139 #[.val (.int qv)] [(.int (53 : Int32)), (.int qv)]))
            by_cases hc50 : (53 : Int32) < qv
            · refine ogo (fun t k => XS.icmpYes X0.here hx rfl (pc0 := 139) (pc' := 196) rfl (hb hby d2_139) rfl (tlt hc50).2.2.1 (by decide) (by decide) k) ?_
              show OwnEnds _ _ _ _ _ _ _ (s₁.setTop (mkF m 196 #[.val (.int qv)] []))
              refine ogo (fun t k => XS.aconstNull X0.here hx rfl (hb hby d2_196) k) ?_
              show OwnEnds _ _ _ _ _ _ _ (s₁.setTop (mkF m 197 #[.val (.int qv)] [.null]))
              refine endA X0 hx hlk Bd.returns rfl rfl (hb hby d2_197) (by decide) (by decide) ?_
              show Q2 Z qv w_OK w_MOVED_PERMANENTLY w_FOUND w_NOT_MODIFIED w_BAD_REQUEST w_UNAUTHORIZED w_PAYMENT_REQUIRED w_FORBIDDEN w_NOT_FOUND w_REQUEST_TIMEOUT w_REQUEST_ENTITY_TOO_LARGE w_TOO_MANY_REQUESTS w_INTERNAL_SERVER_ERROR w_NOT_IMPLEMENTED w_BAD_GATEWAY w_SERVICE_UNAVAILABLE w_GATEWAY_TIMEOUT w_VERSION_NOT_SUPPORTED w_STATUSES h0 n0 _ s₁.heap _
              rw [e0]
              have z0 : ¬ qv = 0 := by
                intro z; subst z; first | exact absurd hc1 (by decide) | exact absurd hc3 (by decide) | exact absurd hc47 (by decide) | exact absurd hc48 (by decide) | exact absurd hc49 (by decide) | exact absurd hc50 (by decide)
              have z16 : ¬ qv = 16 := by
                intro z; subst z; first | exact absurd hc1 (by decide) | exact absurd hc3 (by decide) | exact absurd hc47 (by decide) | exact absurd hc48 (by decide) | exact absurd hc49 (by decide) | exact absurd hc50 (by decide)
              have z17 : ¬ qv = 17 := by
                intro z; subst z; first | exact absurd hc1 (by decide) | exact absurd hc3 (by decide) | exact absurd hc47 (by decide) | exact absurd hc48 (by decide) | exact absurd hc49 (by decide) | exact absurd hc50 (by decide)
              have z18 : ¬ qv = 18 := by
                intro z; subst z; first | exact absurd hc1 (by decide) | exact absurd hc3 (by decide) | exact absurd hc47 (by decide) | exact absurd hc48 (by decide) | exact absurd hc49 (by decide) | exact absurd hc50 (by decide)
              have z32 : ¬ qv = 32 := by
                intro z; subst z; first | exact absurd hc1 (by decide) | exact absurd hc3 (by decide) | exact absurd hc47 (by decide) | exact absurd hc48 (by decide) | exact absurd hc49 (by decide) | exact absurd hc50 (by decide)
              have z33 : ¬ qv = 33 := by
                intro z; subst z; first | exact absurd hc1 (by decide) | exact absurd hc3 (by decide) | exact absurd hc47 (by decide) | exact absurd hc48 (by decide) | exact absurd hc49 (by decide) | exact absurd hc50 (by decide)
              have z34 : ¬ qv = 34 := by
                intro z; subst z; first | exact absurd hc1 (by decide) | exact absurd hc3 (by decide) | exact absurd hc47 (by decide) | exact absurd hc48 (by decide) | exact absurd hc49 (by decide) | exact absurd hc50 (by decide)
              have z35 : ¬ qv = 35 := by
                intro z; subst z; first | exact absurd hc1 (by decide) | exact absurd hc3 (by decide) | exact absurd hc47 (by decide) | exact absurd hc48 (by decide) | exact absurd hc49 (by decide) | exact absurd hc50 (by decide)
              have z36 : ¬ qv = 36 := by
                intro z; subst z; first | exact absurd hc1 (by decide) | exact absurd hc3 (by decide) | exact absurd hc47 (by decide) | exact absurd hc48 (by decide) | exact absurd hc49 (by decide) | exact absurd hc50 (by decide)
              have z37 : ¬ qv = 37 := by
                intro z; subst z; first | exact absurd hc1 (by decide) | exact absurd hc3 (by decide) | exact absurd hc47 (by decide) | exact absurd hc48 (by decide) | exact absurd hc49 (by decide) | exact absurd hc50 (by decide)
              have z38 : ¬ qv = 38 := by
                intro z; subst z; first | exact absurd hc1 (by decide) | exact absurd hc3 (by decide) | exact absurd hc47 (by decide) | exact absurd hc48 (by decide) | exact absurd hc49 (by decide) | exact absurd hc50 (by decide)
              have z39 : ¬ qv = 39 := by
                intro z; subst z; first | exact absurd hc1 (by decide) | exact absurd hc3 (by decide) | exact absurd hc47 (by decide) | exact absurd hc48 (by decide) | exact absurd hc49 (by decide) | exact absurd hc50 (by decide)
              have z48 : ¬ qv = 48 := by
                intro z; subst z; first | exact absurd hc1 (by decide) | exact absurd hc3 (by decide) | exact absurd hc47 (by decide) | exact absurd hc48 (by decide) | exact absurd hc49 (by decide) | exact absurd hc50 (by decide)
              have z49 : ¬ qv = 49 := by
                intro z; subst z; first | exact absurd hc1 (by decide) | exact absurd hc3 (by decide) | exact absurd hc47 (by decide) | exact absurd hc48 (by decide) | exact absurd hc49 (by decide) | exact absurd hc50 (by decide)
              have z50 : ¬ qv = 50 := by
                intro z; subst z; first | exact absurd hc1 (by decide) | exact absurd hc3 (by decide) | exact absurd hc47 (by decide) | exact absurd hc48 (by decide) | exact absurd hc49 (by decide) | exact absurd hc50 (by decide)
              have z51 : ¬ qv = 51 := by
                intro z; subst z; first | exact absurd hc1 (by decide) | exact absurd hc3 (by decide) | exact absurd hc47 (by decide) | exact absurd hc48 (by decide) | exact absurd hc49 (by decide) | exact absurd hc50 (by decide)
              have z52 : ¬ qv = 52 := by
                intro z; subst z; first | exact absurd hc1 (by decide) | exact absurd hc3 (by decide) | exact absurd hc47 (by decide) | exact absurd hc48 (by decide) | exact absurd hc49 (by decide) | exact absurd hc50 (by decide)
              have z53 : ¬ qv = 53 := by
                intro z; subst z; first | exact absurd hc1 (by decide) | exact absurd hc3 (by decide) | exact absurd hc47 (by decide) | exact absurd hc48 (by decide) | exact absurd hc49 (by decide) | exact absurd hc50 (by decide)
              exact ⟨by simp [own_of, z0, z16, z17, z18, z32, z33, z34, z35, z36, z37, z38, z39, z48, z49, z50, z51, z52, z53], N0, rfl⟩
            · refine ogo (fun t k => XS.icmpNo X0.here hx rfl (hb hby d2_139) rfl (flt hc50).2.2.1 k) ?_
              show OwnEnds _ _ _ _ _ _ _ (s₁.setTop (mkF m 142 #[.val (.int qv)] []))
              refine ogo (fun t k => XS.iloadN X0.here hx rfl (hb hby d2_142) rfl k) ?_
              show OwnEnds _ _ _ _ _ _ _ (s₁.setTop (mkF m 143 #[.val (.int qv)] [(.int qv)]))
              refine ogo (fun t k => XS.bipush X0.here hx rfl (hb hby d2_143) k) ?_
              show OwnEnds _ _ _ _ _ _ _ (s₁.setTop (mkF m 145 #[.val (.int qv)] [(.int (48 : Int32)), (.int qv)]))
              by_cases hc51 : qv = (48 : Int32)
              · refine ogo (fun t k => XS.icmpNo X0.here hx rfl (hb hby d2_145) rfl (teq hc51).2 k) ?_
                show OwnEnds _ _ _ _ _ _ _ (s₁.setTop (mkF m 148 #[.val (.int qv)] []))
                obtain ⟨T52, X52, e52, st52⟩ := getS2 X0 hx hZ hown (host := "") (Or.inl (hw _ (List.mem_of_getElem? (i := 34) rfl))) Via.refl e0 S_INTERNAL_SERVER_ERROR (g := (mkF m 148 #[.val (.int qv)] [])) rfl (hb hby d2_148)
                refine ogo st52 ?_
                show OwnEnds _ _ _ _ _ _ _ (T52.setTop (mkF m 151 #[.val (.int qv)] [(.ref w_INTERNAL_SERVER_ERROR)]))
                refine endA X52 hx hlk Bd.returns rfl rfl (hb hby d2_151) (by decide) (by decide) ?_
                show Q2 Z qv w_OK w_MOVED_PERMANENTLY w_FOUND w_NOT_MODIFIED w_BAD_REQUEST w_UNAUTHORIZED w_PAYMENT_REQUIRED w_FORBIDDEN w_NOT_FOUND w_REQUEST_TIMEOUT w_REQUEST_ENTITY_TOO_LARGE w_TOO_MANY_REQUESTS w_INTERNAL_SERVER_ERROR w_NOT_IMPLEMENTED w_BAD_GATEWAY w_SERVICE_UNAVAILABLE w_GATEWAY_TIMEOUT w_VERSION_NOT_SUPPORTED w_STATUSES h0 n0 _ T52.heap _
                rw [e52]
                exact ⟨by simp [own_of, hc1, hc3, hc47, hc48, hc49, hc50, hc51], N0, rfl⟩
              · refine ogo (fun t k => XS.icmpYes X0.here hx rfl (pc0 := 145) (pc' := 152) rfl (hb hby d2_145) rfl (feq hc51).2 (by decide) (by decide) k) ?_
                show OwnEnds _ _ _ _ _ _ _ (s₁.setTop (mkF m 152 #[.val (.int qv)] []))
                refine ogo (fun t k => XS.iloadN X0.here hx rfl (hb hby d2_152) rfl k) ?_
                show OwnEnds _ _ _ _ _ _ _ (s₁.setTop (mkF m 153 #[.val (.int qv)] [(.int qv)]))
                refine ogo (fun t k => XS.bipush X0.here hx rfl (hb hby d2_153) k) ?_
                show OwnEnds _ _ _ _ _ _ _ (s₁.setTop (mkF m 155 #[.val (.int qv)] [(.int (49 : Int32)), (.int qv)]))
                by_cases hc53 : qv = (49 : Int32)
                · refine ogo (fun t k => XS.icmpNo X0.here hx rfl (hb hby d2_155) rfl (teq hc53).2 k) ?_
                  show OwnEnds _ _ _ _ _ _ _ (s₁.setTop (mkF m 158 #[.val (.int qv)] []))
                  obtain ⟨T54, X54, e54, st54⟩ := getS2 X0 hx hZ hown (host := "") (Or.inl (hw _ (List.mem_of_getElem? (i := 44) rfl))) Via.refl e0 S_NOT_IMPLEMENTED (g := (mkF m 158 #[.val (.int qv)] [])) rfl (hb hby d2_158)
                  refine ogo st54 ?_
                  show OwnEnds _ _ _ _ _ _ _ (T54.setTop (mkF m 161 #[.val (.int qv)] [(.ref w_NOT_IMPLEMENTED)]))
                  refine endA X54 hx hlk Bd.returns rfl rfl (hb hby d2_161) (by decide) (by decide) ?_
                  show Q2 Z qv w_OK w_MOVED_PERMANENTLY w_FOUND w_NOT_MODIFIED w_BAD_REQUEST w_UNAUTHORIZED w_PAYMENT_REQUIRED w_FORBIDDEN w_NOT_FOUND w_REQUEST_TIMEOUT w_REQUEST_ENTITY_TOO_LARGE w_TOO_MANY_REQUESTS w_INTERNAL_SERVER_ERROR w_NOT_IMPLEMENTED w_BAD_GATEWAY w_SERVICE_UNAVAILABLE w_GATEWAY_TIMEOUT w_VERSION_NOT_SUPPORTED w_STATUSES h0 n0 _ T54.heap _
                  rw [e54]
                  exact ⟨by simp [own_of, hc1, hc3, hc47, hc48, hc49, hc50, hc51, hc53], N0, rfl⟩
                · refine ogo (fun t k => XS.icmpYes X0.here hx rfl (pc0 := 155) (pc' := 162) rfl (hb hby d2_155) rfl (feq hc53).2 (by decide) (by decide) k) ?_
                  show OwnEnds _ _ _ _ _ _ _ (s₁.setTop (mkF m 162 #[.val (.int qv)] []))
                  refine ogo (fun t k => XS.iloadN X0.here hx rfl (hb hby d2_162) rfl k) ?_
                  show OwnEnds _ _ _ _ _ _ _ (s₁.setTop (mkF m 163 #[.val (.int qv)] [(.int qv)]))
                  refine ogo (fun t k => XS.bipush X0.here hx rfl (hb hby d2_163) k) ?_
                  show OwnEnds _ _ _ _ _ _ _ (s₁.setTop (mkF m 165 #[.val (.int qv)] [(.int (50 : Int32)), (.int qv)]))
                  by_cases hc55 : qv = (50 : Int32)
                  · refine ogo (fun t k => XS.icmpNo X0.here hx rfl (hb hby d2_165) rfl (teq hc55).2 k) ?_
                    show OwnEnds _ _ _ _ _ _ _ (s₁.setTop (mkF m 168 #[.val (.int qv)] []))
                    obtain ⟨T56, X56, e56, st56⟩ := getS2 X0 hx hZ hown (host := "") (Or.inl (hw _ (List.mem_of_getElem? (i := 38) rfl))) Via.refl e0 S_BAD_GATEWAY (g := (mkF m 168 #[.val (.int qv)] [])) rfl (hb hby d2_168)
                    refine ogo st56 ?_
                    show OwnEnds _ _ _ _ _ _ _ (T56.setTop (mkF m 171 #[.val (.int qv)] [(.ref w_BAD_GATEWAY)]))
                    refine endA X56 hx hlk Bd.returns rfl rfl (hb hby d2_171) (by decide) (by decide) ?_
                    show Q2 Z qv w_OK w_MOVED_PERMANENTLY w_FOUND w_NOT_MODIFIED w_BAD_REQUEST w_UNAUTHORIZED w_PAYMENT_REQUIRED w_FORBIDDEN w_NOT_FOUND w_REQUEST_TIMEOUT w_REQUEST_ENTITY_TOO_LARGE w_TOO_MANY_REQUESTS w_INTERNAL_SERVER_ERROR w_NOT_IMPLEMENTED w_BAD_GATEWAY w_SERVICE_UNAVAILABLE w_GATEWAY_TIMEOUT w_VERSION_NOT_SUPPORTED w_STATUSES h0 n0 _ T56.heap _
                    rw [e56]
                    exact ⟨by simp [own_of, hc1, hc3, hc47, hc48, hc49, hc50, hc51, hc53, hc55], N0, rfl⟩
                  · refine ogo (fun t k => XS.icmpYes X0.here hx rfl (pc0 := 165) (pc' := 172) rfl (hb hby d2_165) rfl (feq hc55).2 (by decide) (by decide) k) ?_
                    show OwnEnds _ _ _ _ _ _ _ (s₁.setTop (mkF m 172 #[.val (.int qv)] []))
                    refine ogo (fun t k => XS.iloadN X0.here hx rfl (hb hby d2_172) rfl k) ?_
                    show OwnEnds _ _ _ _ _ _ _ (s₁.setTop (mkF m 173 #[.val (.int qv)] [(.int qv)]))
                    refine ogo (fun t k => XS.bipush X0.here hx rfl (hb hby d2_173) k) ?_
                    show OwnEnds _ _ _ _ _ _ _ (s₁.setTop (mkF m 175 #[.val (.int qv)] [(.int (51 : Int32)), (.int qv)]))
                    by_cases hc57 : qv = (51 : Int32)
                    · refine ogo (fun t k => XS.icmpNo X0.here hx rfl (hb hby d2_175) rfl (teq hc57).2 k) ?_
                      show OwnEnds _ _ _ _ _ _ _ (s₁.setTop (mkF m 178 #[.val (.int qv)] []))
                      obtain ⟨T58, X58, e58, st58⟩ := getS2 X0 hx hZ hown (host := "") (Or.inl (hw _ (List.mem_of_getElem? (i := 36) rfl))) Via.refl e0 S_SERVICE_UNAVAILABLE (g := (mkF m 178 #[.val (.int qv)] [])) rfl (hb hby d2_178)
                      refine ogo st58 ?_
                      show OwnEnds _ _ _ _ _ _ _ (T58.setTop (mkF m 181 #[.val (.int qv)] [(.ref w_SERVICE_UNAVAILABLE)]))
                      refine endA X58 hx hlk Bd.returns rfl rfl (hb hby d2_181) (by decide) (by decide) ?_
                      show Q2 Z qv w_OK w_MOVED_PERMANENTLY w_FOUND w_NOT_MODIFIED w_BAD_REQUEST w_UNAUTHORIZED w_PAYMENT_REQUIRED w_FORBIDDEN w_NOT_FOUND w_REQUEST_TIMEOUT w_REQUEST_ENTITY_TOO_LARGE w_TOO_MANY_REQUESTS w_INTERNAL_SERVER_ERROR w_NOT_IMPLEMENTED w_BAD_GATEWAY w_SERVICE_UNAVAILABLE w_GATEWAY_TIMEOUT w_VERSION_NOT_SUPPORTED w_STATUSES h0 n0 _ T58.heap _
                      rw [e58]
                      exact ⟨by simp [own_of, hc1, hc3, hc47, hc48, hc49, hc50, hc51, hc53, hc55, hc57], N0, rfl⟩
                    · refine ogo (fun t k => XS.icmpYes X0.here hx rfl (pc0 := 175) (pc' := 182) rfl (hb hby d2_175) rfl (feq hc57).2 (by decide) (by decide) k) ?_
                      show OwnEnds _ _ _ _ _ _ _ (s₁.setTop (mkF m 182 #[.val (.int qv)] []))
                      refine ogo (fun t k => XS.iloadN X0.here hx rfl (hb hby d2_182) rfl k) ?_
                      show OwnEnds _ _ _ _ _ _ _ (s₁.setTop (mkF m 183 #[.val (.int qv)] [(.int qv)]))
                      refine ogo (fun t k => XS.bipush X0.here hx rfl (hb hby d2_183) k) ?_
                      show OwnEnds _ _ _ _ _ _ _ (s₁.setTop (mkF m 185 #[.val (.int qv)] [(.int (52 : Int32)), (.int qv)]))
                      by_cases hc59 : qv = (52 : Int32)
                      · refine ogo (fun t k => XS.icmpNo X0.here hx rfl (hb hby d2_185) rfl (teq hc59).2 k) ?_
                        show OwnEnds _ _ _ _ _ _ _ (s₁.setTop (mkF m 188 #[.val (.int qv)] []))
                        obtain ⟨T60, X60, e60, st60⟩ := getS2 X0 hx hZ hown (host := "") (Or.inl (hw _ (List.mem_of_getElem? (i := 35) rfl))) Via.refl e0 S_GATEWAY_TIMEOUT (g := (mkF m 188 #[.val (.int qv)] [])) rfl (hb hby d2_188)
                        refine ogo st60 ?_
                        show OwnEnds _ _ _ _ _ _ _ (T60.setTop (mkF m 191 #[.val (.int qv)] [(.ref w_GATEWAY_TIMEOUT)]))
                        refine endA X60 hx hlk Bd.returns rfl rfl (hb hby d2_191) (by decide) (by decide) ?_
                        show Q2 Z qv w_OK w_MOVED_PERMANENTLY w_FOUND w_NOT_MODIFIED w_BAD_REQUEST w_UNAUTHORIZED w_PAYMENT_REQUIRED w_FORBIDDEN w_NOT_FOUND w_REQUEST_TIMEOUT w_REQUEST_ENTITY_TOO_LARGE w_TOO_MANY_REQUESTS w_INTERNAL_SERVER_ERROR w_NOT_IMPLEMENTED w_BAD_GATEWAY w_SERVICE_UNAVAILABLE w_GATEWAY_TIMEOUT w_VERSION_NOT_SUPPORTED w_STATUSES h0 n0 _ T60.heap _
                        rw [e60]
                        exact ⟨by simp [own_of, hc1, hc3, hc47, hc48, hc49, hc50, hc51, hc53, hc55, hc57, hc59], N0, rfl⟩
                      · refine ogo (fun t k => XS.icmpYes X0.here hx rfl (pc0 := 185) (pc' := 192) rfl (hb hby d2_185) rfl (feq hc59).2 (by decide) (by decide) k) ?_
                        show OwnEnds _ _ _ _ _ _ _ (s₁.setTop (mkF m 192 #[.val (.int qv)] []))
                        obtain ⟨T61, X61, e61, st61⟩ := getS2 X0 hx hZ hown (host := "") (Or.inl (hw _ (List.mem_of_getElem? (i := 39) rfl))) Via.refl e0 S_VERSION_NOT_SUPPORTED (g := (mkF m 192 #[.val (.int qv)] [])) rfl (hb hby d2_192)
                        refine ogo st61 ?_
                        show OwnEnds _ _ _ _ _ _ _ (T61.setTop (mkF m 195 #[.val (.int qv)] [(.ref w_VERSION_NOT_SUPPORTED)]))
                        refine endA X61 hx hlk Bd.returns rfl rfl (hb hby d2_195) (by decide) (by decide) ?_
                        show Q2 Z qv w_OK w_MOVED_PERMANENTLY w_FOUND w_NOT_MODIFIED w_BAD_REQUEST w_UNAUTHORIZED w_PAYMENT_REQUIRED w_FORBIDDEN w_NOT_FOUND w_REQUEST_TIMEOUT w_REQUEST_ENTITY_TOO_LARGE w_TOO_MANY_REQUESTS w_INTERNAL_SERVER_ERROR w_NOT_IMPLEMENTED w_BAD_GATEWAY w_SERVICE_UNAVAILABLE w_GATEWAY_TIMEOUT w_VERSION_NOT_SUPPORTED w_STATUSES h0 n0 _ T61.heap _
                        rw [e61]
                        have z : qv = 53 := by
                          apply Int32.toInt_inj.mp
                          have yhc1 := hc1
                          have yhc3 := hc3
                          have yhc47 := hc47
                          have yhc48 := hc48
                          have yhc49 := hc49
                          have yhc50 := hc50
                          have yhc51 := hc51
                          have yhc53 := hc53
                          have yhc55 := hc55
                          have yhc57 := hc57
                          have yhc59 := hc59
                          simp only [Int32.lt_iff_toInt_lt, ← Int32.toInt_inj] at yhc1 yhc3 yhc47 yhc48 yhc49 yhc50 yhc51 yhc53 yhc55 yhc57 yhc59
                          have t0 : (0 : Int32).toInt = 0 := by decide
                          have t16 : (16 : Int32).toInt = 16 := by decide
                          have t18 : (18 : Int32).toInt = 18 := by decide
                          have t32 : (32 : Int32).toInt = 32 := by decide
                          have t48 : (48 : Int32).toInt = 48 := by decide
                          have t49 : (49 : Int32).toInt = 49 := by decide
                          have t50 : (50 : Int32).toInt = 50 := by decide
                          have t51 : (51 : Int32).toInt = 51 := by decide
                          have t52 : (52 : Int32).toInt = 52 := by decide
                          have t53 : (53 : Int32).toInt = 53 := by decide
                          omega
                        exact ⟨by simp [own_of, z], N0, rfl⟩
        · refine ogo (fun t k => XS.icmpNo X0.here hx rfl (hb hby d2_47) rfl (flt hc48).1 k) ?_
          show OwnEnds _ _ _ _ _ _ _ (s₁.setTop (mkF m 50 #[.val (.int qv)] []))
          refine ogo (fun t k => XS.iloadN X0.here hx rfl (hb hby d2_50) rfl k) ?_
          show OwnEnds _ _ _ _ _ _ _ (s₁.setTop (mkF m 51 #[.val (.int qv)] [(.int qv)]))
          refine ogo (fun t k => XS.bipush X0.here hx rfl (hb hby d2_51) k) ?_
          show OwnEnds _ _ _ _ _ _ _ (s₁.setTop (mkF m 53 #[.val (.int qv)] [(.int (39 : Int32)), (.int qv)]))
          by_cases hc62 : (39 : Int32) < qv
          · refine ogo (fun t k => XS.icmpYes X0.here hx rfl (pc0 := 53) (pc' := 130) rfl (hb hby d2_53) rfl (tlt hc62).2.2.1 (by decide) (by decide) k) ?_
            show OwnEnds _ _ _ _ _ _ _ (s₁.setTop (mkF m 130 #[.val (.int qv)] []))
            refine ogo (fun t k => XS.iloadN X0.here hx rfl (hb hby d2_130) rfl k) ?_
            show OwnEnds _ _ _ _ _ _ _ (s₁.setTop (mkF m 131 #[.val (.int qv)] [(.int qv)]))
            refine ogo (fun t k => XS.bipush X0.here hx rfl (hb hby d2_131) k) ?_
            show OwnEnds _ _ _ _ _ _ _ (s₁.setTop (mkF m 133 #[.val (.int qv)] [(.int (48 : Int32)), (.int qv)]))
            by_cases hc63 : qv < (48 : Int32)
            · refine ogo (fun t k => XS.icmpYes X0.here hx rfl (pc0 := 133) (pc' := 196) rfl (hb hby d2_133) rfl (tlt hc63).1 (by decide) (by decide) k) ?_
              show OwnEnds _ _ _ _ _ _ _ (s₁.setTop (mkF m 196 #[.val (.int qv)] []))
              refine ogo (fun t k => XS.aconstNull X0.here hx rfl (hb hby d2_196) k) ?_
              show OwnEnds _ _ _ _ _ _ _ (s₁.setTop (mkF m 197 #[.val (.int qv)] [.null]))
              refine endA X0 hx hlk Bd.returns rfl rfl (hb hby d2_197) (by decide) (by decide) ?_
              show Q2 Z qv w_OK w_MOVED_PERMANENTLY w_FOUND w_NOT_MODIFIED w_BAD_REQUEST w_UNAUTHORIZED w_PAYMENT_REQUIRED w_FORBIDDEN w_NOT_FOUND w_REQUEST_TIMEOUT w_REQUEST_ENTITY_TOO_LARGE w_TOO_MANY_REQUESTS w_INTERNAL_SERVER_ERROR w_NOT_IMPLEMENTED w_BAD_GATEWAY w_SERVICE_UNAVAILABLE w_GATEWAY_TIMEOUT w_VERSION_NOT_SUPPORTED w_STATUSES h0 n0 _ s₁.heap _
              rw [e0]
              have z0 : ¬ qv = 0 := by
                intro z; subst z; first | exact absurd hc1 (by decide) | exact absurd hc3 (by decide) | exact absurd hc47 (by decide) | exact absurd hc48 (by decide) | exact absurd hc62 (by decide) | exact absurd hc63 (by decide)
              have z16 : ¬ qv = 16 := by
                intro z; subst z; first | exact absurd hc1 (by decide) | exact absurd hc3 (by decide) | exact absurd hc47 (by decide) | exact absurd hc48 (by decide) | exact absurd hc62 (by decide) | exact absurd hc63 (by decide)
              have z17 : ¬ qv = 17 := by
                intro z; subst z; first | exact absurd hc1 (by decide) | exact absurd hc3 (by decide) | exact absurd hc47 (by decide) | exact absurd hc48 (by decide) | exact absurd hc62 (by decide) | exact absurd hc63 (by decide)
              have z18 : ¬ qv = 18 := by
                intro z; subst z; first | exact absurd hc1 (by decide) | exact absurd hc3 (by decide) | exact absurd hc47 (by decide) | exact absurd hc48 (by decide) | exact absurd hc62 (by decide) | exact absurd hc63 (by decide)
              have z32 : ¬ qv = 32 := by
                intro z; subst z; first | exact absurd hc1 (by decide) | exact absurd hc3 (by decide) | exact absurd hc47 (by decide) | exact absurd hc48 (by decide) | exact absurd hc62 (by decide) | exact absurd hc63 (by decide)
              have z33 : ¬ qv = 33 := by
                intro z; subst z; first | exact absurd hc1 (by decide) | exact absurd hc3 (by decide) | exact absurd hc47 (by decide) | exact absurd hc48 (by decide) | exact absurd hc62 (by decide) | exact absurd hc63 (by decide)
              have z34 : ¬ qv = 34 := by
                intro z; subst z; first | exact absurd hc1 (by decide) | exact absurd hc3 (by decide) | exact absurd hc47 (by decide) | exact absurd hc48 (by decide) | exact absurd hc62 (by decide) | exact absurd hc63 (by decide)
              have z35 : ¬ qv = 35 := by
                intro z; subst z; first | exact absurd hc1 (by decide) | exact absurd hc3 (by decide) | exact absurd hc47 (by decide) | exact absurd hc48 (by decide) | exact absurd hc62 (by decide) | exact absurd hc63 (by decide)
              have z36 : ¬ qv = 36 := by
                intro z; subst z; first | exact absurd hc1 (by decide) | exact absurd hc3 (by decide) | exact absurd hc47 (by decide) | exact absurd hc48 (by decide) | exact absurd hc62 (by decide) | exact absurd hc63 (by decide)
              have z37 : ¬ qv = 37 := by
                intro z; subst z; first | exact absurd hc1 (by decide) | exact absurd hc3 (by decide) | exact absurd hc47 (by decide) | exact absurd hc48 (by decide) | exact absurd hc62 (by decide) | exact absurd hc63 (by decide)
              have z38 : ¬ qv = 38 := by
                intro z; subst z; first | exact absurd hc1 (by decide) | exact absurd hc3 (by decide) | exact absurd hc47 (by decide) | exact absurd hc48 (by decide) | exact absurd hc62 (by decide) | exact absurd hc63 (by decide)
              have z39 : ¬ qv = 39 := by
                intro z; subst z; first | exact absurd hc1 (by decide) | exact absurd hc3 (by decide) | exact absurd hc47 (by decide) | exact absurd hc48 (by decide) | exact absurd hc62 (by decide) | exact absurd hc63 (by decide)
              have z48 : ¬ qv = 48 := by
                intro z; subst z; first | exact absurd hc1 (by decide) | exact absurd hc3 (by decide) | exact absurd hc47 (by decide) | exact absurd hc48 (by decide) | exact absurd hc62 (by decide) | exact absurd hc63 (by decide)
              have z49 : ¬ qv = 49 := by
                intro z; subst z; first | exact absurd hc1 (by decide) | exact absurd hc3 (by decide) | exact absurd hc47 (by decide) | exact absurd hc48 (by decide) | exact absurd hc62 (by decide) | exact absurd hc63 (by decide)
              have z50 : ¬ qv = 50 := by
                intro z; subst z; first | exact absurd hc1 (by decide) | exact absurd hc3 (by decide) | exact absurd hc47 (by decide) | exact absurd hc48 (by decide) | exact absurd hc62 (by decide) | exact absurd hc63 (by decide)
              have z51 : ¬ qv = 51 := by
                intro z; subst z; first | exact absurd hc1 (by decide) | exact absurd hc3 (by decide) | exact absurd hc47 (by decide) | exact absurd hc48 (by decide) | exact absurd hc62 (by decide) | exact absurd hc63 (by decide)
              have z52 : ¬ qv = 52 := by
                intro z; subst z; first | exact absurd hc1 (by decide) | exact absurd hc3 (by decide) | exact absurd hc47 (by decide) | exact absurd hc48 (by decide) | exact absurd hc62 (by decide) | exact absurd hc63 (by decide)
              have z53 : ¬ qv = 53 := by
                intro z; subst z; first | exact absurd hc1 (by decide) | exact absurd hc3 (by decide) | exact absurd hc47 (by decide) | exact absurd hc48 (by decide) | exact absurd hc62 (by decide) | exact absurd hc63 (by decide)
              exact ⟨by simp [own_of, z0, z16, z17, z18, z32, z33, z34, z35, z36, z37, z38, z39, z48, z49, z50, z51, z52, z53], N0, rfl⟩
            · refine ogo (fun t k => XS.icmpNo X0.here hx rfl (hb hby d2_133) rfl (flt hc63).1 k) ?_
              show OwnEnds _ _ _ _ _ _ _ (s₁.setTop (mkF m 136 #[.val (.int qv)] []))
              refine ogo (fun t k => XS.iloadN X0.here hx rfl (hb hby d2_136) rfl k) ?_
              show OwnEnds _ _ _ _ _ _ _ (s₁.setTop (mkF m 137 #[.val (.int qv)] [(.int qv)]))
              refine ogo (fun t k => XS.bipush X0.here hx rfl (hb hby d2_137) k) ?_
              show OwnEnds _ _ _ _ _ _ _ (s₁.setTop (mkF m 139 #[.val (.int qv)] [(.int (53 : Int32)), (.int qv)]))
              by_cases hc64 : (53 : Int32) < qv
              · refine ogo (fun t k => XS.icmpYes X0.here hx rfl (pc0 := 139) (pc' := 196) rfl (hb hby d2_139) rfl (tlt hc64).2.2.1 (by decide) (by decide) k) ?_
                show OwnEnds _ _ _ _ _ _ _ (s₁.setTop (mkF m 196 #[.val (.int qv)] []))
                refine ogo (fun t k => XS.aconstNull X0.here hx rfl (hb hby d2_196) k) ?_
                show OwnEnds _ _ _ _ _ _ _ (s₁.setTop (mkF m 197 #[.val (.int qv)] [.null]))
                refine endA X0 hx hlk Bd.returns rfl rfl (hb hby d2_197) (by decide) (by decide) ?_
                show Q2 Z qv w_OK w_MOVED_PERMANENTLY w_FOUND w_NOT_MODIFIED w_BAD_REQUEST w_UNAUTHORIZED w_PAYMENT_REQUIRED w_FORBIDDEN w_NOT_FOUND w_REQUEST_TIMEOUT w_REQUEST_ENTITY_TOO_LARGE w_TOO_MANY_REQUESTS w_INTERNAL_SERVER_ERROR w_NOT_IMPLEMENTED w_BAD_GATEWAY w_SERVICE_UNAVAILABLE w_GATEWAY_TIMEOUT w_VERSION_NOT_SUPPORTED w_STATUSES h0 n0 _ s₁.heap _
                rw [e0]
                have z0 : ¬ qv = 0 := by
                  intro z; subst z; first | exact absurd hc1 (by decide) | exact absurd hc3 (by decide) | exact absurd hc47 (by decide) | exact absurd hc48 (by decide) | exact absurd hc62 (by decide) | exact absurd hc63 (by decide) | exact absurd hc64 (by decide)
                have z16 : ¬ qv = 16 := by
                  intro z; subst z; first | exact absurd hc1 (by decide) | exact absurd hc3 (by decide) | exact absurd hc47 (by decide) | exact absurd hc48 (by decide) | exact absurd hc62 (by decide) | exact absurd hc63 (by decide) | exact absurd hc64 (by decide)
                have z17 : ¬ qv = 17 := by
                  intro z; subst z; first | exact absurd hc1 (by decide) | exact absurd hc3 (by decide) | exact absurd hc47 (by decide) | exact absurd hc48 (by decide) | exact absurd hc62 (by decide) | exact absurd hc63 (by decide) | exact absurd hc64 (by decide)
                have z18 : ¬ qv = 18 := by
                  intro z; subst z; first | exact absurd hc1 (by decide) | exact absurd hc3 (by decide) | exact absurd hc47 (by decide) | exact absurd hc48 (by decide) | exact absurd hc62 (by decide) | exact absurd hc63 (by decide) | exact absurd hc64 (by decide)
                have z32 : ¬ qv = 32 := by
                  intro z; subst z; first | exact absurd hc1 (by decide) | exact absurd hc3 (by decide) | exact absurd hc47 (by decide) | exact absurd hc48 (by decide) | exact absurd hc62 (by decide) | exact absurd hc63 (by decide) | exact absurd hc64 (by decide)
                have z33 : ¬ qv = 33 := by
                  intro z; subst z; first | exact absurd hc1 (by decide) | exact absurd hc3 (by decide) | exact absurd hc47 (by decide) | exact absurd hc48 (by decide) | exact absurd hc62 (by decide) | exact absurd hc63 (by decide) | exact absurd hc64 (by decide)
                have z34 : ¬ qv = 34 := by
                  intro z; subst z; first | exact absurd hc1 (by decide) | exact absurd hc3 (by decide) | exact absurd hc47 (by decide) | exact absurd hc48 (by decide) | exact absurd hc62 (by decide) | exact absurd hc63 (by decide) | exact absurd hc64 (by decide)
                have z35 : ¬ qv = 35 := by
                  intro z; subst z; first | exact absurd hc1 (by decide) | exact absurd hc3 (by decide) | exact absurd hc47 (by decide) | exact absurd hc48 (by decide) | exact absurd hc62 (by decide) | exact absurd hc63 (by decide) | exact absurd hc64 (by decide)
                have z36 : ¬ qv = 36 := by
                  intro z; subst z; first | exact absurd hc1 (by decide) | exact absurd hc3 (by decide) | exact absurd hc47 (by decide) | exact absurd hc48 (by decide) | exact absurd hc62 (by decide) | exact absurd hc63 (by decide) | exact absurd hc64 (by decide)
                have z37 : ¬ qv = 37 := by
                  intro z; subst z; first | exact absurd hc1 (by decide) | exact absurd hc3 (by decide) | exact absurd hc47 (by decide) | exact absurd hc48 (by decide) | exact absurd hc62 (by decide) | exact absurd hc63 (by decide) | exact absurd hc64 (by decide)
                have z38 : ¬ qv = 38 := by
                  intro z; subst z; first | exact absurd hc1 (by decide) | exact absurd hc3 (by decide) | exact absurd hc47 (by decide) | exact absurd hc48 (by decide) | exact absurd hc62 (by decide) | exact absurd hc63 (by decide) | exact absurd hc64 (by decide)
                have z39 : ¬ qv = 39 := by
                  intro z; subst z; first | exact absurd hc1 (by decide) | exact absurd hc3 (by decide) | exact absurd hc47 (by decide) | exact absurd hc48 (by decide) | exact absurd hc62 (by decide) | exact absurd hc63 (by decide) | exact absurd hc64 (by decide)
                have z48 : ¬ qv = 48 := by
                  intro z; subst z; first | exact absurd hc1 (by decide) | exact absurd hc3 (by decide) | exact absurd hc47 (by decide) | exact absurd hc48 (by decide) | exact absurd hc62 (by decide) | exact absurd hc63 (by decide) | exact absurd hc64 (by decide)
                have z49 : ¬ qv = 49 := by
                  intro z; subst z; first | exact absurd hc1 (by decide) | exact absurd hc3 (by decide) | exact absurd hc47 (by decide) | exact absurd hc48 (by decide) | exact absurd hc62 (by decide) | exact absurd hc63 (by decide) | exact absurd hc64 (by decide)
                have z50 : ¬ qv = 50 := by
                  intro z; subst z; first | exact absurd hc1 (by decide) | exact absurd hc3 (by decide) | exact absurd hc47 (by decide) | exact absurd hc48 (by decide) | exact absurd hc62 (by decide) | exact absurd hc63 (by decide) | exact absurd hc64 (by decide)
                have z51 : ¬ qv = 51 := by
                  intro z; subst z; first | exact absurd hc1 (by decide) | exact absurd hc3 (by decide) | exact absurd hc47 (by decide) | exact absurd hc48 (by decide) | exact absurd hc62 (by decide) | exact absurd hc63 (by decide) | exact absurd hc64 (by decide)
                have z52 : ¬ qv = 52 := by
                  intro z; subst z; first | exact absurd hc1 (by decide) | exact absurd hc3 (by decide) | exact absurd hc47 (by decide) | exact absurd hc48 (by decide) | exact absurd hc62 (by decide) | exact absurd hc63 (by decide) | exact absurd hc64 (by decide)
                have z53 : ¬ qv = 53 := by
                  intro z; subst z; first | exact absurd hc1 (by decide) | exact absurd hc3 (by decide) | exact absurd hc47 (by decide) | exact absurd hc48 (by decide) | exact absurd hc62 (by decide) | exact absurd hc63 (by decide) | exact absurd hc64 (by decide)
                exact ⟨by simp [own_of, z0, z16, z17, z18, z32, z33, z34, z35, z36, z37, z38, z39, z48, z49, z50, z51, z52, z53], N0, rfl⟩
              · refine ogo (fun t k => XS.icmpNo X0.here hx rfl (hb hby d2_139) rfl (flt hc64).2.2.1 k) ?_
                show OwnEnds _ _ _ _ _ _ _ (s₁.setTop (mkF m 142 #[.val (.int qv)] []))
                refine ogo (fun t k => XS.iloadN X0.here hx rfl (hb hby d2_142) rfl k) ?_
                show OwnEnds _ _ _ _ _ _ _ (s₁.setTop (mkF m 143 #[.val (.int qv)] [(.int qv)]))
                refine ogo (fun t k => XS.bipush X0.here hx rfl (hb hby d2_143) k) ?_
                show OwnEnds _ _ _ _ _ _ _ (s₁.setTop (mkF m 145 #[.val (.int qv)] [(.int (48 : Int32)), (.int qv)]))
                by_cases hc65 : qv = (48 : Int32)
                · refine ogo (fun t k => XS.icmpNo X0.here hx rfl (hb hby d2_145) rfl (teq hc65).2 k) ?_
                  show OwnEnds _ _ _ _ _ _ _ (s₁.setTop (mkF m 148 #[.val (.int qv)] []))
                  obtain ⟨T66, X66, e66, st66⟩ := getS2 X0 hx hZ hown (host := "") (Or.inl (hw _ (List.mem_of_getElem? (i := 34) rfl))) Via.refl e0 S_INTERNAL_SERVER_ERROR (g := (mkF m 148 #[.val (.int qv)] [])) rfl (hb hby d2_148)
                  refine ogo st66 ?_
                  show OwnEnds _ _ _ _ _ _ _ (T66.setTop (mkF m 151 #[.val (.int qv)] [(.ref w_INTERNAL_SERVER_ERROR)]))
                  refine endA X66 hx hlk Bd.returns rfl rfl (hb hby d2_151) (by decide) (by decide) ?_
                  show Q2 Z qv w_OK w_MOVED_PERMANENTLY w_FOUND w_NOT_MODIFIED w_BAD_REQUEST w_UNAUTHORIZED w_PAYMENT_REQUIRED w_FORBIDDEN w_NOT_FOUND w_REQUEST_TIMEOUT w_REQUEST_ENTITY_TOO_LARGE w_TOO_MANY_REQUESTS w_INTERNAL_SERVER_ERROR w_NOT_IMPLEMENTED w_BAD_GATEWAY w_SERVICE_UNAVAILABLE w_GATEWAY_TIMEOUT w_VERSION_NOT_SUPPORTED w_STATUSES h0 n0 _ T66.heap _
                  rw [e66]
                  exact ⟨by simp [own_of, hc1, hc3, hc47, hc48, hc62, hc63, hc64, hc65], N0, rfl⟩
                · refine ogo (fun t k => XS.icmpYes X0.here hx rfl (pc0 := 145) (pc' := 152) rfl (hb hby d2_145) rfl (feq hc65).2 (by decide) (by decide) k) ?_
                  show OwnEnds _ _ _ _ _ _ _ (s₁.setTop (mkF m 152 #[.val (.int qv)] []))
                  refine ogo (fun t k => XS.iloadN X0.here hx rfl (hb hby d2_152) rfl k) ?_
                  show OwnEnds _ _ _ _ _ _ _ (s₁.setTop (mkF m 153 #[.val (.int qv)] [(.int qv)]))
                  refine ogo (fun t k => XS.bipush X0.here hx rfl (hb hby d2_153) k) ?_
                  show OwnEnds _ _ _ _ _ _ _ (s₁.setTop (mkF m 155 #[.val (.int qv)] [(.int (49 : Int32)), (.int qv)]))
                  by_cases hc67 : qv = (49 : Int32)
                  · refine ogo (fun t k => XS.icmpNo X0.here hx rfl (hb hby d2_155) rfl (teq hc67).2 k) ?_
                    show OwnEnds _ _ _ _ _ _ _ (s₁.setTop (mkF m 158 #[.val (.int qv)] []))
                    obtain ⟨T68, X68, e68, st68⟩ := getS2 X0 hx hZ hown (host := "") (Or.inl (hw _ (List.mem_of_getElem? (i := 44) rfl))) Via.refl e0 S_NOT_IMPLEMENTED (g := (mkF m 158 #[.val (.int qv)] [])) rfl (hb hby d2_158)
                    refine ogo st68 ?_
                    show OwnEnds _ _ _ _ _ _ _ (T68.setTop (mkF m 161 #[.val (.int qv)] [(.ref w_NOT_IMPLEMENTED)]))
                    refine endA X68 hx hlk Bd.returns rfl rfl (hb hby d2_161) (by decide) (by decide) ?_
                    show Q2 Z qv w_OK w_MOVED_PERMANENTLY w_FOUND w_NOT_MODIFIED w_BAD_REQUEST w_UNAUTHORIZED w_PAYMENT_REQUIRED w_FORBIDDEN w_NOT_FOUND w_REQUEST_TIMEOUT w_REQUEST_ENTITY_TOO_LARGE w_TOO_MANY_REQUESTS w_INTERNAL_SERVER_ERROR w_NOT_IMPLEMENTED w_BAD_GATEWAY w_SERVICE_UNAVAILABLE w_GATEWAY_TIMEOUT w_VERSION_NOT_SUPPORTED w_STATUSES h0 n0 _ T68.heap _
                    rw [e68]
                    exact ⟨by simp [own_of, hc1, hc3, hc47, hc48, hc62, hc63, hc64, hc65, hc67], N0, rfl⟩
                  · refine ogo (fun t k => XS.icmpYes X0.here hx rfl (pc0 := 155) (pc' := 162) rfl (hb hby d2_155) rfl (feq hc67).2 (by decide) (by decide) k) ?_
                    show OwnEnds _ _ _ _ _ _ _ (s₁.setTop (mkF m 162 #[.val (.int qv)] []))
                    refine ogo (fun t k => XS.iloadN X0.here hx rfl (hb hby d2_162) rfl k) ?_
                    show OwnEnds _ _ _ _ _ _ _ (s₁.setTop (mkF m 163 #[.val (.int qv)] [(.int qv)]))
                    refine ogo (fun t k => XS.bipush X0.here hx rfl (hb hby d2_163) k) ?_
                    show OwnEnds _ _ _ _ _ _ _ (s₁.setTop (mkF m 165 #[.val (.int qv)] [(.int (50 : Int32)), (.int qv)]))
                    by_cases hc69 : qv = (50 : Int32)
                    · refine ogo (fun t k => XS.icmpNo X0.here hx rfl (hb hby d2_165) rfl (teq hc69).2 k) ?_
                      show OwnEnds _ _ _ _ _ _ _ (s₁.setTop (mkF m 168 #[.val (.int qv)] []))
                      obtain ⟨T70, X70, e70, st70⟩ := getS2 X0 hx hZ hown (host := "") (Or.inl (hw _ (List.mem_of_getElem? (i := 38) rfl))) Via.refl e0 S_BAD_GATEWAY (g := (mkF m 168 #[.val (.int qv)] [])) rfl (hb hby d2_168)
                      refine ogo st70 ?_
                      show OwnEnds _ _ _ _ _ _ _ (T70.setTop (mkF m 171 #[.val (.int qv)] [(.ref w_BAD_GATEWAY)]))
                      refine endA X70 hx hlk Bd.returns rfl rfl (hb hby d2_171) (by decide) (by decide) ?_
                      show Q2 Z qv w_OK w_MOVED_PERMANENTLY w_FOUND w_NOT_MODIFIED w_BAD_REQUEST w_UNAUTHORIZED w_PAYMENT_REQUIRED w_FORBIDDEN w_NOT_FOUND w_REQUEST_TIMEOUT w_REQUEST_ENTITY_TOO_LARGE w_TOO_MANY_REQUESTS w_INTERNAL_SERVER_ERROR w_NOT_IMPLEMENTED w_BAD_GATEWAY w_SERVICE_UNAVAILABLE w_GATEWAY_TIMEOUT w_VERSION_NOT_SUPPORTED w_STATUSES h0 n0 _ T70.heap _
                      rw [e70]
                      exact ⟨by simp [own_of, hc1, hc3, hc47, hc48, hc62, hc63, hc64, hc65, hc67, hc69], N0, rfl⟩
                    · refine ogo (fun t k => XS.icmpYes X0.here hx rfl (pc0 := 165) (pc' := 172) rfl (hb hby d2_165) rfl (feq hc69).2 (by decide) (by decide) k) ?_
                      show OwnEnds _ _ _ _ _ _ _ (s₁.setTop (mkF m 172 #[.val (.int qv)] []))
                      refine ogo (fun t k => XS.iloadN X0.here hx rfl (hb hby d2_172) rfl k) ?_
                      show OwnEnds _ _ _ _ _ _ _ (s₁.setTop (mkF m 173 #[.val (.int qv)] [(.int qv)]))
                      refine ogo (fun t k => XS.bipush X0.here hx rfl (hb hby d2_173) k) ?_
                      show OwnEnds _ _ _ _ _ _ _ (s₁.setTop (mkF m 175 #[.val (.int qv)] [(.int (51 : Int32)), (.int qv)]))
                      by_cases hc71 : qv = (51 : Int32)
                      · refine ogo (fun t k => XS.icmpNo X0.here hx rfl (hb hby d2_175) rfl (teq hc71).2 k) ?_
                        show OwnEnds _ _ _ _ _ _ _ (s₁.setTop (mkF m 178 #[.val (.int qv)] []))
                        obtain ⟨T72, X72, e72, st72⟩ := getS2 X0 hx hZ hown (host := "") (Or.inl (hw _ (List.mem_of_getElem? (i := 36) rfl))) Via.refl e0 S_SERVICE_UNAVAILABLE (g := (mkF m 178 #[.val (.int qv)] [])) rfl (hb hby d2_178)
                        refine ogo st72 ?_
                        show OwnEnds _ _ _ _ _ _ _ (T72.setTop (mkF m 181 #[.val (.int qv)] [(.ref w_SERVICE_UNAVAILABLE)]))
                        refine endA X72 hx hlk Bd.returns rfl rfl (hb hby d2_181) (by decide) (by decide) ?_
                        show Q2 Z qv w_OK w_MOVED_PERMANENTLY w_FOUND w_NOT_MODIFIED w_BAD_REQUEST w_UNAUTHORIZED w_PAYMENT_REQUIRED w_FORBIDDEN w_NOT_FOUND w_REQUEST_TIMEOUT w_REQUEST_ENTITY_TOO_LARGE w_TOO_MANY_REQUESTS w_INTERNAL_SERVER_ERROR w_NOT_IMPLEMENTED w_BAD_GATEWAY w_SERVICE_UNAVAILABLE w_GATEWAY_TIMEOUT w_VERSION_NOT_SUPPORTED w_STATUSES h0 n0 _ T72.heap _
                        rw [e72]
                        exact ⟨by simp [own_of, hc1, hc3, hc47, hc48, hc62, hc63, hc64, hc65, hc67, hc69, hc71], N0, rfl⟩
                      · refine ogo (fun t k => XS.icmpYes X0.here hx rfl (pc0 := 175) (pc' := 182) rfl (hb hby d2_175) rfl (feq hc71).2 (by decide) (by decide) k) ?_
                        show OwnEnds _ _ _ _ _ _ _ (s₁.setTop (mkF m 182 #[.val (.int qv)] []))
                        refine ogo (fun t k => XS.iloadN X0.here hx rfl (hb hby d2_182) rfl k) ?_
                        show OwnEnds _ _ _ _ _ _ _ (s₁.setTop (mkF m 183 #[.val (.int qv)] [(.int qv)]))
                        refine ogo (fun t k => XS.bipush X0.here hx rfl (hb hby d2_183) k) ?_
                        show OwnEnds _ _ _ _ _ _ _ (s₁.setTop (mkF m 185 #[.val (.int qv)] [(.int (52 : Int32)), (.int qv)]))
                        by_cases hc73 : qv = (52 : Int32)
                        · refine ogo (fun t k => XS.icmpNo X0.here hx rfl (hb hby d2_185) rfl (teq hc73).2 k) ?_
                          show OwnEnds _ _ _ _ _ _ _ (s₁.setTop (mkF m 188 #[.val (.int qv)] []))
                          obtain ⟨T74, X74, e74, st74⟩ := getS2 X0 hx hZ hown (host := "") (Or.inl (hw _ (List.mem_of_getElem? (i := 35) rfl))) Via.refl e0 S_GATEWAY_TIMEOUT (g := (mkF m 188 #[.val (.int qv)] [])) rfl (hb hby d2_188)
                          refine ogo st74 ?_
                          show OwnEnds _ _ _ _ _ _ _ (T74.setTop (mkF m 191 #[.val (.int qv)] [(.ref w_GATEWAY_TIMEOUT)]))
                          refine endA X74 hx hlk Bd.returns rfl rfl (hb hby d2_191) (by decide) (by decide) ?_
                          show Q2 Z qv w_OK w_MOVED_PERMANENTLY w_FOUND w_NOT_MODIFIED w_BAD_REQUEST w_UNAUTHORIZED w_PAYMENT_REQUIRED w_FORBIDDEN w_NOT_FOUND w_REQUEST_TIMEOUT w_REQUEST_ENTITY_TOO_LARGE w_TOO_MANY_REQUESTS w_INTERNAL_SERVER_ERROR w_NOT_IMPLEMENTED w_BAD_GATEWAY w_SERVICE_UNAVAILABLE w_GATEWAY_TIMEOUT w_VERSION_NOT_SUPPORTED w_STATUSES h0 n0 _ T74.heap _
                          rw [e74]
                          exact ⟨by simp [own_of, hc1, hc3, hc47, hc48, hc62, hc63, hc64, hc65, hc67, hc69, hc71, hc73], N0, rfl⟩
                        · refine ogo (fun t k => XS.icmpYes X0.here hx rfl (pc0 := 185) (pc' := 192) rfl (hb hby d2_185) rfl (feq hc73).2 (by decide) (by decide) k) ?_
                          show OwnEnds _ _ _ _ _ _ _ (s₁.setTop (mkF m 192 #[.val (.int qv)] []))
                          obtain ⟨T75, X75, e75, st75⟩ := getS2 X0 hx hZ hown (host := "") (Or.inl (hw _ (List.mem_of_getElem? (i := 39) rfl))) Via.refl e0 S_VERSION_NOT_SUPPORTED (g := (mkF m 192 #[.val (.int qv)] [])) rfl (hb hby d2_192)
                          refine ogo st75 ?_
                          show OwnEnds _ _ _ _ _ _ _ (T75.setTop (mkF m 195 #[.val (.int qv)] [(.ref w_VERSION_NOT_SUPPORTED)]))
                          refine endA X75 hx hlk Bd.returns rfl rfl (hb hby d2_195) (by decide) (by decide) ?_
                          show Q2 Z qv w_OK w_MOVED_PERMANENTLY w_FOUND w_NOT_MODIFIED w_BAD_REQUEST w_UNAUTHORIZED w_PAYMENT_REQUIRED w_FORBIDDEN w_NOT_FOUND w_REQUEST_TIMEOUT w_REQUEST_ENTITY_TOO_LARGE w_TOO_MANY_REQUESTS w_INTERNAL_SERVER_ERROR w_NOT_IMPLEMENTED w_BAD_GATEWAY w_SERVICE_UNAVAILABLE w_GATEWAY_TIMEOUT w_VERSION_NOT_SUPPORTED w_STATUSES h0 n0 _ T75.heap _
                          rw [e75]
                          have z : qv = 53 := by
                            apply Int32.toInt_inj.mp
                            have yhc1 := hc1
                            have yhc3 := hc3
                            have yhc47 := hc47
                            have yhc48 := hc48
                            have yhc62 := hc62
                            have yhc63 := hc63
                            have yhc64 := hc64
                            have yhc65 := hc65
                            have yhc67 := hc67
                            have yhc69 := hc69
                            have yhc71 := hc71
                            have yhc73 := hc73
                            simp only [Int32.lt_iff_toInt_lt, ← Int32.toInt_inj] at yhc1 yhc3 yhc47 yhc48 yhc62 yhc63 yhc64 yhc65 yhc67 yhc69 yhc71 yhc73
                            have t0 : (0 : Int32).toInt = 0 := by decide
                            have t16 : (16 : Int32).toInt = 16 := by decide
                            have t18 : (18 : Int32).toInt = 18 := by decide
                            have t32 : (32 : Int32).toInt = 32 := by decide
                            have t39 : (39 : Int32).toInt = 39 := by decide
                            have t48 : (48 : Int32).toInt = 48 := by decide
                            have t49 : (49 : Int32).toInt = 49 := by decide
                            have t50 : (50 : Int32).toInt = 50 := by decide
                            have t51 : (51 : Int32).toInt = 51 := by decide
                            have t52 : (52 : Int32).toInt = 52 := by decide
                            have t53 : (53 : Int32).toInt = 53 := by decide
                            omega
                          exact ⟨by simp [own_of, z], N0, rfl⟩
          · refine ogo (fun t k => XS.icmpNo X0.here hx rfl (hb hby d2_53) rfl (flt hc62).2.2.1 k) ?_
            show OwnEnds _ _ _ _ _ _ _ (s₁.setTop (mkF m 56 #[.val (.int qv)] []))
            refine ogo (fun t k => XS.iloadN X0.here hx rfl (hb hby d2_56) rfl k) ?_
            show OwnEnds _ _ _ _ _ _ _ (s₁.setTop (mkF m 57 #[.val (.int qv)] [(.int qv)]))
            refine ogo (fun t k => XS.bipush X0.here hx rfl (hb hby d2_57) k) ?_
            show OwnEnds _ _ _ _ _ _ _ (s₁.setTop (mkF m 59 #[.val (.int qv)] [(.int (32 : Int32)), (.int qv)]))
            by_cases hc76 : qv = (32 : Int32)
            · refine ogo (fun t k => XS.icmpNo X0.here hx rfl (hb hby d2_59) rfl (teq hc76).2 k) ?_
              show OwnEnds _ _ _ _ _ _ _ (s₁.setTop (mkF m 62 #[.val (.int qv)] []))
              obtain ⟨T77, X77, e77, st77⟩ := getS2 X0 hx hZ hown (host := "") (Or.inl (hw _ (List.mem_of_getElem? (i := 32) rfl))) Via.refl e0 S_BAD_REQUEST (g := (mkF m 62 #[.val (.int qv)] [])) rfl (hb hby d2_62)
              refine ogo st77 ?_
              show OwnEnds _ _ _ _ _ _ _ (T77.setTop (mkF m 65 #[.val (.int qv)] [(.ref w_BAD_REQUEST)]))
              refine endA X77 hx hlk Bd.returns rfl rfl (hb hby d2_65) (by decide) (by decide) ?_
              show Q2 Z qv w_OK w_MOVED_PERMANENTLY w_FOUND w_NOT_MODIFIED w_BAD_REQUEST w_UNAUTHORIZED w_PAYMENT_REQUIRED w_FORBIDDEN w_NOT_FOUND w_REQUEST_TIMEOUT w_REQUEST_ENTITY_TOO_LARGE w_TOO_MANY_REQUESTS w_INTERNAL_SERVER_ERROR w_NOT_IMPLEMENTED w_BAD_GATEWAY w_SERVICE_UNAVAILABLE w_GATEWAY_TIMEOUT w_VERSION_NOT_SUPPORTED w_STATUSES h0 n0 _ T77.heap _
              rw [e77]
              exact ⟨by simp [own_of, hc1, hc3, hc47, hc48, hc62, hc76], N0, rfl⟩
            · refine ogo (fun t k => XS.icmpYes X0.here hx rfl (pc0 := 59) (pc' := 66) rfl (hb hby d2_59) rfl (feq hc76).2 (by decide) (by decide) k) ?_
              show OwnEnds _ _ _ _ _ _ _ (s₁.setTop (mkF m 66 #[.val (.int qv)] []))
              refine ogo (fun t k => XS.iloadN X0.here hx rfl (hb hby d2_66) rfl k) ?_
              show OwnEnds _ _ _ _ _ _ _ (s₁.setTop (mkF m 67 #[.val (.int qv)] [(.int qv)]))
              refine ogo (fun t k => XS.bipush X0.here hx rfl (hb hby d2_67) k) ?_
              show OwnEnds _ _ _ _ _ _ _ (s₁.setTop (mkF m 69 #[.val (.int qv)] [(.int (33 : Int32)), (.int qv)]))
              by_cases hc78 : qv = (33 : Int32)
              · refine ogo (fun t k => XS.icmpNo X0.here hx rfl (hb hby d2_69) rfl (teq hc78).2 k) ?_
                show OwnEnds _ _ _ _ _ _ _ (s₁.setTop (mkF m 72 #[.val (.int qv)] []))
                obtain ⟨T79, X79, e79, st79⟩ := getS2 X0 hx hZ hown (host := "") (Or.inl (hw _ (List.mem_of_getElem? (i := 42) rfl))) Via.refl e0 S_UNAUTHORIZED (g := (mkF m 72 #[.val (.int qv)] [])) rfl (hb hby d2_72)
                refine ogo st79 ?_
                show OwnEnds _ _ _ _ _ _ _ (T79.setTop (mkF m 75 #[.val (.int qv)] [(.ref w_UNAUTHORIZED)]))
                refine endA X79 hx hlk Bd.returns rfl rfl (hb hby d2_75) (by decide) (by decide) ?_
                show Q2 Z qv w_OK w_MOVED_PERMANENTLY w_FOUND w_NOT_MODIFIED w_BAD_REQUEST w_UNAUTHORIZED w_PAYMENT_REQUIRED w_FORBIDDEN w_NOT_FOUND w_REQUEST_TIMEOUT w_REQUEST_ENTITY_TOO_LARGE w_TOO_MANY_REQUESTS w_INTERNAL_SERVER_ERROR w_NOT_IMPLEMENTED w_BAD_GATEWAY w_SERVICE_UNAVAILABLE w_GATEWAY_TIMEOUT w_VERSION_NOT_SUPPORTED w_STATUSES h0 n0 _ T79.heap _
                rw [e79]
                exact ⟨by simp [own_of, hc1, hc3, hc47, hc48, hc62, hc76, hc78], N0, rfl⟩
              · refine ogo (fun t k => XS.icmpYes X0.here hx rfl (pc0 := 69) (pc' := 76) rfl (hb hby d2_69) rfl (feq hc78).2 (by decide) (by decide) k) ?_
                show OwnEnds _ _ _ _ _ _ _ (s₁.setTop (mkF m 76 #[.val (.int qv)] []))
                refine ogo (fun t k => XS.iloadN X0.here hx rfl (hb hby d2_76) rfl k) ?_
                show OwnEnds _ _ _ _ _ _ _ (s₁.setTop (mkF m 77 #[.val (.int qv)] [(.int qv)]))
                refine ogo (fun t k => XS.bipush X0.here hx rfl (hb hby d2_77) k) ?_
                show OwnEnds _ _ _ _ _ _ _ (s₁.setTop (mkF m 79 #[.val (.int qv)] [(.int (34 : Int32)), (.int qv)]))
                by_cases hc80 : qv = (34 : Int32)
                · refine ogo (fun t k => XS.icmpNo X0.here hx rfl (hb hby d2_79) rfl (teq hc80).2 k) ?_
                  show OwnEnds _ _ _ _ _ _ _ (s₁.setTop (mkF m 82 #[.val (.int qv)] []))
                  obtain ⟨T81, X81, e81, st81⟩ := getS2 X0 hx hZ hown (host := "") (Or.inl (hw _ (List.mem_of_getElem? (i := 45) rfl))) Via.refl e0 S_PAYMENT_REQUIRED (g := (mkF m 82 #[.val (.int qv)] [])) rfl (hb hby d2_82)
                  refine ogo st81 ?_
                  show OwnEnds _ _ _ _ _ _ _ (T81.setTop (mkF m 85 #[.val (.int qv)] [(.ref w_PAYMENT_REQUIRED)]))
                  refine endA X81 hx hlk Bd.returns rfl rfl (hb hby d2_85) (by decide) (by decide) ?_
                  show Q2 Z qv w_OK w_MOVED_PERMANENTLY w_FOUND w_NOT_MODIFIED w_BAD_REQUEST w_UNAUTHORIZED w_PAYMENT_REQUIRED w_FORBIDDEN w_NOT_FOUND w_REQUEST_TIMEOUT w_REQUEST_ENTITY_TOO_LARGE w_TOO_MANY_REQUESTS w_INTERNAL_SERVER_ERROR w_NOT_IMPLEMENTED w_BAD_GATEWAY w_SERVICE_UNAVAILABLE w_GATEWAY_TIMEOUT w_VERSION_NOT_SUPPORTED w_STATUSES h0 n0 _ T81.heap _
                  rw [e81]
                  exact ⟨by simp [own_of, hc1, hc3, hc47, hc48, hc62, hc76, hc78, hc80], N0, rfl⟩
                · refine ogo (fun t k => XS.icmpYes X0.here hx rfl (pc0 := 79) (pc' := 86) rfl (hb hby d2_79) rfl (feq hc80).2 (by decide) (by decide) k) ?_
                  show OwnEnds _ _ _ _ _ _ _ (s₁.setTop (mkF m 86 #[.val (.int qv)] []))
                  refine ogo (fun t k => XS.iloadN X0.here hx rfl (hb hby d2_86) rfl k) ?_
                  show OwnEnds _ _ _ _ _ _ _ (s₁.setTop (mkF m 87 #[.val (.int qv)] [(.int qv)]))
                  refine ogo (fun t k => XS.bipush X0.here hx rfl (hb hby d2_87) k) ?_
                  show OwnEnds _ _ _ _ _ _ _ (s₁.setTop (mkF m 89 #[.val (.int qv)] [(.int (35 : Int32)), (.int qv)]))
                  by_cases hc82 : qv = (35 : Int32)
                  · refine ogo (fun t k => XS.icmpNo X0.here hx rfl (hb hby d2_89) rfl (teq hc82).2 k) ?_
                    show OwnEnds _ _ _ _ _ _ _ (s₁.setTop (mkF m 92 #[.val (.int qv)] []))
                    obtain ⟨T83, X83, e83, st83⟩ := getS2 X0 hx hZ hown (host := "") (Or.inl (hw _ (List.mem_of_getElem? (i := 47) rfl))) Via.refl e0 S_FORBIDDEN (g := (mkF m 92 #[.val (.int qv)] [])) rfl (hb hby d2_92)
                    refine ogo st83 ?_
                    show OwnEnds _ _ _ _ _ _ _ (T83.setTop (mkF m 95 #[.val (.int qv)] [(.ref w_FORBIDDEN)]))
                    refine endA X83 hx hlk Bd.returns rfl rfl (hb hby d2_95) (by decide) (by decide) ?_
                    show Q2 Z qv w_OK w_MOVED_PERMANENTLY w_FOUND w_NOT_MODIFIED w_BAD_REQUEST w_UNAUTHORIZED w_PAYMENT_REQUIRED w_FORBIDDEN w_NOT_FOUND w_REQUEST_TIMEOUT w_REQUEST_ENTITY_TOO_LARGE w_TOO_MANY_REQUESTS w_INTERNAL_SERVER_ERROR w_NOT_IMPLEMENTED w_BAD_GATEWAY w_SERVICE_UNAVAILABLE w_GATEWAY_TIMEOUT w_VERSION_NOT_SUPPORTED w_STATUSES h0 n0 _ T83.heap _
                    rw [e83]
                    exact ⟨by simp [own_of, hc1, hc3, hc47, hc48, hc62, hc76, hc78, hc80, hc82], N0, rfl⟩
                  · refine ogo (fun t k => XS.icmpYes X0.here hx rfl (pc0 := 89) (pc' := 96) rfl (hb hby d2_89) rfl (feq hc82).2 (by decide) (by decide) k) ?_
                    show OwnEnds _ _ _ _ _ _ _ (s₁.setTop (mkF m 96 #[.val (.int qv)] []))
                    refine ogo (fun t k => XS.iloadN X0.here hx rfl (hb hby d2_96) rfl k) ?_
                    show OwnEnds _ _ _ _ _ _ _ (s₁.setTop (mkF m 97 #[.val (.int qv)] [(.int qv)]))
                    refine ogo (fun t k => XS.bipush X0.here hx rfl (hb hby d2_97) k) ?_
                    show OwnEnds _ _ _ _ _ _ _ (s₁.setTop (mkF m 99 #[.val (.int qv)] [(.int (36 : Int32)), (.int qv)]))
                    by_cases hc84 : qv = (36 : Int32)
                    · refine ogo (fun t k => XS.icmpNo X0.here hx rfl (hb hby d2_99) rfl (teq hc84).2 k) ?_
                      show OwnEnds _ _ _ _ _ _ _ (s₁.setTop (mkF m 102 #[.val (.int qv)] []))
                      obtain ⟨T85, X85, e85, st85⟩ := getS2 X0 hx hZ hown (host := "") (Or.inl (hw _ (List.mem_of_getElem? (i := 41) rfl))) Via.refl e0 S_NOT_FOUND (g := (mkF m 102 #[.val (.int qv)] [])) rfl (hb hby d2_102)
                      refine ogo st85 ?_
                      show OwnEnds _ _ _ _ _ _ _ (T85.setTop (mkF m 105 #[.val (.int qv)] [(.ref w_NOT_FOUND)]))
                      refine endA X85 hx hlk Bd.returns rfl rfl (hb hby d2_105) (by decide) (by decide) ?_
                      show Q2 Z qv w_OK w_MOVED_PERMANENTLY w_FOUND w_NOT_MODIFIED w_BAD_REQUEST w_UNAUTHORIZED w_PAYMENT_REQUIRED w_FORBIDDEN w_NOT_FOUND w_REQUEST_TIMEOUT w_REQUEST_ENTITY_TOO_LARGE w_TOO_MANY_REQUESTS w_INTERNAL_SERVER_ERROR w_NOT_IMPLEMENTED w_BAD_GATEWAY w_SERVICE_UNAVAILABLE w_GATEWAY_TIMEOUT w_VERSION_NOT_SUPPORTED w_STATUSES h0 n0 _ T85.heap _
                      rw [e85]
                      exact ⟨by simp [own_of, hc1, hc3, hc47, hc48, hc62, hc76, hc78, hc80, hc82, hc84], N0, rfl⟩
                    · refine ogo (fun t k => XS.icmpYes X0.here hx rfl (pc0 := 99) (pc' := 106) rfl (hb hby d2_99) rfl (feq hc84).2 (by decide) (by decide) k) ?_
                      show OwnEnds _ _ _ _ _ _ _ (s₁.setTop (mkF m 106 #[.val (.int qv)] []))
                      refine ogo (fun t k => XS.iloadN X0.here hx rfl (hb hby d2_106) rfl k) ?_
                      show OwnEnds _ _ _ _ _ _ _ (s₁.setTop (mkF m 107 #[.val (.int qv)] [(.int qv)]))
                      refine ogo (fun t k => XS.bipush X0.here hx rfl (hb hby d2_107) k) ?_
                      show OwnEnds _ _ _ _ _ _ _ (s₁.setTop (mkF m 109 #[.val (.int qv)] [(.int (37 : Int32)), (.int qv)]))
                      by_cases hc86 : qv = (37 : Int32)
                      · refine ogo (fun t k => XS.icmpNo X0.here hx rfl (hb hby d2_109) rfl (teq hc86).2 k) ?_
                        show OwnEnds _ _ _ _ _ _ _ (s₁.setTop (mkF m 112 #[.val (.int qv)] []))
                        obtain ⟨T87, X87, e87, st87⟩ := getS2 X0 hx hZ hown (host := "") (Or.inl (hw _ (List.mem_of_getElem? (i := 46) rfl))) Via.refl e0 S_REQUEST_TIMEOUT (g := (mkF m 112 #[.val (.int qv)] [])) rfl (hb hby d2_112)
                        refine ogo st87 ?_
                        show OwnEnds _ _ _ _ _ _ _ (T87.setTop (mkF m 115 #[.val (.int qv)] [(.ref w_REQUEST_TIMEOUT)]))
                        refine endA X87 hx hlk Bd.returns rfl rfl (hb hby d2_115) (by decide) (by decide) ?_
                        show Q2 Z qv w_OK w_MOVED_PERMANENTLY w_FOUND w_NOT_MODIFIED w_BAD_REQUEST w_UNAUTHORIZED w_PAYMENT_REQUIRED w_FORBIDDEN w_NOT_FOUND w_REQUEST_TIMEOUT w_REQUEST_ENTITY_TOO_LARGE w_TOO_MANY_REQUESTS w_INTERNAL_SERVER_ERROR w_NOT_IMPLEMENTED w_BAD_GATEWAY w_SERVICE_UNAVAILABLE w_GATEWAY_TIMEOUT w_VERSION_NOT_SUPPORTED w_STATUSES h0 n0 _ T87.heap _
                        rw [e87]
                        exact ⟨by simp [own_of, hc1, hc3, hc47, hc48, hc62, hc76, hc78, hc80, hc82, hc84, hc86], N0, rfl⟩
                      · refine ogo (fun t k => XS.icmpYes X0.here hx rfl (pc0 := 109) (pc' := 116) rfl (hb hby d2_109) rfl (feq hc86).2 (by decide) (by decide) k) ?_
                        show OwnEnds _ _ _ _ _ _ _ (s₁.setTop (mkF m 116 #[.val (.int qv)] []))
                        refine ogo (fun t k => XS.iloadN X0.here hx rfl (hb hby d2_116) rfl k) ?_
                        show OwnEnds _ _ _ _ _ _ _ (s₁.setTop (mkF m 117 #[.val (.int qv)] [(.int qv)]))
                        refine ogo (fun t k => XS.bipush X0.here hx rfl (hb hby d2_117) k) ?_
                        show OwnEnds _ _ _ _ _ _ _ (s₁.setTop (mkF m 119 #[.val (.int qv)] [(.int (38 : Int32)), (.int qv)]))
                        by_cases hc88 : qv = (38 : Int32)
                        · refine ogo (fun t k => XS.icmpNo X0.here hx rfl (hb hby d2_119) rfl (teq hc88).2 k) ?_
                          show OwnEnds _ _ _ _ _ _ _ (s₁.setTop (mkF m 122 #[.val (.int qv)] []))
                          obtain ⟨T89, X89, e89, st89⟩ := getS2 X0 hx hZ hown (host := "") (Or.inl (hw _ (List.mem_of_getElem? (i := 43) rfl))) Via.refl e0 S_REQUEST_ENTITY_TOO_LARGE (g := (mkF m 122 #[.val (.int qv)] [])) rfl (hb hby d2_122)
                          refine ogo st89 ?_
                          show OwnEnds _ _ _ _ _ _ _ (T89.setTop (mkF m 125 #[.val (.int qv)] [(.ref w_REQUEST_ENTITY_TOO_LARGE)]))
                          refine endA X89 hx hlk Bd.returns rfl rfl (hb hby d2_125) (by decide) (by decide) ?_
                          show Q2 Z qv w_OK w_MOVED_PERMANENTLY w_FOUND w_NOT_MODIFIED w_BAD_REQUEST w_UNAUTHORIZED w_PAYMENT_REQUIRED w_FORBIDDEN w_NOT_FOUND w_REQUEST_TIMEOUT w_REQUEST_ENTITY_TOO_LARGE w_TOO_MANY_REQUESTS w_INTERNAL_SERVER_ERROR w_NOT_IMPLEMENTED w_BAD_GATEWAY w_SERVICE_UNAVAILABLE w_GATEWAY_TIMEOUT w_VERSION_NOT_SUPPORTED w_STATUSES h0 n0 _ T89.heap _
                          rw [e89]
                          exact ⟨by simp [own_of, hc1, hc3, hc47, hc48, hc62, hc76, hc78, hc80, hc82, hc84, hc86, hc88], N0, rfl⟩
                        · refine ogo (fun t k => XS.icmpYes X0.here hx rfl (pc0 := 119) (pc' := 126) rfl (hb hby d2_119) rfl (feq hc88).2 (by decide) (by decide) k) ?_
                          show OwnEnds _ _ _ _ _ _ _ (s₁.setTop (mkF m 126 #[.val (.int qv)] []))
                          obtain ⟨T90, X90, e90, st90⟩ := getS2 X0 hx hZ hown (host := "") (Or.inl (hw _ (List.mem_of_getElem? (i := 37) rfl))) Via.refl e0 S_TOO_MANY_REQUESTS (g := (mkF m 126 #[.val (.int qv)] [])) rfl (hb hby d2_126)
                          refine ogo st90 ?_
                          show OwnEnds _ _ _ _ _ _ _ (T90.setTop (mkF m 129 #[.val (.int qv)] [(.ref w_TOO_MANY_REQUESTS)]))
                          refine endA X90 hx hlk Bd.returns rfl rfl (hb hby d2_129) (by decide) (by decide) ?_
                          show Q2 Z qv w_OK w_MOVED_PERMANENTLY w_FOUND w_NOT_MODIFIED w_BAD_REQUEST w_UNAUTHORIZED w_PAYMENT_REQUIRED w_FORBIDDEN w_NOT_FOUND w_REQUEST_TIMEOUT w_REQUEST_ENTITY_TOO_LARGE w_TOO_MANY_REQUESTS w_INTERNAL_SERVER_ERROR w_NOT_IMPLEMENTED w_BAD_GATEWAY w_SERVICE_UNAVAILABLE w_GATEWAY_TIMEOUT w_VERSION_NOT_SUPPORTED w_STATUSES h0 n0 _ T90.heap _
                          rw [e90]
                          have z : qv = 39 := by
                            apply Int32.toInt_inj.mp
                            have yhc1 := hc1
                            have yhc3 := hc3
                            have yhc47 := hc47
                            have yhc48 := hc48
                            have yhc62 := hc62
                            have yhc76 := hc76
                            have yhc78 := hc78
                            have yhc80 := hc80
                            have yhc82 := hc82
                            have yhc84 := hc84
                            have yhc86 := hc86
                            have yhc88 := hc88
                            simp only [Int32.lt_iff_toInt_lt, ← Int32.toInt_inj] at yhc1 yhc3 yhc47 yhc48 yhc62 yhc76 yhc78 yhc80 yhc82 yhc84 yhc86 yhc88
                            have t0 : (0 : Int32).toInt = 0 := by decide
                            have t16 : (16 : Int32).toInt = 16 := by decide
                            have t18 : (18 : Int32).toInt = 18 := by decide
                            have t32 : (32 : Int32).toInt = 32 := by decide
                            have t33 : (33 : Int32).toInt = 33 := by decide
                            have t34 : (34 : Int32).toInt = 34 := by decide
                            have t35 : (35 : Int32).toInt = 35 := by decide
                            have t36 : (36 : Int32).toInt = 36 := by decide
                            have t37 : (37 : Int32).toInt = 37 := by decide
                            have t38 : (38 : Int32).toInt = 38 := by decide
                            have t39 : (39 : Int32).toInt = 39 := by decide
                            omega
                          exact ⟨by simp [own_of, z], N0, rfl⟩
      · refine ogo (fun t k => XS.icmpNo X0.here hx rfl (hb hby d2_17) rfl (flt hc47).2.2.1 k) ?_
        show OwnEnds _ _ _ _ _ _ _ (s₁.setTop (mkF m 20 #[.val (.int qv)] []))
        refine ogo (fun t k => XS.iloadN X0.here hx rfl (hb hby d2_20) rfl k) ?_
        show OwnEnds _ _ _ _ _ _ _ (s₁.setTop (mkF m 21 #[.val (.int qv)] [(.int qv)]))
        refine ogo (fun t k => XS.bipush X0.here hx rfl (hb hby d2_21) k) ?_
        show OwnEnds _ _ _ _ _ _ _ (s₁.setTop (mkF m 23 #[.val (.int qv)] [(.int (16 : Int32)), (.int qv)]))
        by_cases hc91 : qv = (16 : Int32)
        · refine ogo (fun t k => XS.icmpNo X0.here hx rfl (hb hby d2_23) rfl (teq hc91).2 k) ?_
          show OwnEnds _ _ _ _ _ _ _ (s₁.setTop (mkF m 26 #[.val (.int qv)] []))
          obtain ⟨T92, X92, e92, st92⟩ := getS2 X0 hx hZ hown (host := "") (Or.inl (hw _ (List.mem_of_getElem? (i := 31) rfl))) Via.refl e0 S_MOVED_PERMANENTLY (g := (mkF m 26 #[.val (.int qv)] [])) rfl (hb hby d2_26)
          refine ogo st92 ?_
          show OwnEnds _ _ _ _ _ _ _ (T92.setTop (mkF m 29 #[.val (.int qv)] [(.ref w_MOVED_PERMANENTLY)]))
          refine endA X92 hx hlk Bd.returns rfl rfl (hb hby d2_29) (by decide) (by decide) ?_
          show Q2 Z qv w_OK w_MOVED_PERMANENTLY w_FOUND w_NOT_MODIFIED w_BAD_REQUEST w_UNAUTHORIZED w_PAYMENT_REQUIRED w_FORBIDDEN w_NOT_FOUND w_REQUEST_TIMEOUT w_REQUEST_ENTITY_TOO_LARGE w_TOO_MANY_REQUESTS w_INTERNAL_SERVER_ERROR w_NOT_IMPLEMENTED w_BAD_GATEWAY w_SERVICE_UNAVAILABLE w_GATEWAY_TIMEOUT w_VERSION_NOT_SUPPORTED w_STATUSES h0 n0 _ T92.heap _
          rw [e92]
          exact ⟨by simp [own_of, hc1, hc3, hc47, hc91], N0, rfl⟩
        · refine ogo (fun t k => XS.icmpYes X0.here hx rfl (pc0 := 23) (pc' := 30) rfl (hb hby d2_23) rfl (feq hc91).2 (by decide) (by decide) k) ?_
          show OwnEnds _ _ _ _ _ _ _ (s₁.setTop (mkF m 30 #[.val (.int qv)] []))
          refine ogo (fun t k => XS.iloadN X0.here hx rfl (hb hby d2_30) rfl k) ?_
          show OwnEnds _ _ _ _ _ _ _ (s₁.setTop (mkF m 31 #[.val (.int qv)] [(.int qv)]))
          refine ogo (fun t k => XS.bipush X0.here hx rfl (hb hby d2_31) k) ?_
          show OwnEnds _ _ _ _ _ _ _ (s₁.setTop (mkF m 33 #[.val (.int qv)] [(.int (17 : Int32)), (.int qv)]))
          by_cases hc93 : qv = (17 : Int32)
          · refine ogo (fun t k => XS.icmpNo X0.here hx rfl (hb hby d2_33) rfl (teq hc93).2 k) ?_
            show OwnEnds _ _ _ _ _ _ _ (s₁.setTop (mkF m 36 #[.val (.int qv)] []))
            obtain ⟨T94, X94, e94, st94⟩ := getS2 X0 hx hZ hown (host := "") (Or.inl (hw _ (List.mem_of_getElem? (i := 40) rfl))) Via.refl e0 S_FOUND (g := (mkF m 36 #[.val (.int qv)] [])) rfl (hb hby d2_36)
            refine ogo st94 ?_
            show OwnEnds _ _ _ _ _ _ _ (T94.setTop (mkF m 39 #[.val (.int qv)] [(.ref w_FOUND)]))
            refine endA X94 hx hlk Bd.returns rfl rfl (hb hby d2_39) (by decide) (by decide) ?_
            show Q2 Z qv w_OK w_MOVED_PERMANENTLY w_FOUND w_NOT_MODIFIED w_BAD_REQUEST w_UNAUTHORIZED w_PAYMENT_REQUIRED w_FORBIDDEN w_NOT_FOUND w_REQUEST_TIMEOUT w_REQUEST_ENTITY_TOO_LARGE w_TOO_MANY_REQUESTS w_INTERNAL_SERVER_ERROR w_NOT_IMPLEMENTED w_BAD_GATEWAY w_SERVICE_UNAVAILABLE w_GATEWAY_TIMEOUT w_VERSION_NOT_SUPPORTED w_STATUSES h0 n0 _ T94.heap _
            rw [e94]
            exact ⟨by simp [own_of, hc1, hc3, hc47, hc91, hc93], N0, rfl⟩
          · refine ogo (fun t k => XS.icmpYes X0.here hx rfl (pc0 := 33) (pc' := 40) rfl (hb hby d2_33) rfl (feq hc93).2 (by decide) (by decide) k) ?_
            show OwnEnds _ _ _ _ _ _ _ (s₁.setTop (mkF m 40 #[.val (.int qv)] []))
            obtain ⟨T95, X95, e95, st95⟩ := getS2 X0 hx hZ hown (host := "") (Or.inl (hw _ (List.mem_of_getElem? (i := 33) rfl))) Via.refl e0 S_NOT_MODIFIED (g := (mkF m 40 #[.val (.int qv)] [])) rfl (hb hby d2_40)
            refine ogo st95 ?_
            show OwnEnds _ _ _ _ _ _ _ (T95.setTop (mkF m 43 #[.val (.int qv)] [(.ref w_NOT_MODIFIED)]))
            refine endA X95 hx hlk Bd.returns rfl rfl (hb hby d2_43) (by decide) (by decide) ?_
            show Q2 Z qv w_OK w_MOVED_PERMANENTLY w_FOUND w_NOT_MODIFIED w_BAD_REQUEST w_UNAUTHORIZED w_PAYMENT_REQUIRED w_FORBIDDEN w_NOT_FOUND w_REQUEST_TIMEOUT w_REQUEST_ENTITY_TOO_LARGE w_TOO_MANY_REQUESTS w_INTERNAL_SERVER_ERROR w_NOT_IMPLEMENTED w_BAD_GATEWAY w_SERVICE_UNAVAILABLE w_GATEWAY_TIMEOUT w_VERSION_NOT_SUPPORTED w_STATUSES h0 n0 _ T95.heap _
            rw [e95]
            have z : qv = 18 := by
              apply Int32.toInt_inj.mp
              have yhc1 := hc1
              have yhc3 := hc3
              have yhc47 := hc47
              have yhc91 := hc91
              have yhc93 := hc93
              simp only [Int32.lt_iff_toInt_lt, ← Int32.toInt_inj] at yhc1 yhc3 yhc47 yhc91 yhc93
              have t0 : (0 : Int32).toInt = 0 := by decide
              have t16 : (16 : Int32).toInt = 16 := by decide
              have t17 : (17 : Int32).toInt = 17 := by decide
              have t18 : (18 : Int32).toInt = 18 := by decide
              omega
            exact ⟨by simp [own_of, z], N0, rfl⟩
theorem pd__I_Lcom_example_packframe_packframe_onebyte_Status_ : parseMethodDescriptor "(I)Lcom/example/packframe/packframe/onebyte/Status;" = some ⟨[.int], some (.object "com/example/packframe/packframe/onebyte/Status")⟩ := by decide +kernel
theorem ef_0 (m : MethodId) (x0 : Int32) (x1 : Int32) : entryFrame m #[(.int x0), (.int x1)] maxLocals = mkF m 0 #[.val (.int x0), .val (.int x1), .unset, .unset, .unset] [] := by first | (simp [entryFrame, mkF, argsToLocals, Value.category, maxLocals]; done) | rfl
def Q0 (Z : State) (p0 p1 : Int32) (w_OK w_MOVED_PERMANENTLY w_FOUND w_NOT_MODIFIED w_BAD_REQUEST w_UNAUTHORIZED w_PAYMENT_REQUIRED w_FORBIDDEN w_NOT_FOUND w_REQUEST_TIMEOUT w_REQUEST_ENTITY_TOO_LARGE w_TOO_MANY_REQUESTS w_INTERNAL_SERVER_ERROR w_NOT_IMPLEMENTED w_BAD_GATEWAY w_SERVICE_UNAVAILABLE w_GATEWAY_TIMEOUT w_VERSION_NOT_SUPPORTED w_STATUSES : Addr) (h0 : Heap) (n0 : Nat) (v : Option Value) (h : Heap) (L : List Loc) : Prop := v = some (.int 1) ∧ Fr n0 L
set_option maxRecDepth 65536 in
set_option maxHeartbeats 40000000 in
theorem rm0 (l : Launch) (Z : State) (a0 : Array Value) (hw : ∀ d ∈ tables_1, d.before a0 Z = true) (ws : List Jvm.Cond) (p0 p1 : Int32) (w_OK w_MOVED_PERMANENTLY w_FOUND w_NOT_MODIFIED w_BAD_REQUEST w_UNAUTHORIZED w_PAYMENT_REQUIRED w_FORBIDDEN w_NOT_FOUND w_REQUEST_TIMEOUT w_REQUEST_ENTITY_TOO_LARGE w_TOO_MANY_REQUESTS w_INTERNAL_SERVER_ERROR w_NOT_IMPLEMENTED w_BAD_GATEWAY w_SERVICE_UNAVAILABLE w_GATEWAY_TIMEOUT w_VERSION_NOT_SUPPORTED w_STATUSES : Addr) (h0 : Heap) (n0 : Nat) (Z0 : n0 ≤ h0.size) (S_OK : Sta Z h0 "com/example/packframe/packframe/onebyte/Status" "OK" "Lcom/example/packframe/packframe/onebyte/Status;" (.ref w_OK)) (E_OK : Exa Z h0 w_OK "com/example/packframe/packframe/onebyte/Status") (F_code_OK : Fld Z h0 w_OK "com/example/packframe/packframe/onebyte/Status" "code" "I" (.int (0 : Int32))) (S_MOVED_PERMANENTLY : Sta Z h0 "com/example/packframe/packframe/onebyte/Status" "MOVED_PERMANENTLY" "Lcom/example/packframe/packframe/onebyte/Status;" (.ref w_MOVED_PERMANENTLY)) (E_MOVED_PERMANENTLY : Exa Z h0 w_MOVED_PERMANENTLY "com/example/packframe/packframe/onebyte/Status") (F_code_MOVED_PERMANENTLY : Fld Z h0 w_MOVED_PERMANENTLY "com/example/packframe/packframe/onebyte/Status" "code" "I" (.int (16 : Int32))) (S_FOUND : Sta Z h0 "com/example/packframe/packframe/onebyte/Status" "FOUND" "Lcom/example/packframe/packframe/onebyte/Status;" (.ref w_FOUND)) (E_FOUND : Exa Z h0 w_FOUND "com/example/packframe/packframe/onebyte/Status") (F_code_FOUND : Fld Z h0 w_FOUND "com/example/packframe/packframe/onebyte/Status" "code" "I" (.int (17 : Int32))) (S_NOT_MODIFIED : Sta Z h0 "com/example/packframe/packframe/onebyte/Status" "NOT_MODIFIED" "Lcom/example/packframe/packframe/onebyte/Status;" (.ref w_NOT_MODIFIED)) (E_NOT_MODIFIED : Exa Z h0 w_NOT_MODIFIED "com/example/packframe/packframe/onebyte/Status") (F_code_NOT_MODIFIED : Fld Z h0 w_NOT_MODIFIED "com/example/packframe/packframe/onebyte/Status" "code" "I" (.int (18 : Int32))) (S_BAD_REQUEST : Sta Z h0 "com/example/packframe/packframe/onebyte/Status" "BAD_REQUEST" "Lcom/example/packframe/packframe/onebyte/Status;" (.ref w_BAD_REQUEST)) (E_BAD_REQUEST : Exa Z h0 w_BAD_REQUEST "com/example/packframe/packframe/onebyte/Status") (F_code_BAD_REQUEST : Fld Z h0 w_BAD_REQUEST "com/example/packframe/packframe/onebyte/Status" "code" "I" (.int (32 : Int32))) (S_UNAUTHORIZED : Sta Z h0 "com/example/packframe/packframe/onebyte/Status" "UNAUTHORIZED" "Lcom/example/packframe/packframe/onebyte/Status;" (.ref w_UNAUTHORIZED)) (E_UNAUTHORIZED : Exa Z h0 w_UNAUTHORIZED "com/example/packframe/packframe/onebyte/Status") (F_code_UNAUTHORIZED : Fld Z h0 w_UNAUTHORIZED "com/example/packframe/packframe/onebyte/Status" "code" "I" (.int (33 : Int32))) (S_PAYMENT_REQUIRED : Sta Z h0 "com/example/packframe/packframe/onebyte/Status" "PAYMENT_REQUIRED" "Lcom/example/packframe/packframe/onebyte/Status;" (.ref w_PAYMENT_REQUIRED)) (E_PAYMENT_REQUIRED : Exa Z h0 w_PAYMENT_REQUIRED "com/example/packframe/packframe/onebyte/Status") (F_code_PAYMENT_REQUIRED : Fld Z h0 w_PAYMENT_REQUIRED "com/example/packframe/packframe/onebyte/Status" "code" "I" (.int (34 : Int32))) (S_FORBIDDEN : Sta Z h0 "com/example/packframe/packframe/onebyte/Status" "FORBIDDEN" "Lcom/example/packframe/packframe/onebyte/Status;" (.ref w_FORBIDDEN)) (E_FORBIDDEN : Exa Z h0 w_FORBIDDEN "com/example/packframe/packframe/onebyte/Status") (F_code_FORBIDDEN : Fld Z h0 w_FORBIDDEN "com/example/packframe/packframe/onebyte/Status" "code" "I" (.int (35 : Int32))) (S_NOT_FOUND : Sta Z h0 "com/example/packframe/packframe/onebyte/Status" "NOT_FOUND" "Lcom/example/packframe/packframe/onebyte/Status;" (.ref w_NOT_FOUND)) (E_NOT_FOUND : Exa Z h0 w_NOT_FOUND "com/example/packframe/packframe/onebyte/Status") (F_code_NOT_FOUND : Fld Z h0 w_NOT_FOUND "com/example/packframe/packframe/onebyte/Status" "code" "I" (.int (36 : Int32))) (S_REQUEST_TIMEOUT : Sta Z h0 "com/example/packframe/packframe/onebyte/Status" "REQUEST_TIMEOUT" "Lcom/example/packframe/packframe/onebyte/Status;" (.ref w_REQUEST_TIMEOUT)) (E_REQUEST_TIMEOUT : Exa Z h0 w_REQUEST_TIMEOUT "com/example/packframe/packframe/onebyte/Status") (F_code_REQUEST_TIMEOUT : Fld Z h0 w_REQUEST_TIMEOUT "com/example/packframe/packframe/onebyte/Status" "code" "I" (.int (37 : Int32))) (S_REQUEST_ENTITY_TOO_LARGE : Sta Z h0 "com/example/packframe/packframe/onebyte/Status" "REQUEST_ENTITY_TOO_LARGE" "Lcom/example/packframe/packframe/onebyte/Status;" (.ref w_REQUEST_ENTITY_TOO_LARGE)) (E_REQUEST_ENTITY_TOO_LARGE : Exa Z h0 w_REQUEST_ENTITY_TOO_LARGE "com/example/packframe/packframe/onebyte/Status") (F_code_REQUEST_ENTITY_TOO_LARGE : Fld Z h0 w_REQUEST_ENTITY_TOO_LARGE "com/example/packframe/packframe/onebyte/Status" "code" "I" (.int (38 : Int32))) (S_TOO_MANY_REQUESTS : Sta Z h0 "com/example/packframe/packframe/onebyte/Status" "TOO_MANY_REQUESTS" "Lcom/example/packframe/packframe/onebyte/Status;" (.ref w_TOO_MANY_REQUESTS)) (E_TOO_MANY_REQUESTS : Exa Z h0 w_TOO_MANY_REQUESTS "com/example/packframe/packframe/onebyte/Status") (F_code_TOO_MANY_REQUESTS : Fld Z h0 w_TOO_MANY_REQUESTS "com/example/packframe/packframe/onebyte/Status" "code" "I" (.int (39 : Int32))) (S_INTERNAL_SERVER_ERROR : Sta Z h0 "com/example/packframe/packframe/onebyte/Status" "INTERNAL_SERVER_ERROR" "Lcom/example/packframe/packframe/onebyte/Status;" (.ref w_INTERNAL_SERVER_ERROR)) (E_INTERNAL_SERVER_ERROR : Exa Z h0 w_INTERNAL_SERVER_ERROR "com/example/packframe/packframe/onebyte/Status") (F_code_INTERNAL_SERVER_ERROR : Fld Z h0 w_INTERNAL_SERVER_ERROR "com/example/packframe/packframe/onebyte/Status" "code" "I" (.int (48 : Int32))) (S_NOT_IMPLEMENTED : Sta Z h0 "com/example/packframe/packframe/onebyte/Status" "NOT_IMPLEMENTED" "Lcom/example/packframe/packframe/onebyte/Status;" (.ref w_NOT_IMPLEMENTED)) (E_NOT_IMPLEMENTED : Exa Z h0 w_NOT_IMPLEMENTED "com/example/packframe/packframe/onebyte/Status") (F_code_NOT_IMPLEMENTED : Fld Z h0 w_NOT_IMPLEMENTED "com/example/packframe/packframe/onebyte/Status" "code" "I" (.int (49 : Int32))) (S_BAD_GATEWAY : Sta Z h0 "com/example/packframe/packframe/onebyte/Status" "BAD_GATEWAY" "Lcom/example/packframe/packframe/onebyte/Status;" (.ref w_BAD_GATEWAY)) (E_BAD_GATEWAY : Exa Z h0 w_BAD_GATEWAY "com/example/packframe/packframe/onebyte/Status") (F_code_BAD_GATEWAY : Fld Z h0 w_BAD_GATEWAY "com/example/packframe/packframe/onebyte/Status" "code" "I" (.int (50 : Int32))) (S_SERVICE_UNAVAILABLE : Sta Z h0 "com/example/packframe/packframe/onebyte/Status" "SERVICE_UNAVAILABLE" "Lcom/example/packframe/packframe/onebyte/Status;" (.ref w_SERVICE_UNAVAILABLE)) (E_SERVICE_UNAVAILABLE : Exa Z h0 w_SERVICE_UNAVAILABLE "com/example/packframe/packframe/onebyte/Status") (F_code_SERVICE_UNAVAILABLE : Fld Z h0 w_SERVICE_UNAVAILABLE "com/example/packframe/packframe/onebyte/Status" "code" "I" (.int (51 : Int32))) (S_GATEWAY_TIMEOUT : Sta Z h0 "com/example/packframe/packframe/onebyte/Status" "GATEWAY_TIMEOUT" "Lcom/example/packframe/packframe/onebyte/Status;" (.ref w_GATEWAY_TIMEOUT)) (E_GATEWAY_TIMEOUT : Exa Z h0 w_GATEWAY_TIMEOUT "com/example/packframe/packframe/onebyte/Status") (F_code_GATEWAY_TIMEOUT : Fld Z h0 w_GATEWAY_TIMEOUT "com/example/packframe/packframe/onebyte/Status" "code" "I" (.int (52 : Int32))) (S_VERSION_NOT_SUPPORTED : Sta Z h0 "com/example/packframe/packframe/onebyte/Status" "VERSION_NOT_SUPPORTED" "Lcom/example/packframe/packframe/onebyte/Status;" (.ref w_VERSION_NOT_SUPPORTED)) (E_VERSION_NOT_SUPPORTED : Exa Z h0 w_VERSION_NOT_SUPPORTED "com/example/packframe/packframe/onebyte/Status") (F_code_VERSION_NOT_SUPPORTED : Fld Z h0 w_VERSION_NOT_SUPPORTED "com/example/packframe/packframe/onebyte/Status" "code" "I" (.int (53 : Int32))) (S_STATUSES : Sta Z h0 "com/example/packframe/packframe/onebyte/Status" "STATUSES" "[Lcom/example/packframe/packframe/onebyte/Status;" (.ref w_STATUSES)) (V_STATUSES : ∃ k, Arv Z h0 w_STATUSES k (.object "com/example/packframe/packframe/onebyte/Status") (18 : Int32) [(.ref w_OK), (.ref w_MOVED_PERMANENTLY), (.ref w_FOUND), (.ref w_NOT_MODIFIED), (.ref w_BAD_REQUEST), (.ref w_UNAUTHORIZED), (.ref w_PAYMENT_REQUIRED), (.ref w_FORBIDDEN), (.ref w_NOT_FOUND), (.ref w_REQUEST_TIMEOUT), (.ref w_REQUEST_ENTITY_TOO_LARGE), (.ref w_TOO_MANY_REQUESTS), (.ref w_INTERNAL_SERVER_ERROR), (.ref w_NOT_IMPLEMENTED), (.ref w_BAD_GATEWAY), (.ref w_SERVICE_UNAVAILABLE), (.ref w_GATEWAY_TIMEOUT), (.ref w_VERSION_NOT_SUPPORTED)] .null) :
    MetFree l x (head1 (Jvm.Cond.code x code maxLocals ret :: ws) room_1) (fun a U => a = #[(.int p0), (.int p1)] ∧ Z.Warmed39 U.vm ∧ U.heap = h0) (fun _ _ _ _ _ => True) (fun _ U o U' => ∃ v L, o = .returned v ∧ Q0 Z p0 p1 w_OK w_MOVED_PERMANENTLY w_FOUND w_NOT_MODIFIED w_BAD_REQUEST w_UNAUTHORIZED w_PAYMENT_REQUIRED w_FORBIDDEN w_NOT_FOUND w_REQUEST_TIMEOUT w_REQUEST_ENTITY_TOO_LARGE w_TOO_MANY_REQUESTS w_INTERNAL_SERVER_ERROR w_NOT_IMPLEMENTED w_BAD_GATEWAY w_SERVICE_UNAVAILABLE w_GATEWAY_TIMEOUT w_VERSION_NOT_SUPPORTED w_STATUSES h0 n0 v U'.heap L ∧ FrameEnd U o U' L 0 0) := by
  refine MetFree.of_bodySF (plainFor_of_name pn_StatusOfCodePinLaw) hisR ?_
  intro p e s m args below meth c s₁ Bd hml0 hP hK
  obtain ⟨rfl, hZ, hh⟩ := hP
  have hx := Bd.exec
  have hby := Bd.bytes
  have hml : c.maxLocals = 5 := hml0
  have hown : s.vm.findClass "com/example/packframe/packframe/onebyte/StatusOfCodePinLaw" = some m.cls := findClass_of_methodNamed Bd.named
  have hnm := (name_of_methodNamed Bd.named Bd.method).1
  have hlk : meth.locks = false := BodyLoose.notSynchronized Bd
  have X0 : Stand p l e room_1 s m #[(.int p0), (.int p1)] below meth c s₁ [] 0 0 := Stand.of_body Bd
  have e0 : s₁.heap = h0 := by rw [← hh, Bd.state]; rfl
  have N0 := Fr.nil n0
  refine ogo (U' := s₁.setTop (mkF m 0 #[.val (.int p0), .val (.int p1), .unset, .unset, .unset] [])) (Q := Q0 Z p0 p1 w_OK w_MOVED_PERMANENTLY w_FOUND w_NOT_MODIFIED w_BAD_REQUEST w_UNAUTHORIZED w_PAYMENT_REQUIRED w_FORBIDDEN w_NOT_FOUND w_REQUEST_TIMEOUT w_REQUEST_ENTITY_TOO_LARGE w_TOO_MANY_REQUESTS w_INTERNAL_SERVER_ERROR w_NOT_IMPLEMENTED w_BAD_GATEWAY w_SERVICE_UNAVAILABLE w_GATEWAY_TIMEOUT w_VERSION_NOT_SUPPORTED w_STATUSES h0 n0) (K := 0) (N := 0) (fun t k => castTop (ef_0 m p0 p1) k) ?_
  show OwnEnds _ _ _ _ _ _ _ (s₁.setTop (mkF m 0 #[.val (.int p0), .val (.int p1), .unset, .unset, .unset] []))
  refine ogo (fun t k => XS.iloadN X0.here hx rfl (hb hby at_0) rfl k) ?_
  show OwnEnds _ _ _ _ _ _ _ (s₁.setTop (mkF m 1 #[.val (.int p0), .val (.int p1), .unset, .unset, .unset] [(.int p1)]))
  refine ogo (fun t k => XS.iconst X0.here hx rfl (hb hby at_1) k) ?_
  show OwnEnds _ _ _ _ _ _ _ (s₁.setTop (mkF m 2 #[.val (.int p0), .val (.int p1), .unset, .unset, .unset] [(.int (1 : Int32)), (.int p1)]))
  refine ogo (fun t k => XS.iand X0.here hx rfl (hb hby at_2) rfl k) ?_
  show OwnEnds _ _ _ _ _ _ _ (s₁.setTop (mkF m 3 #[.val (.int p0), .val (.int p1), .unset, .unset, .unset] [(.int (p1 &&& (1 : Int32)))]))
  by_cases hc1 : (p1 &&& (1 : Int32)) = (0 : Int32)
  · refine ogo (fun t k => XS.ifYes X0.here hx rfl (pc0 := 3) (pc' := 10) rfl (hb hby at_3) rfl ((if0 _ _).trans (teq hc1).1) (by decide) (by decide) k) ?_
    show OwnEnds _ _ _ _ _ _ _ (s₁.setTop (mkF m 10 #[.val (.int p0), .val (.int p1), .unset, .unset, .unset] []))
    refine ogo (fun t k => XS.iloadN X0.here hx rfl (hb hby at_10) rfl k) ?_
    show OwnEnds _ _ _ _ _ _ _ (s₁.setTop (mkF m 11 #[.val (.int p0), .val (.int p1), .unset, .unset, .unset] [(.int p0)]))
    refine ogo (fun t k => XS.bipush X0.here hx rfl (hb hby at_11) k) ?_
    show OwnEnds _ _ _ _ _ _ _ (s₁.setTop (mkF m 13 #[.val (.int p0), .val (.int p1), .unset, .unset, .unset] [(.int (127 : Int32)), (.int p0)]))
    refine ogo (fun t k => XS.iand X0.here hx rfl (hb hby at_13) rfl k) ?_
    show OwnEnds _ _ _ _ _ _ _ (s₁.setTop (mkF m 14 #[.val (.int p0), .val (.int p1), .unset, .unset, .unset] [(.int (p0 &&& (127 : Int32)))]))
    refine ogo (fun t k => XS.bipush X0.here hx rfl (hb hby at_14) k) ?_
    show OwnEnds _ _ _ _ _ _ _ (s₁.setTop (mkF m 16 #[.val (.int p0), .val (.int p1), .unset, .unset, .unset] [(.int (8 : Int32)), (.int (p0 &&& (127 : Int32)))]))
    refine ogo (fun t k => XS.isub X0.here hx rfl (hb hby at_16) rfl k) ?_
    show OwnEnds _ _ _ _ _ _ _ (s₁.setTop (mkF m 17 #[.val (.int p0), .val (.int p1), .unset, .unset, .unset] [(.int ((p0 &&& (127 : Int32)) - (8 : Int32)))]))
    refine ogo (fun t k => XS.istoreN X0.here hx rfl (hb hby at_17) rfl (l' := #[.val (.int p0), .val (.int p1), .val (.int ((p0 &&& (127 : Int32)) - (8 : Int32))), .unset, .unset]) rfl k) ?_
    show OwnEnds _ _ _ _ _ _ _ (s₁.setTop (mkF m 18 #[.val (.int p0), .val (.int p1), .val (.int ((p0 &&& (127 : Int32)) - (8 : Int32))), .unset, .unset] []))
    refine ogo (fun t k => XS.iloadN X0.here hx rfl (hb hby at_18) rfl k) ?_
    show OwnEnds _ _ _ _ _ _ _ (s₁.setTop (mkF m 19 #[.val (.int p0), .val (.int p1), .val (.int ((p0 &&& (127 : Int32)) - (8 : Int32))), .unset, .unset] [(.int ((p0 &&& (127 : Int32)) - (8 : Int32)))]))
    obtain ⟨v2, _, ⟨T2, L2, k2, n2⟩, -, X2, ⟨Lc2, hQ2, l2, y2, z2⟩, st2⟩ := Jvm.LawKit.callS X0 hx (y := (⟨"com/example/packframe/packframe/onebyte/Status", "ofCode", "(I)Lcom/example/packframe/packframe/onebyte/Status;"⟩ : MethodName)) hown (mvT hZ (hw _ (List.mem_of_getElem? (i := 0) rfl))) (mvT hZ (hw _ (List.mem_of_getElem? (i := 1) rfl))) (mvT hZ (hw _ (List.mem_of_getElem? (i := 2) rfl))) (mvT hZ (hw _ (List.mem_of_getElem? (i := 3) rfl))) (by decide) (backOf (W := 0) (rm1 l Z a0 hw [] ((p0 &&& (127 : Int32)) - (8 : Int32)) w_OK w_MOVED_PERMANENTLY w_FOUND w_NOT_MODIFIED w_BAD_REQUEST w_UNAUTHORIZED w_PAYMENT_REQUIRED w_FORBIDDEN w_NOT_FOUND w_REQUEST_TIMEOUT w_REQUEST_ENTITY_TOO_LARGE w_TOO_MANY_REQUESTS w_INTERNAL_SERVER_ERROR w_NOT_IMPLEMENTED w_BAD_GATEWAY w_SERVICE_UNAVAILABLE w_GATEWAY_TIMEOUT w_VERSION_NOT_SUPPORTED w_STATUSES h0 n0 Z0 S_OK E_OK F_code_OK S_MOVED_PERMANENTLY E_MOVED_PERMANENTLY F_code_MOVED_PERMANENTLY S_FOUND E_FOUND F_code_FOUND S_NOT_MODIFIED E_NOT_MODIFIED F_code_NOT_MODIFIED S_BAD_REQUEST E_BAD_REQUEST F_code_BAD_REQUEST S_UNAUTHORIZED E_UNAUTHORIZED F_code_UNAUTHORIZED S_PAYMENT_REQUIRED E_PAYMENT_REQUIRED F_code_PAYMENT_REQUIRED S_FORBIDDEN E_FORBIDDEN F_code_FORBIDDEN S_NOT_FOUND E_NOT_FOUND F_code_NOT_FOUND S_REQUEST_TIMEOUT E_REQUEST_TIMEOUT F_code_REQUEST_TIMEOUT S_REQUEST_ENTITY_TOO_LARGE E_REQUEST_ENTITY_TOO_LARGE F_code_REQUEST_ENTITY_TOO_LARGE S_TOO_MANY_REQUESTS E_TOO_MANY_REQUESTS F_code_TOO_MANY_REQUESTS S_INTERNAL_SERVER_ERROR E_INTERNAL_SERVER_ERROR F_code_INTERNAL_SERVER_ERROR S_NOT_IMPLEMENTED E_NOT_IMPLEMENTED F_code_NOT_IMPLEMENTED S_BAD_GATEWAY E_BAD_GATEWAY F_code_BAD_GATEWAY S_SERVICE_UNAVAILABLE E_SERVICE_UNAVAILABLE F_code_SERVICE_UNAVAILABLE S_GATEWAY_TIMEOUT E_GATEWAY_TIMEOUT F_code_GATEWAY_TIMEOUT S_VERSION_NOT_SUPPORTED E_VERSION_NOT_SUPPORTED F_code_VERSION_NOT_SUPPORTED S_STATUSES V_STATUSES) hZ (hw _ (List.mem_of_getElem? (i := 3) rfl)) (hw _ (List.mem_of_getElem? (i := 2) rfl)) (by decide) (by decide)) (g := (mkF m 19 #[.val (.int p0), .val (.int p1), .val (.int ((p0 &&& (127 : Int32)) - (8 : Int32))), .unset, .unset] [(.int ((p0 &&& (127 : Int32)) - (8 : Int32)))])) rfl (by rw [hml]; rfl) (argsL := [(.int ((p0 &&& (127 : Int32)) - (8 : Int32)))]) (rest := []) (lenOf pd__I_Lcom_example_packframe_packframe_onebyte_Status_ rfl) rfl (by show 2 * 0 + _ ≤ _; exact Nat.le_of_eq rfl) (hb hby at_19) (fun _ _ => ⟨rfl, e0, (by decide : 0 + 0 ≤ _), (by decide : 0 + 0 ≤ _)⟩)
    dsimp only [Pt.U, Pt.locs, Pt.cells, Pt.slots] at X2 l2 y2 z2 st2 hQ2
    subst l2 y2 z2
    obtain ⟨rfl, N2q, e2⟩ := hQ2
    have N2 := Fr.app N0 N2q
    refine ogo (fun t k => st2 t k) ?_
    show OwnEnds _ _ _ _ _ _ _ (T2.setTop (mkF m 22 #[.val (.int p0), .val (.int p1), .val (.int ((p0 &&& (127 : Int32)) - (8 : Int32))), .unset, .unset] [(own_of ((p0 &&& (127 : Int32)) - (8 : Int32)) w_OK w_MOVED_PERMANENTLY w_FOUND w_NOT_MODIFIED w_BAD_REQUEST w_UNAUTHORIZED w_PAYMENT_REQUIRED w_FORBIDDEN w_NOT_FOUND w_REQUEST_TIMEOUT w_REQUEST_ENTITY_TOO_LARGE w_TOO_MANY_REQUESTS w_INTERNAL_SERVER_ERROR w_NOT_IMPLEMENTED w_BAD_GATEWAY w_SERVICE_UNAVAILABLE w_GATEWAY_TIMEOUT w_VERSION_NOT_SUPPORTED)]))
    refine ogo (fun t k => XS.astoreN X2.here hx rfl (hb hby at_22) rfl (own_of_ref ((p0 &&& (127 : Int32)) - (8 : Int32)) w_OK w_MOVED_PERMANENTLY w_FOUND w_NOT_MODIFIED w_BAD_REQUEST w_UNAUTHORIZED w_PAYMENT_REQUIRED w_FORBIDDEN w_NOT_FOUND w_REQUEST_TIMEOUT w_REQUEST_ENTITY_TOO_LARGE w_TOO_MANY_REQUESTS w_INTERNAL_SERVER_ERROR w_NOT_IMPLEMENTED w_BAD_GATEWAY w_SERVICE_UNAVAILABLE w_GATEWAY_TIMEOUT w_VERSION_NOT_SUPPORTED) (l' := #[.val (.int p0), .val (.int p1), .val (.int ((p0 &&& (127 : Int32)) - (8 : Int32))), .val (own_of ((p0 &&& (127 : Int32)) - (8 : Int32)) w_OK w_MOVED_PERMANENTLY w_FOUND w_NOT_MODIFIED w_BAD_REQUEST w_UNAUTHORIZED w_PAYMENT_REQUIRED w_FORBIDDEN w_NOT_FOUND w_REQUEST_TIMEOUT w_REQUEST_ENTITY_TOO_LARGE w_TOO_MANY_REQUESTS w_INTERNAL_SERVER_ERROR w_NOT_IMPLEMENTED w_BAD_GATEWAY w_SERVICE_UNAVAILABLE w_GATEWAY_TIMEOUT w_VERSION_NOT_SUPPORTED), .unset]) (by rcases ref_cases (own_of_ref ((p0 &&& (127 : Int32)) - (8 : Int32)) w_OK w_MOVED_PERMANENTLY w_FOUND w_NOT_MODIFIED w_BAD_REQUEST w_UNAUTHORIZED w_PAYMENT_REQUIRED w_FORBIDDEN w_NOT_FOUND w_REQUEST_TIMEOUT w_REQUEST_ENTITY_TOO_LARGE w_TOO_MANY_REQUESTS w_INTERNAL_SERVER_ERROR w_NOT_IMPLEMENTED w_BAD_GATEWAY w_SERVICE_UNAVAILABLE w_GATEWAY_TIMEOUT w_VERSION_NOT_SUPPORTED) with q | ⟨r, q⟩ <;> rw [q] <;> rfl) k) ?_
    show OwnEnds _ _ _ _ _ _ _ (T2.setTop (mkF m 23 #[.val (.int p0), .val (.int p1), .val (.int ((p0 &&& (127 : Int32)) - (8 : Int32))), .val (own_of ((p0 &&& (127 : Int32)) - (8 : Int32)) w_OK w_MOVED_PERMANENTLY w_FOUND w_NOT_MODIFIED w_BAD_REQUEST w_UNAUTHORIZED w_PAYMENT_REQUIRED w_FORBIDDEN w_NOT_FOUND w_REQUEST_TIMEOUT w_REQUEST_ENTITY_TOO_LARGE w_TOO_MANY_REQUESTS w_INTERNAL_SERVER_ERROR w_NOT_IMPLEMENTED w_BAD_GATEWAY w_SERVICE_UNAVAILABLE w_GATEWAY_TIMEOUT w_VERSION_NOT_SUPPORTED), .unset] []))
    refine ogo (fun t k => XS.iloadN X2.here hx rfl (hb hby at_23) rfl k) ?_
    show OwnEnds _ _ _ _ _ _ _ (T2.setTop (mkF m 24 #[.val (.int p0), .val (.int p1), .val (.int ((p0 &&& (127 : Int32)) - (8 : Int32))), .val (own_of ((p0 &&& (127 : Int32)) - (8 : Int32)) w_OK w_MOVED_PERMANENTLY w_FOUND w_NOT_MODIFIED w_BAD_REQUEST w_UNAUTHORIZED w_PAYMENT_REQUIRED w_FORBIDDEN w_NOT_FOUND w_REQUEST_TIMEOUT w_REQUEST_ENTITY_TOO_LARGE w_TOO_MANY_REQUESTS w_INTERNAL_SERVER_ERROR w_NOT_IMPLEMENTED w_BAD_GATEWAY w_SERVICE_UNAVAILABLE w_GATEWAY_TIMEOUT w_VERSION_NOT_SUPPORTED), .unset] [(.int ((p0 &&& (127 : Int32)) - (8 : Int32)))]))
    obtain ⟨v3, _, ⟨T3, L3, k3, n3⟩, -, X3, ⟨Lc3, hQ3, l3, y3, z3⟩, st3⟩ := Jvm.LawKit.callS X2 hx (y := (⟨"com/example/packframe/packframe/onebyte/StatusOfCodePinLaw", "expected", "(I)Lcom/example/packframe/packframe/onebyte/Status;"⟩ : MethodName)) hown (mvT hZ (hw _ (List.mem_of_getElem? (i := 9) rfl))) (mvT hZ (hw _ (List.mem_of_getElem? (i := 10) rfl))) (mvT hZ (hw _ (List.mem_of_getElem? (i := 11) rfl))) (mvT hZ (hw _ (List.mem_of_getElem? (i := 12) rfl))) (by decide) (backOf (W := 0) (rm2 l Z a0 hw [] ((p0 &&& (127 : Int32)) - (8 : Int32)) w_OK w_MOVED_PERMANENTLY w_FOUND w_NOT_MODIFIED w_BAD_REQUEST w_UNAUTHORIZED w_PAYMENT_REQUIRED w_FORBIDDEN w_NOT_FOUND w_REQUEST_TIMEOUT w_REQUEST_ENTITY_TOO_LARGE w_TOO_MANY_REQUESTS w_INTERNAL_SERVER_ERROR w_NOT_IMPLEMENTED w_BAD_GATEWAY w_SERVICE_UNAVAILABLE w_GATEWAY_TIMEOUT w_VERSION_NOT_SUPPORTED w_STATUSES h0 n0 Z0 S_OK E_OK F_code_OK S_MOVED_PERMANENTLY E_MOVED_PERMANENTLY F_code_MOVED_PERMANENTLY S_FOUND E_FOUND F_code_FOUND S_NOT_MODIFIED E_NOT_MODIFIED F_code_NOT_MODIFIED S_BAD_REQUEST E_BAD_REQUEST F_code_BAD_REQUEST S_UNAUTHORIZED E_UNAUTHORIZED F_code_UNAUTHORIZED S_PAYMENT_REQUIRED E_PAYMENT_REQUIRED F_code_PAYMENT_REQUIRED S_FORBIDDEN E_FORBIDDEN F_code_FORBIDDEN S_NOT_FOUND E_NOT_FOUND F_code_NOT_FOUND S_REQUEST_TIMEOUT E_REQUEST_TIMEOUT F_code_REQUEST_TIMEOUT S_REQUEST_ENTITY_TOO_LARGE E_REQUEST_ENTITY_TOO_LARGE F_code_REQUEST_ENTITY_TOO_LARGE S_TOO_MANY_REQUESTS E_TOO_MANY_REQUESTS F_code_TOO_MANY_REQUESTS S_INTERNAL_SERVER_ERROR E_INTERNAL_SERVER_ERROR F_code_INTERNAL_SERVER_ERROR S_NOT_IMPLEMENTED E_NOT_IMPLEMENTED F_code_NOT_IMPLEMENTED S_BAD_GATEWAY E_BAD_GATEWAY F_code_BAD_GATEWAY S_SERVICE_UNAVAILABLE E_SERVICE_UNAVAILABLE F_code_SERVICE_UNAVAILABLE S_GATEWAY_TIMEOUT E_GATEWAY_TIMEOUT F_code_GATEWAY_TIMEOUT S_VERSION_NOT_SUPPORTED E_VERSION_NOT_SUPPORTED F_code_VERSION_NOT_SUPPORTED S_STATUSES V_STATUSES) hZ (hw _ (List.mem_of_getElem? (i := 12) rfl)) (hw _ (List.mem_of_getElem? (i := 11) rfl)) (by decide) (by decide)) (g := (mkF m 24 #[.val (.int p0), .val (.int p1), .val (.int ((p0 &&& (127 : Int32)) - (8 : Int32))), .val (own_of ((p0 &&& (127 : Int32)) - (8 : Int32)) w_OK w_MOVED_PERMANENTLY w_FOUND w_NOT_MODIFIED w_BAD_REQUEST w_UNAUTHORIZED w_PAYMENT_REQUIRED w_FORBIDDEN w_NOT_FOUND w_REQUEST_TIMEOUT w_REQUEST_ENTITY_TOO_LARGE w_TOO_MANY_REQUESTS w_INTERNAL_SERVER_ERROR w_NOT_IMPLEMENTED w_BAD_GATEWAY w_SERVICE_UNAVAILABLE w_GATEWAY_TIMEOUT w_VERSION_NOT_SUPPORTED), .unset] [(.int ((p0 &&& (127 : Int32)) - (8 : Int32)))])) rfl (by rw [hml]; rfl) (argsL := [(.int ((p0 &&& (127 : Int32)) - (8 : Int32)))]) (rest := []) (lenOf pd__I_Lcom_example_packframe_packframe_onebyte_Status_ rfl) rfl (by show 2 * 0 + _ ≤ _; exact Nat.le_of_eq rfl) (hb hby at_24) (fun _ _ => ⟨rfl, e2, (by decide : 0 + 0 ≤ _), (by decide : 0 + 0 ≤ _)⟩)
    dsimp only [Pt.U, Pt.locs, Pt.cells, Pt.slots] at X3 l3 y3 z3 st3 hQ3
    subst l3 y3 z3
    obtain ⟨rfl, N3q, e3⟩ := hQ3
    have N3 := Fr.app N2 N3q
    refine ogo (fun t k => st3 t k) ?_
    show OwnEnds _ _ _ _ _ _ _ (T3.setTop (mkF m 27 #[.val (.int p0), .val (.int p1), .val (.int ((p0 &&& (127 : Int32)) - (8 : Int32))), .val (own_of ((p0 &&& (127 : Int32)) - (8 : Int32)) w_OK w_MOVED_PERMANENTLY w_FOUND w_NOT_MODIFIED w_BAD_REQUEST w_UNAUTHORIZED w_PAYMENT_REQUIRED w_FORBIDDEN w_NOT_FOUND w_REQUEST_TIMEOUT w_REQUEST_ENTITY_TOO_LARGE w_TOO_MANY_REQUESTS w_INTERNAL_SERVER_ERROR w_NOT_IMPLEMENTED w_BAD_GATEWAY w_SERVICE_UNAVAILABLE w_GATEWAY_TIMEOUT w_VERSION_NOT_SUPPORTED), .unset] [(own_of ((p0 &&& (127 : Int32)) - (8 : Int32)) w_OK w_MOVED_PERMANENTLY w_FOUND w_NOT_MODIFIED w_BAD_REQUEST w_UNAUTHORIZED w_PAYMENT_REQUIRED w_FORBIDDEN w_NOT_FOUND w_REQUEST_TIMEOUT w_REQUEST_ENTITY_TOO_LARGE w_TOO_MANY_REQUESTS w_INTERNAL_SERVER_ERROR w_NOT_IMPLEMENTED w_BAD_GATEWAY w_SERVICE_UNAVAILABLE w_GATEWAY_TIMEOUT w_VERSION_NOT_SUPPORTED)]))
    refine ogo (fun t k => XS.astore X3.here hx rfl (hb hby at_27) rfl (own_of_ref ((p0 &&& (127 : Int32)) - (8 : Int32)) w_OK w_MOVED_PERMANENTLY w_FOUND w_NOT_MODIFIED w_BAD_REQUEST w_UNAUTHORIZED w_PAYMENT_REQUIRED w_FORBIDDEN w_NOT_FOUND w_REQUEST_TIMEOUT w_REQUEST_ENTITY_TOO_LARGE w_TOO_MANY_REQUESTS w_INTERNAL_SERVER_ERROR w_NOT_IMPLEMENTED w_BAD_GATEWAY w_SERVICE_UNAVAILABLE w_GATEWAY_TIMEOUT w_VERSION_NOT_SUPPORTED) (l' := #[.val (.int p0), .val (.int p1), .val (.int ((p0 &&& (127 : Int32)) - (8 : Int32))), .val (own_of ((p0 &&& (127 : Int32)) - (8 : Int32)) w_OK w_MOVED_PERMANENTLY w_FOUND w_NOT_MODIFIED w_BAD_REQUEST w_UNAUTHORIZED w_PAYMENT_REQUIRED w_FORBIDDEN w_NOT_FOUND w_REQUEST_TIMEOUT w_REQUEST_ENTITY_TOO_LARGE w_TOO_MANY_REQUESTS w_INTERNAL_SERVER_ERROR w_NOT_IMPLEMENTED w_BAD_GATEWAY w_SERVICE_UNAVAILABLE w_GATEWAY_TIMEOUT w_VERSION_NOT_SUPPORTED), .val (own_of ((p0 &&& (127 : Int32)) - (8 : Int32)) w_OK w_MOVED_PERMANENTLY w_FOUND w_NOT_MODIFIED w_BAD_REQUEST w_UNAUTHORIZED w_PAYMENT_REQUIRED w_FORBIDDEN w_NOT_FOUND w_REQUEST_TIMEOUT w_REQUEST_ENTITY_TOO_LARGE w_TOO_MANY_REQUESTS w_INTERNAL_SERVER_ERROR w_NOT_IMPLEMENTED w_BAD_GATEWAY w_SERVICE_UNAVAILABLE w_GATEWAY_TIMEOUT w_VERSION_NOT_SUPPORTED)]) (by rcases ref_cases (own_of_ref ((p0 &&& (127 : Int32)) - (8 : Int32)) w_OK w_MOVED_PERMANENTLY w_FOUND w_NOT_MODIFIED w_BAD_REQUEST w_UNAUTHORIZED w_PAYMENT_REQUIRED w_FORBIDDEN w_NOT_FOUND w_REQUEST_TIMEOUT w_REQUEST_ENTITY_TOO_LARGE w_TOO_MANY_REQUESTS w_INTERNAL_SERVER_ERROR w_NOT_IMPLEMENTED w_BAD_GATEWAY w_SERVICE_UNAVAILABLE w_GATEWAY_TIMEOUT w_VERSION_NOT_SUPPORTED) with q | ⟨r, q⟩ <;> rw [q] <;> rfl) k) ?_
    show OwnEnds _ _ _ _ _ _ _ (T3.setTop (mkF m 29 #[.val (.int p0), .val (.int p1), .val (.int ((p0 &&& (127 : Int32)) - (8 : Int32))), .val (own_of ((p0 &&& (127 : Int32)) - (8 : Int32)) w_OK w_MOVED_PERMANENTLY w_FOUND w_NOT_MODIFIED w_BAD_REQUEST w_UNAUTHORIZED w_PAYMENT_REQUIRED w_FORBIDDEN w_NOT_FOUND w_REQUEST_TIMEOUT w_REQUEST_ENTITY_TOO_LARGE w_TOO_MANY_REQUESTS w_INTERNAL_SERVER_ERROR w_NOT_IMPLEMENTED w_BAD_GATEWAY w_SERVICE_UNAVAILABLE w_GATEWAY_TIMEOUT w_VERSION_NOT_SUPPORTED), .val (own_of ((p0 &&& (127 : Int32)) - (8 : Int32)) w_OK w_MOVED_PERMANENTLY w_FOUND w_NOT_MODIFIED w_BAD_REQUEST w_UNAUTHORIZED w_PAYMENT_REQUIRED w_FORBIDDEN w_NOT_FOUND w_REQUEST_TIMEOUT w_REQUEST_ENTITY_TOO_LARGE w_TOO_MANY_REQUESTS w_INTERNAL_SERVER_ERROR w_NOT_IMPLEMENTED w_BAD_GATEWAY w_SERVICE_UNAVAILABLE w_GATEWAY_TIMEOUT w_VERSION_NOT_SUPPORTED)] []))
    refine ogo (fun t k => XS.aloadN X3.here hx rfl (hb hby at_29) rfl (own_of_ref ((p0 &&& (127 : Int32)) - (8 : Int32)) w_OK w_MOVED_PERMANENTLY w_FOUND w_NOT_MODIFIED w_BAD_REQUEST w_UNAUTHORIZED w_PAYMENT_REQUIRED w_FORBIDDEN w_NOT_FOUND w_REQUEST_TIMEOUT w_REQUEST_ENTITY_TOO_LARGE w_TOO_MANY_REQUESTS w_INTERNAL_SERVER_ERROR w_NOT_IMPLEMENTED w_BAD_GATEWAY w_SERVICE_UNAVAILABLE w_GATEWAY_TIMEOUT w_VERSION_NOT_SUPPORTED) k) ?_
    show OwnEnds _ _ _ _ _ _ _ (T3.setTop (mkF m 30 #[.val (.int p0), .val (.int p1), .val (.int ((p0 &&& (127 : Int32)) - (8 : Int32))), .val (own_of ((p0 &&& (127 : Int32)) - (8 : Int32)) w_OK w_MOVED_PERMANENTLY w_FOUND w_NOT_MODIFIED w_BAD_REQUEST w_UNAUTHORIZED w_PAYMENT_REQUIRED w_FORBIDDEN w_NOT_FOUND w_REQUEST_TIMEOUT w_REQUEST_ENTITY_TOO_LARGE w_TOO_MANY_REQUESTS w_INTERNAL_SERVER_ERROR w_NOT_IMPLEMENTED w_BAD_GATEWAY w_SERVICE_UNAVAILABLE w_GATEWAY_TIMEOUT w_VERSION_NOT_SUPPORTED), .val (own_of ((p0 &&& (127 : Int32)) - (8 : Int32)) w_OK w_MOVED_PERMANENTLY w_FOUND w_NOT_MODIFIED w_BAD_REQUEST w_UNAUTHORIZED w_PAYMENT_REQUIRED w_FORBIDDEN w_NOT_FOUND w_REQUEST_TIMEOUT w_REQUEST_ENTITY_TOO_LARGE w_TOO_MANY_REQUESTS w_INTERNAL_SERVER_ERROR w_NOT_IMPLEMENTED w_BAD_GATEWAY w_SERVICE_UNAVAILABLE w_GATEWAY_TIMEOUT w_VERSION_NOT_SUPPORTED)] [(own_of ((p0 &&& (127 : Int32)) - (8 : Int32)) w_OK w_MOVED_PERMANENTLY w_FOUND w_NOT_MODIFIED w_BAD_REQUEST w_UNAUTHORIZED w_PAYMENT_REQUIRED w_FORBIDDEN w_NOT_FOUND w_REQUEST_TIMEOUT w_REQUEST_ENTITY_TOO_LARGE w_TOO_MANY_REQUESTS w_INTERNAL_SERVER_ERROR w_NOT_IMPLEMENTED w_BAD_GATEWAY w_SERVICE_UNAVAILABLE w_GATEWAY_TIMEOUT w_VERSION_NOT_SUPPORTED)]))
    refine ogo (fun t k => XS.aload X3.here hx rfl (hb hby at_30) rfl (own_of_ref ((p0 &&& (127 : Int32)) - (8 : Int32)) w_OK w_MOVED_PERMANENTLY w_FOUND w_NOT_MODIFIED w_BAD_REQUEST w_UNAUTHORIZED w_PAYMENT_REQUIRED w_FORBIDDEN w_NOT_FOUND w_REQUEST_TIMEOUT w_REQUEST_ENTITY_TOO_LARGE w_TOO_MANY_REQUESTS w_INTERNAL_SERVER_ERROR w_NOT_IMPLEMENTED w_BAD_GATEWAY w_SERVICE_UNAVAILABLE w_GATEWAY_TIMEOUT w_VERSION_NOT_SUPPORTED) k) ?_
    show OwnEnds _ _ _ _ _ _ _ (T3.setTop (mkF m 32 #[.val (.int p0), .val (.int p1), .val (.int ((p0 &&& (127 : Int32)) - (8 : Int32))), .val (own_of ((p0 &&& (127 : Int32)) - (8 : Int32)) w_OK w_MOVED_PERMANENTLY w_FOUND w_NOT_MODIFIED w_BAD_REQUEST w_UNAUTHORIZED w_PAYMENT_REQUIRED w_FORBIDDEN w_NOT_FOUND w_REQUEST_TIMEOUT w_REQUEST_ENTITY_TOO_LARGE w_TOO_MANY_REQUESTS w_INTERNAL_SERVER_ERROR w_NOT_IMPLEMENTED w_BAD_GATEWAY w_SERVICE_UNAVAILABLE w_GATEWAY_TIMEOUT w_VERSION_NOT_SUPPORTED), .val (own_of ((p0 &&& (127 : Int32)) - (8 : Int32)) w_OK w_MOVED_PERMANENTLY w_FOUND w_NOT_MODIFIED w_BAD_REQUEST w_UNAUTHORIZED w_PAYMENT_REQUIRED w_FORBIDDEN w_NOT_FOUND w_REQUEST_TIMEOUT w_REQUEST_ENTITY_TOO_LARGE w_TOO_MANY_REQUESTS w_INTERNAL_SERVER_ERROR w_NOT_IMPLEMENTED w_BAD_GATEWAY w_SERVICE_UNAVAILABLE w_GATEWAY_TIMEOUT w_VERSION_NOT_SUPPORTED)] [(own_of ((p0 &&& (127 : Int32)) - (8 : Int32)) w_OK w_MOVED_PERMANENTLY w_FOUND w_NOT_MODIFIED w_BAD_REQUEST w_UNAUTHORIZED w_PAYMENT_REQUIRED w_FORBIDDEN w_NOT_FOUND w_REQUEST_TIMEOUT w_REQUEST_ENTITY_TOO_LARGE w_TOO_MANY_REQUESTS w_INTERNAL_SERVER_ERROR w_NOT_IMPLEMENTED w_BAD_GATEWAY w_SERVICE_UNAVAILABLE w_GATEWAY_TIMEOUT w_VERSION_NOT_SUPPORTED), (own_of ((p0 &&& (127 : Int32)) - (8 : Int32)) w_OK w_MOVED_PERMANENTLY w_FOUND w_NOT_MODIFIED w_BAD_REQUEST w_UNAUTHORIZED w_PAYMENT_REQUIRED w_FORBIDDEN w_NOT_FOUND w_REQUEST_TIMEOUT w_REQUEST_ENTITY_TOO_LARGE w_TOO_MANY_REQUESTS w_INTERNAL_SERVER_ERROR w_NOT_IMPLEMENTED w_BAD_GATEWAY w_SERVICE_UNAVAILABLE w_GATEWAY_TIMEOUT w_VERSION_NOT_SUPPORTED)]))
    refine ogo (fun t k => Jvm.RoadKit.acmp (g := (mkF m 32 #[.val (.int p0), .val (.int p1), .val (.int ((p0 &&& (127 : Int32)) - (8 : Int32))), .val (own_of ((p0 &&& (127 : Int32)) - (8 : Int32)) w_OK w_MOVED_PERMANENTLY w_FOUND w_NOT_MODIFIED w_BAD_REQUEST w_UNAUTHORIZED w_PAYMENT_REQUIRED w_FORBIDDEN w_NOT_FOUND w_REQUEST_TIMEOUT w_REQUEST_ENTITY_TOO_LARGE w_TOO_MANY_REQUESTS w_INTERNAL_SERVER_ERROR w_NOT_IMPLEMENTED w_BAD_GATEWAY w_SERVICE_UNAVAILABLE w_GATEWAY_TIMEOUT w_VERSION_NOT_SUPPORTED), .val (own_of ((p0 &&& (127 : Int32)) - (8 : Int32)) w_OK w_MOVED_PERMANENTLY w_FOUND w_NOT_MODIFIED w_BAD_REQUEST w_UNAUTHORIZED w_PAYMENT_REQUIRED w_FORBIDDEN w_NOT_FOUND w_REQUEST_TIMEOUT w_REQUEST_ENTITY_TOO_LARGE w_TOO_MANY_REQUESTS w_INTERNAL_SERVER_ERROR w_NOT_IMPLEMENTED w_BAD_GATEWAY w_SERVICE_UNAVAILABLE w_GATEWAY_TIMEOUT w_VERSION_NOT_SUPPORTED)] [(own_of ((p0 &&& (127 : Int32)) - (8 : Int32)) w_OK w_MOVED_PERMANENTLY w_FOUND w_NOT_MODIFIED w_BAD_REQUEST w_UNAUTHORIZED w_PAYMENT_REQUIRED w_FORBIDDEN w_NOT_FOUND w_REQUEST_TIMEOUT w_REQUEST_ENTITY_TOO_LARGE w_TOO_MANY_REQUESTS w_INTERNAL_SERVER_ERROR w_NOT_IMPLEMENTED w_BAD_GATEWAY w_SERVICE_UNAVAILABLE w_GATEWAY_TIMEOUT w_VERSION_NOT_SUPPORTED), (own_of ((p0 &&& (127 : Int32)) - (8 : Int32)) w_OK w_MOVED_PERMANENTLY w_FOUND w_NOT_MODIFIED w_BAD_REQUEST w_UNAUTHORIZED w_PAYMENT_REQUIRED w_FORBIDDEN w_NOT_FOUND w_REQUEST_TIMEOUT w_REQUEST_ENTITY_TOO_LARGE w_TOO_MANY_REQUESTS w_INTERNAL_SERVER_ERROR w_NOT_IMPLEMENTED w_BAD_GATEWAY w_SERVICE_UNAVAILABLE w_GATEWAY_TIMEOUT w_VERSION_NOT_SUPPORTED)])) X3 hx rfl (own_of_ref ((p0 &&& (127 : Int32)) - (8 : Int32)) w_OK w_MOVED_PERMANENTLY w_FOUND w_NOT_MODIFIED w_BAD_REQUEST w_UNAUTHORIZED w_PAYMENT_REQUIRED w_FORBIDDEN w_NOT_FOUND w_REQUEST_TIMEOUT w_REQUEST_ENTITY_TOO_LARGE w_TOO_MANY_REQUESTS w_INTERNAL_SERVER_ERROR w_NOT_IMPLEMENTED w_BAD_GATEWAY w_SERVICE_UNAVAILABLE w_GATEWAY_TIMEOUT w_VERSION_NOT_SUPPORTED) (own_of_ref ((p0 &&& (127 : Int32)) - (8 : Int32)) w_OK w_MOVED_PERMANENTLY w_FOUND w_NOT_MODIFIED w_BAD_REQUEST w_UNAUTHORIZED w_PAYMENT_REQUIRED w_FORBIDDEN w_NOT_FOUND w_REQUEST_TIMEOUT w_REQUEST_ENTITY_TOO_LARGE w_TOO_MANY_REQUESTS w_INTERNAL_SERVER_ERROR w_NOT_IMPLEMENTED w_BAD_GATEWAY w_SERVICE_UNAVAILABLE w_GATEWAY_TIMEOUT w_VERSION_NOT_SUPPORTED) (pc0 := 32) (pc' := 35) (same := true) rfl (hb hby at_32) rfl (decide_eq_true rfl) (by decide) (by decide) k) ?_
    show OwnEnds _ _ _ _ _ _ _ (T3.setTop (mkF m 35 #[.val (.int p0), .val (.int p1), .val (.int ((p0 &&& (127 : Int32)) - (8 : Int32))), .val (own_of ((p0 &&& (127 : Int32)) - (8 : Int32)) w_OK w_MOVED_PERMANENTLY w_FOUND w_NOT_MODIFIED w_BAD_REQUEST w_UNAUTHORIZED w_PAYMENT_REQUIRED w_FORBIDDEN w_NOT_FOUND w_REQUEST_TIMEOUT w_REQUEST_ENTITY_TOO_LARGE w_TOO_MANY_REQUESTS w_INTERNAL_SERVER_ERROR w_NOT_IMPLEMENTED w_BAD_GATEWAY w_SERVICE_UNAVAILABLE w_GATEWAY_TIMEOUT w_VERSION_NOT_SUPPORTED), .val (own_of ((p0 &&& (127 : Int32)) - (8 : Int32)) w_OK w_MOVED_PERMANENTLY w_FOUND w_NOT_MODIFIED w_BAD_REQUEST w_UNAUTHORIZED w_PAYMENT_REQUIRED w_FORBIDDEN w_NOT_FOUND w_REQUEST_TIMEOUT w_REQUEST_ENTITY_TOO_LARGE w_TOO_MANY_REQUESTS w_INTERNAL_SERVER_ERROR w_NOT_IMPLEMENTED w_BAD_GATEWAY w_SERVICE_UNAVAILABLE w_GATEWAY_TIMEOUT w_VERSION_NOT_SUPPORTED)] []))
    refine ogo (fun t k => XS.iconst X3.here hx rfl (hb hby at_35) k) ?_
    show OwnEnds _ _ _ _ _ _ _ (T3.setTop (mkF m 36 #[.val (.int p0), .val (.int p1), .val (.int ((p0 &&& (127 : Int32)) - (8 : Int32))), .val (own_of ((p0 &&& (127 : Int32)) - (8 : Int32)) w_OK w_MOVED_PERMANENTLY w_FOUND w_NOT_MODIFIED w_BAD_REQUEST w_UNAUTHORIZED w_PAYMENT_REQUIRED w_FORBIDDEN w_NOT_FOUND w_REQUEST_TIMEOUT w_REQUEST_ENTITY_TOO_LARGE w_TOO_MANY_REQUESTS w_INTERNAL_SERVER_ERROR w_NOT_IMPLEMENTED w_BAD_GATEWAY w_SERVICE_UNAVAILABLE w_GATEWAY_TIMEOUT w_VERSION_NOT_SUPPORTED), .val (own_of ((p0 &&& (127 : Int32)) - (8 : Int32)) w_OK w_MOVED_PERMANENTLY w_FOUND w_NOT_MODIFIED w_BAD_REQUEST w_UNAUTHORIZED w_PAYMENT_REQUIRED w_FORBIDDEN w_NOT_FOUND w_REQUEST_TIMEOUT w_REQUEST_ENTITY_TOO_LARGE w_TOO_MANY_REQUESTS w_INTERNAL_SERVER_ERROR w_NOT_IMPLEMENTED w_BAD_GATEWAY w_SERVICE_UNAVAILABLE w_GATEWAY_TIMEOUT w_VERSION_NOT_SUPPORTED)] [(.int (1 : Int32))]))
    refine ogo (fun t k => XS.goto X3.here hx rfl (pc0 := 36) (pc' := 40) rfl (hb hby at_36) (by decide) (by decide) k) ?_
    show OwnEnds _ _ _ _ _ _ _ (T3.setTop (mkF m 40 #[.val (.int p0), .val (.int p1), .val (.int ((p0 &&& (127 : Int32)) - (8 : Int32))), .val (own_of ((p0 &&& (127 : Int32)) - (8 : Int32)) w_OK w_MOVED_PERMANENTLY w_FOUND w_NOT_MODIFIED w_BAD_REQUEST w_UNAUTHORIZED w_PAYMENT_REQUIRED w_FORBIDDEN w_NOT_FOUND w_REQUEST_TIMEOUT w_REQUEST_ENTITY_TOO_LARGE w_TOO_MANY_REQUESTS w_INTERNAL_SERVER_ERROR w_NOT_IMPLEMENTED w_BAD_GATEWAY w_SERVICE_UNAVAILABLE w_GATEWAY_TIMEOUT w_VERSION_NOT_SUPPORTED), .val (own_of ((p0 &&& (127 : Int32)) - (8 : Int32)) w_OK w_MOVED_PERMANENTLY w_FOUND w_NOT_MODIFIED w_BAD_REQUEST w_UNAUTHORIZED w_PAYMENT_REQUIRED w_FORBIDDEN w_NOT_FOUND w_REQUEST_TIMEOUT w_REQUEST_ENTITY_TOO_LARGE w_TOO_MANY_REQUESTS w_INTERNAL_SERVER_ERROR w_NOT_IMPLEMENTED w_BAD_GATEWAY w_SERVICE_UNAVAILABLE w_GATEWAY_TIMEOUT w_VERSION_NOT_SUPPORTED)] [(.int (1 : Int32))]))
    refine endZ X3 hx hlk Bd.returns rfl (hb hby at_40) (by decide) (by decide) ?_
    show Q0 Z p0 p1 w_OK w_MOVED_PERMANENTLY w_FOUND w_NOT_MODIFIED w_BAD_REQUEST w_UNAUTHORIZED w_PAYMENT_REQUIRED w_FORBIDDEN w_NOT_FOUND w_REQUEST_TIMEOUT w_REQUEST_ENTITY_TOO_LARGE w_TOO_MANY_REQUESTS w_INTERNAL_SERVER_ERROR w_NOT_IMPLEMENTED w_BAD_GATEWAY w_SERVICE_UNAVAILABLE w_GATEWAY_TIMEOUT w_VERSION_NOT_SUPPORTED w_STATUSES h0 n0 _ T3.heap _
    rw [e3]
    exact ⟨rfl, N3⟩
  · refine ogo (fun t k => XS.ifNo X0.here hx rfl (hb hby at_3) rfl ((if0 _ _).trans (feq hc1).1) k) ?_
    show OwnEnds _ _ _ _ _ _ _ (s₁.setTop (mkF m 6 #[.val (.int p0), .val (.int p1), .unset, .unset, .unset] []))
    refine ogo (fun t k => XS.iloadN X0.here hx rfl (hb hby at_6) rfl k) ?_
    show OwnEnds _ _ _ _ _ _ _ (s₁.setTop (mkF m 7 #[.val (.int p0), .val (.int p1), .unset, .unset, .unset] [(.int p0)]))
    refine ogo (fun t k => XS.goto X0.here hx rfl (pc0 := 7) (pc' := 17) rfl (hb hby at_7) (by decide) (by decide) k) ?_
    show OwnEnds _ _ _ _ _ _ _ (s₁.setTop (mkF m 17 #[.val (.int p0), .val (.int p1), .unset, .unset, .unset] [(.int p0)]))
    refine ogo (fun t k => XS.istoreN X0.here hx rfl (hb hby at_17) rfl (l' := #[.val (.int p0), .val (.int p1), .val (.int p0), .unset, .unset]) rfl k) ?_
    show OwnEnds _ _ _ _ _ _ _ (s₁.setTop (mkF m 18 #[.val (.int p0), .val (.int p1), .val (.int p0), .unset, .unset] []))
    refine ogo (fun t k => XS.iloadN X0.here hx rfl (hb hby at_18) rfl k) ?_
    show OwnEnds _ _ _ _ _ _ _ (s₁.setTop (mkF m 19 #[.val (.int p0), .val (.int p1), .val (.int p0), .unset, .unset] [(.int p0)]))
    obtain ⟨v4, _, ⟨T4, L4, k4, n4⟩, -, X4, ⟨Lc4, hQ4, l4, y4, z4⟩, st4⟩ := Jvm.LawKit.callS X0 hx (y := (⟨"com/example/packframe/packframe/onebyte/Status", "ofCode", "(I)Lcom/example/packframe/packframe/onebyte/Status;"⟩ : MethodName)) hown (mvT hZ (hw _ (List.mem_of_getElem? (i := 0) rfl))) (mvT hZ (hw _ (List.mem_of_getElem? (i := 1) rfl))) (mvT hZ (hw _ (List.mem_of_getElem? (i := 2) rfl))) (mvT hZ (hw _ (List.mem_of_getElem? (i := 3) rfl))) (by decide) (backOf (W := 0) (rm1 l Z a0 hw [] p0 w_OK w_MOVED_PERMANENTLY w_FOUND w_NOT_MODIFIED w_BAD_REQUEST w_UNAUTHORIZED w_PAYMENT_REQUIRED w_FORBIDDEN w_NOT_FOUND w_REQUEST_TIMEOUT w_REQUEST_ENTITY_TOO_LARGE w_TOO_MANY_REQUESTS w_INTERNAL_SERVER_ERROR w_NOT_IMPLEMENTED w_BAD_GATEWAY w_SERVICE_UNAVAILABLE w_GATEWAY_TIMEOUT w_VERSION_NOT_SUPPORTED w_STATUSES h0 n0 Z0 S_OK E_OK F_code_OK S_MOVED_PERMANENTLY E_MOVED_PERMANENTLY F_code_MOVED_PERMANENTLY S_FOUND E_FOUND F_code_FOUND S_NOT_MODIFIED E_NOT_MODIFIED F_code_NOT_MODIFIED S_BAD_REQUEST E_BAD_REQUEST F_code_BAD_REQUEST S_UNAUTHORIZED E_UNAUTHORIZED F_code_UNAUTHORIZED S_PAYMENT_REQUIRED E_PAYMENT_REQUIRED F_code_PAYMENT_REQUIRED S_FORBIDDEN E_FORBIDDEN F_code_FORBIDDEN S_NOT_FOUND E_NOT_FOUND F_code_NOT_FOUND S_REQUEST_TIMEOUT E_REQUEST_TIMEOUT F_code_REQUEST_TIMEOUT S_REQUEST_ENTITY_TOO_LARGE E_REQUEST_ENTITY_TOO_LARGE F_code_REQUEST_ENTITY_TOO_LARGE S_TOO_MANY_REQUESTS E_TOO_MANY_REQUESTS F_code_TOO_MANY_REQUESTS S_INTERNAL_SERVER_ERROR E_INTERNAL_SERVER_ERROR F_code_INTERNAL_SERVER_ERROR S_NOT_IMPLEMENTED E_NOT_IMPLEMENTED F_code_NOT_IMPLEMENTED S_BAD_GATEWAY E_BAD_GATEWAY F_code_BAD_GATEWAY S_SERVICE_UNAVAILABLE E_SERVICE_UNAVAILABLE F_code_SERVICE_UNAVAILABLE S_GATEWAY_TIMEOUT E_GATEWAY_TIMEOUT F_code_GATEWAY_TIMEOUT S_VERSION_NOT_SUPPORTED E_VERSION_NOT_SUPPORTED F_code_VERSION_NOT_SUPPORTED S_STATUSES V_STATUSES) hZ (hw _ (List.mem_of_getElem? (i := 3) rfl)) (hw _ (List.mem_of_getElem? (i := 2) rfl)) (by decide) (by decide)) (g := (mkF m 19 #[.val (.int p0), .val (.int p1), .val (.int p0), .unset, .unset] [(.int p0)])) rfl (by rw [hml]; rfl) (argsL := [(.int p0)]) (rest := []) (lenOf pd__I_Lcom_example_packframe_packframe_onebyte_Status_ rfl) rfl (by show 2 * 0 + _ ≤ _; exact Nat.le_of_eq rfl) (hb hby at_19) (fun _ _ => ⟨rfl, e0, (by decide : 0 + 0 ≤ _), (by decide : 0 + 0 ≤ _)⟩)
    dsimp only [Pt.U, Pt.locs, Pt.cells, Pt.slots] at X4 l4 y4 z4 st4 hQ4
    subst l4 y4 z4
    obtain ⟨rfl, N4q, e4⟩ := hQ4
    have N4 := Fr.app N0 N4q
    refine ogo (fun t k => st4 t k) ?_
    show OwnEnds _ _ _ _ _ _ _ (T4.setTop (mkF m 22 #[.val (.int p0), .val (.int p1), .val (.int p0), .unset, .unset] [(own_of p0 w_OK w_MOVED_PERMANENTLY w_FOUND w_NOT_MODIFIED w_BAD_REQUEST w_UNAUTHORIZED w_PAYMENT_REQUIRED w_FORBIDDEN w_NOT_FOUND w_REQUEST_TIMEOUT w_REQUEST_ENTITY_TOO_LARGE w_TOO_MANY_REQUESTS w_INTERNAL_SERVER_ERROR w_NOT_IMPLEMENTED w_BAD_GATEWAY w_SERVICE_UNAVAILABLE w_GATEWAY_TIMEOUT w_VERSION_NOT_SUPPORTED)]))
    refine ogo (fun t k => XS.astoreN X4.here hx rfl (hb hby at_22) rfl (own_of_ref p0 w_OK w_MOVED_PERMANENTLY w_FOUND w_NOT_MODIFIED w_BAD_REQUEST w_UNAUTHORIZED w_PAYMENT_REQUIRED w_FORBIDDEN w_NOT_FOUND w_REQUEST_TIMEOUT w_REQUEST_ENTITY_TOO_LARGE w_TOO_MANY_REQUESTS w_INTERNAL_SERVER_ERROR w_NOT_IMPLEMENTED w_BAD_GATEWAY w_SERVICE_UNAVAILABLE w_GATEWAY_TIMEOUT w_VERSION_NOT_SUPPORTED) (l' := #[.val (.int p0), .val (.int p1), .val (.int p0), .val (own_of p0 w_OK w_MOVED_PERMANENTLY w_FOUND w_NOT_MODIFIED w_BAD_REQUEST w_UNAUTHORIZED w_PAYMENT_REQUIRED w_FORBIDDEN w_NOT_FOUND w_REQUEST_TIMEOUT w_REQUEST_ENTITY_TOO_LARGE w_TOO_MANY_REQUESTS w_INTERNAL_SERVER_ERROR w_NOT_IMPLEMENTED w_BAD_GATEWAY w_SERVICE_UNAVAILABLE w_GATEWAY_TIMEOUT w_VERSION_NOT_SUPPORTED), .unset]) (by rcases ref_cases (own_of_ref p0 w_OK w_MOVED_PERMANENTLY w_FOUND w_NOT_MODIFIED w_BAD_REQUEST w_UNAUTHORIZED w_PAYMENT_REQUIRED w_FORBIDDEN w_NOT_FOUND w_REQUEST_TIMEOUT w_REQUEST_ENTITY_TOO_LARGE w_TOO_MANY_REQUESTS w_INTERNAL_SERVER_ERROR w_NOT_IMPLEMENTED w_BAD_GATEWAY w_SERVICE_UNAVAILABLE w_GATEWAY_TIMEOUT w_VERSION_NOT_SUPPORTED) with q | ⟨r, q⟩ <;> rw [q] <;> rfl) k) ?_
    show OwnEnds _ _ _ _ _ _ _ (T4.setTop (mkF m 23 #[.val (.int p0), .val (.int p1), .val (.int p0), .val (own_of p0 w_OK w_MOVED_PERMANENTLY w_FOUND w_NOT_MODIFIED w_BAD_REQUEST w_UNAUTHORIZED w_PAYMENT_REQUIRED w_FORBIDDEN w_NOT_FOUND w_REQUEST_TIMEOUT w_REQUEST_ENTITY_TOO_LARGE w_TOO_MANY_REQUESTS w_INTERNAL_SERVER_ERROR w_NOT_IMPLEMENTED w_BAD_GATEWAY w_SERVICE_UNAVAILABLE w_GATEWAY_TIMEOUT w_VERSION_NOT_SUPPORTED), .unset] []))
    refine ogo (fun t k => XS.iloadN X4.here hx rfl (hb hby at_23) rfl k) ?_
    show OwnEnds _ _ _ _ _ _ _ (T4.setTop (mkF m 24 #[.val (.int p0), .val (.int p1), .val (.int p0), .val (own_of p0 w_OK w_MOVED_PERMANENTLY w_FOUND w_NOT_MODIFIED w_BAD_REQUEST w_UNAUTHORIZED w_PAYMENT_REQUIRED w_FORBIDDEN w_NOT_FOUND w_REQUEST_TIMEOUT w_REQUEST_ENTITY_TOO_LARGE w_TOO_MANY_REQUESTS w_INTERNAL_SERVER_ERROR w_NOT_IMPLEMENTED w_BAD_GATEWAY w_SERVICE_UNAVAILABLE w_GATEWAY_TIMEOUT w_VERSION_NOT_SUPPORTED), .unset] [(.int p0)]))
    obtain ⟨v5, _, ⟨T5, L5, k5, n5⟩, -, X5, ⟨Lc5, hQ5, l5, y5, z5⟩, st5⟩ := Jvm.LawKit.callS X4 hx (y := (⟨"com/example/packframe/packframe/onebyte/StatusOfCodePinLaw", "expected", "(I)Lcom/example/packframe/packframe/onebyte/Status;"⟩ : MethodName)) hown (mvT hZ (hw _ (List.mem_of_getElem? (i := 9) rfl))) (mvT hZ (hw _ (List.mem_of_getElem? (i := 10) rfl))) (mvT hZ (hw _ (List.mem_of_getElem? (i := 11) rfl))) (mvT hZ (hw _ (List.mem_of_getElem? (i := 12) rfl))) (by decide) (backOf (W := 0) (rm2 l Z a0 hw [] p0 w_OK w_MOVED_PERMANENTLY w_FOUND w_NOT_MODIFIED w_BAD_REQUEST w_UNAUTHORIZED w_PAYMENT_REQUIRED w_FORBIDDEN w_NOT_FOUND w_REQUEST_TIMEOUT w_REQUEST_ENTITY_TOO_LARGE w_TOO_MANY_REQUESTS w_INTERNAL_SERVER_ERROR w_NOT_IMPLEMENTED w_BAD_GATEWAY w_SERVICE_UNAVAILABLE w_GATEWAY_TIMEOUT w_VERSION_NOT_SUPPORTED w_STATUSES h0 n0 Z0 S_OK E_OK F_code_OK S_MOVED_PERMANENTLY E_MOVED_PERMANENTLY F_code_MOVED_PERMANENTLY S_FOUND E_FOUND F_code_FOUND S_NOT_MODIFIED E_NOT_MODIFIED F_code_NOT_MODIFIED S_BAD_REQUEST E_BAD_REQUEST F_code_BAD_REQUEST S_UNAUTHORIZED E_UNAUTHORIZED F_code_UNAUTHORIZED S_PAYMENT_REQUIRED E_PAYMENT_REQUIRED F_code_PAYMENT_REQUIRED S_FORBIDDEN E_FORBIDDEN F_code_FORBIDDEN S_NOT_FOUND E_NOT_FOUND F_code_NOT_FOUND S_REQUEST_TIMEOUT E_REQUEST_TIMEOUT F_code_REQUEST_TIMEOUT S_REQUEST_ENTITY_TOO_LARGE E_REQUEST_ENTITY_TOO_LARGE F_code_REQUEST_ENTITY_TOO_LARGE S_TOO_MANY_REQUESTS E_TOO_MANY_REQUESTS F_code_TOO_MANY_REQUESTS S_INTERNAL_SERVER_ERROR E_INTERNAL_SERVER_ERROR F_code_INTERNAL_SERVER_ERROR S_NOT_IMPLEMENTED E_NOT_IMPLEMENTED F_code_NOT_IMPLEMENTED S_BAD_GATEWAY E_BAD_GATEWAY F_code_BAD_GATEWAY S_SERVICE_UNAVAILABLE E_SERVICE_UNAVAILABLE F_code_SERVICE_UNAVAILABLE S_GATEWAY_TIMEOUT E_GATEWAY_TIMEOUT F_code_GATEWAY_TIMEOUT S_VERSION_NOT_SUPPORTED E_VERSION_NOT_SUPPORTED F_code_VERSION_NOT_SUPPORTED S_STATUSES V_STATUSES) hZ (hw _ (List.mem_of_getElem? (i := 12) rfl)) (hw _ (List.mem_of_getElem? (i := 11) rfl)) (by decide) (by decide)) (g := (mkF m 24 #[.val (.int p0), .val (.int p1), .val (.int p0), .val (own_of p0 w_OK w_MOVED_PERMANENTLY w_FOUND w_NOT_MODIFIED w_BAD_REQUEST w_UNAUTHORIZED w_PAYMENT_REQUIRED w_FORBIDDEN w_NOT_FOUND w_REQUEST_TIMEOUT w_REQUEST_ENTITY_TOO_LARGE w_TOO_MANY_REQUESTS w_INTERNAL_SERVER_ERROR w_NOT_IMPLEMENTED w_BAD_GATEWAY w_SERVICE_UNAVAILABLE w_GATEWAY_TIMEOUT w_VERSION_NOT_SUPPORTED), .unset] [(.int p0)])) rfl (by rw [hml]; rfl) (argsL := [(.int p0)]) (rest := []) (lenOf pd__I_Lcom_example_packframe_packframe_onebyte_Status_ rfl) rfl (by show 2 * 0 + _ ≤ _; exact Nat.le_of_eq rfl) (hb hby at_24) (fun _ _ => ⟨rfl, e4, (by decide : 0 + 0 ≤ _), (by decide : 0 + 0 ≤ _)⟩)
    dsimp only [Pt.U, Pt.locs, Pt.cells, Pt.slots] at X5 l5 y5 z5 st5 hQ5
    subst l5 y5 z5
    obtain ⟨rfl, N5q, e5⟩ := hQ5
    have N5 := Fr.app N4 N5q
    refine ogo (fun t k => st5 t k) ?_
    show OwnEnds _ _ _ _ _ _ _ (T5.setTop (mkF m 27 #[.val (.int p0), .val (.int p1), .val (.int p0), .val (own_of p0 w_OK w_MOVED_PERMANENTLY w_FOUND w_NOT_MODIFIED w_BAD_REQUEST w_UNAUTHORIZED w_PAYMENT_REQUIRED w_FORBIDDEN w_NOT_FOUND w_REQUEST_TIMEOUT w_REQUEST_ENTITY_TOO_LARGE w_TOO_MANY_REQUESTS w_INTERNAL_SERVER_ERROR w_NOT_IMPLEMENTED w_BAD_GATEWAY w_SERVICE_UNAVAILABLE w_GATEWAY_TIMEOUT w_VERSION_NOT_SUPPORTED), .unset] [(own_of p0 w_OK w_MOVED_PERMANENTLY w_FOUND w_NOT_MODIFIED w_BAD_REQUEST w_UNAUTHORIZED w_PAYMENT_REQUIRED w_FORBIDDEN w_NOT_FOUND w_REQUEST_TIMEOUT w_REQUEST_ENTITY_TOO_LARGE w_TOO_MANY_REQUESTS w_INTERNAL_SERVER_ERROR w_NOT_IMPLEMENTED w_BAD_GATEWAY w_SERVICE_UNAVAILABLE w_GATEWAY_TIMEOUT w_VERSION_NOT_SUPPORTED)]))
    refine ogo (fun t k => XS.astore X5.here hx rfl (hb hby at_27) rfl (own_of_ref p0 w_OK w_MOVED_PERMANENTLY w_FOUND w_NOT_MODIFIED w_BAD_REQUEST w_UNAUTHORIZED w_PAYMENT_REQUIRED w_FORBIDDEN w_NOT_FOUND w_REQUEST_TIMEOUT w_REQUEST_ENTITY_TOO_LARGE w_TOO_MANY_REQUESTS w_INTERNAL_SERVER_ERROR w_NOT_IMPLEMENTED w_BAD_GATEWAY w_SERVICE_UNAVAILABLE w_GATEWAY_TIMEOUT w_VERSION_NOT_SUPPORTED) (l' := #[.val (.int p0), .val (.int p1), .val (.int p0), .val (own_of p0 w_OK w_MOVED_PERMANENTLY w_FOUND w_NOT_MODIFIED w_BAD_REQUEST w_UNAUTHORIZED w_PAYMENT_REQUIRED w_FORBIDDEN w_NOT_FOUND w_REQUEST_TIMEOUT w_REQUEST_ENTITY_TOO_LARGE w_TOO_MANY_REQUESTS w_INTERNAL_SERVER_ERROR w_NOT_IMPLEMENTED w_BAD_GATEWAY w_SERVICE_UNAVAILABLE w_GATEWAY_TIMEOUT w_VERSION_NOT_SUPPORTED), .val (own_of p0 w_OK w_MOVED_PERMANENTLY w_FOUND w_NOT_MODIFIED w_BAD_REQUEST w_UNAUTHORIZED w_PAYMENT_REQUIRED w_FORBIDDEN w_NOT_FOUND w_REQUEST_TIMEOUT w_REQUEST_ENTITY_TOO_LARGE w_TOO_MANY_REQUESTS w_INTERNAL_SERVER_ERROR w_NOT_IMPLEMENTED w_BAD_GATEWAY w_SERVICE_UNAVAILABLE w_GATEWAY_TIMEOUT w_VERSION_NOT_SUPPORTED)]) (by rcases ref_cases (own_of_ref p0 w_OK w_MOVED_PERMANENTLY w_FOUND w_NOT_MODIFIED w_BAD_REQUEST w_UNAUTHORIZED w_PAYMENT_REQUIRED w_FORBIDDEN w_NOT_FOUND w_REQUEST_TIMEOUT w_REQUEST_ENTITY_TOO_LARGE w_TOO_MANY_REQUESTS w_INTERNAL_SERVER_ERROR w_NOT_IMPLEMENTED w_BAD_GATEWAY w_SERVICE_UNAVAILABLE w_GATEWAY_TIMEOUT w_VERSION_NOT_SUPPORTED) with q | ⟨r, q⟩ <;> rw [q] <;> rfl) k) ?_
    show OwnEnds _ _ _ _ _ _ _ (T5.setTop (mkF m 29 #[.val (.int p0), .val (.int p1), .val (.int p0), .val (own_of p0 w_OK w_MOVED_PERMANENTLY w_FOUND w_NOT_MODIFIED w_BAD_REQUEST w_UNAUTHORIZED w_PAYMENT_REQUIRED w_FORBIDDEN w_NOT_FOUND w_REQUEST_TIMEOUT w_REQUEST_ENTITY_TOO_LARGE w_TOO_MANY_REQUESTS w_INTERNAL_SERVER_ERROR w_NOT_IMPLEMENTED w_BAD_GATEWAY w_SERVICE_UNAVAILABLE w_GATEWAY_TIMEOUT w_VERSION_NOT_SUPPORTED), .val (own_of p0 w_OK w_MOVED_PERMANENTLY w_FOUND w_NOT_MODIFIED w_BAD_REQUEST w_UNAUTHORIZED w_PAYMENT_REQUIRED w_FORBIDDEN w_NOT_FOUND w_REQUEST_TIMEOUT w_REQUEST_ENTITY_TOO_LARGE w_TOO_MANY_REQUESTS w_INTERNAL_SERVER_ERROR w_NOT_IMPLEMENTED w_BAD_GATEWAY w_SERVICE_UNAVAILABLE w_GATEWAY_TIMEOUT w_VERSION_NOT_SUPPORTED)] []))
    refine ogo (fun t k => XS.aloadN X5.here hx rfl (hb hby at_29) rfl (own_of_ref p0 w_OK w_MOVED_PERMANENTLY w_FOUND w_NOT_MODIFIED w_BAD_REQUEST w_UNAUTHORIZED w_PAYMENT_REQUIRED w_FORBIDDEN w_NOT_FOUND w_REQUEST_TIMEOUT w_REQUEST_ENTITY_TOO_LARGE w_TOO_MANY_REQUESTS w_INTERNAL_SERVER_ERROR w_NOT_IMPLEMENTED w_BAD_GATEWAY w_SERVICE_UNAVAILABLE w_GATEWAY_TIMEOUT w_VERSION_NOT_SUPPORTED) k) ?_
    show OwnEnds _ _ _ _ _ _ _ (T5.setTop (mkF m 30 #[.val (.int p0), .val (.int p1), .val (.int p0), .val (own_of p0 w_OK w_MOVED_PERMANENTLY w_FOUND w_NOT_MODIFIED w_BAD_REQUEST w_UNAUTHORIZED w_PAYMENT_REQUIRED w_FORBIDDEN w_NOT_FOUND w_REQUEST_TIMEOUT w_REQUEST_ENTITY_TOO_LARGE w_TOO_MANY_REQUESTS w_INTERNAL_SERVER_ERROR w_NOT_IMPLEMENTED w_BAD_GATEWAY w_SERVICE_UNAVAILABLE w_GATEWAY_TIMEOUT w_VERSION_NOT_SUPPORTED), .val (own_of p0 w_OK w_MOVED_PERMANENTLY w_FOUND w_NOT_MODIFIED w_BAD_REQUEST w_UNAUTHORIZED w_PAYMENT_REQUIRED w_FORBIDDEN w_NOT_FOUND w_REQUEST_TIMEOUT w_REQUEST_ENTITY_TOO_LARGE w_TOO_MANY_REQUESTS w_INTERNAL_SERVER_ERROR w_NOT_IMPLEMENTED w_BAD_GATEWAY w_SERVICE_UNAVAILABLE w_GATEWAY_TIMEOUT w_VERSION_NOT_SUPPORTED)] [(own_of p0 w_OK w_MOVED_PERMANENTLY w_FOUND w_NOT_MODIFIED w_BAD_REQUEST w_UNAUTHORIZED w_PAYMENT_REQUIRED w_FORBIDDEN w_NOT_FOUND w_REQUEST_TIMEOUT w_REQUEST_ENTITY_TOO_LARGE w_TOO_MANY_REQUESTS w_INTERNAL_SERVER_ERROR w_NOT_IMPLEMENTED w_BAD_GATEWAY w_SERVICE_UNAVAILABLE w_GATEWAY_TIMEOUT w_VERSION_NOT_SUPPORTED)]))
    refine ogo (fun t k => XS.aload X5.here hx rfl (hb hby at_30) rfl (own_of_ref p0 w_OK w_MOVED_PERMANENTLY w_FOUND w_NOT_MODIFIED w_BAD_REQUEST w_UNAUTHORIZED w_PAYMENT_REQUIRED w_FORBIDDEN w_NOT_FOUND w_REQUEST_TIMEOUT w_REQUEST_ENTITY_TOO_LARGE w_TOO_MANY_REQUESTS w_INTERNAL_SERVER_ERROR w_NOT_IMPLEMENTED w_BAD_GATEWAY w_SERVICE_UNAVAILABLE w_GATEWAY_TIMEOUT w_VERSION_NOT_SUPPORTED) k) ?_
    show OwnEnds _ _ _ _ _ _ _ (T5.setTop (mkF m 32 #[.val (.int p0), .val (.int p1), .val (.int p0), .val (own_of p0 w_OK w_MOVED_PERMANENTLY w_FOUND w_NOT_MODIFIED w_BAD_REQUEST w_UNAUTHORIZED w_PAYMENT_REQUIRED w_FORBIDDEN w_NOT_FOUND w_REQUEST_TIMEOUT w_REQUEST_ENTITY_TOO_LARGE w_TOO_MANY_REQUESTS w_INTERNAL_SERVER_ERROR w_NOT_IMPLEMENTED w_BAD_GATEWAY w_SERVICE_UNAVAILABLE w_GATEWAY_TIMEOUT w_VERSION_NOT_SUPPORTED), .val (own_of p0 w_OK w_MOVED_PERMANENTLY w_FOUND w_NOT_MODIFIED w_BAD_REQUEST w_UNAUTHORIZED w_PAYMENT_REQUIRED w_FORBIDDEN w_NOT_FOUND w_REQUEST_TIMEOUT w_REQUEST_ENTITY_TOO_LARGE w_TOO_MANY_REQUESTS w_INTERNAL_SERVER_ERROR w_NOT_IMPLEMENTED w_BAD_GATEWAY w_SERVICE_UNAVAILABLE w_GATEWAY_TIMEOUT w_VERSION_NOT_SUPPORTED)] [(own_of p0 w_OK w_MOVED_PERMANENTLY w_FOUND w_NOT_MODIFIED w_BAD_REQUEST w_UNAUTHORIZED w_PAYMENT_REQUIRED w_FORBIDDEN w_NOT_FOUND w_REQUEST_TIMEOUT w_REQUEST_ENTITY_TOO_LARGE w_TOO_MANY_REQUESTS w_INTERNAL_SERVER_ERROR w_NOT_IMPLEMENTED w_BAD_GATEWAY w_SERVICE_UNAVAILABLE w_GATEWAY_TIMEOUT w_VERSION_NOT_SUPPORTED), (own_of p0 w_OK w_MOVED_PERMANENTLY w_FOUND w_NOT_MODIFIED w_BAD_REQUEST w_UNAUTHORIZED w_PAYMENT_REQUIRED w_FORBIDDEN w_NOT_FOUND w_REQUEST_TIMEOUT w_REQUEST_ENTITY_TOO_LARGE w_TOO_MANY_REQUESTS w_INTERNAL_SERVER_ERROR w_NOT_IMPLEMENTED w_BAD_GATEWAY w_SERVICE_UNAVAILABLE w_GATEWAY_TIMEOUT w_VERSION_NOT_SUPPORTED)]))
    refine ogo (fun t k => Jvm.RoadKit.acmp (g := (mkF m 32 #[.val (.int p0), .val (.int p1), .val (.int p0), .val (own_of p0 w_OK w_MOVED_PERMANENTLY w_FOUND w_NOT_MODIFIED w_BAD_REQUEST w_UNAUTHORIZED w_PAYMENT_REQUIRED w_FORBIDDEN w_NOT_FOUND w_REQUEST_TIMEOUT w_REQUEST_ENTITY_TOO_LARGE w_TOO_MANY_REQUESTS w_INTERNAL_SERVER_ERROR w_NOT_IMPLEMENTED w_BAD_GATEWAY w_SERVICE_UNAVAILABLE w_GATEWAY_TIMEOUT w_VERSION_NOT_SUPPORTED), .val (own_of p0 w_OK w_MOVED_PERMANENTLY w_FOUND w_NOT_MODIFIED w_BAD_REQUEST w_UNAUTHORIZED w_PAYMENT_REQUIRED w_FORBIDDEN w_NOT_FOUND w_REQUEST_TIMEOUT w_REQUEST_ENTITY_TOO_LARGE w_TOO_MANY_REQUESTS w_INTERNAL_SERVER_ERROR w_NOT_IMPLEMENTED w_BAD_GATEWAY w_SERVICE_UNAVAILABLE w_GATEWAY_TIMEOUT w_VERSION_NOT_SUPPORTED)] [(own_of p0 w_OK w_MOVED_PERMANENTLY w_FOUND w_NOT_MODIFIED w_BAD_REQUEST w_UNAUTHORIZED w_PAYMENT_REQUIRED w_FORBIDDEN w_NOT_FOUND w_REQUEST_TIMEOUT w_REQUEST_ENTITY_TOO_LARGE w_TOO_MANY_REQUESTS w_INTERNAL_SERVER_ERROR w_NOT_IMPLEMENTED w_BAD_GATEWAY w_SERVICE_UNAVAILABLE w_GATEWAY_TIMEOUT w_VERSION_NOT_SUPPORTED), (own_of p0 w_OK w_MOVED_PERMANENTLY w_FOUND w_NOT_MODIFIED w_BAD_REQUEST w_UNAUTHORIZED w_PAYMENT_REQUIRED w_FORBIDDEN w_NOT_FOUND w_REQUEST_TIMEOUT w_REQUEST_ENTITY_TOO_LARGE w_TOO_MANY_REQUESTS w_INTERNAL_SERVER_ERROR w_NOT_IMPLEMENTED w_BAD_GATEWAY w_SERVICE_UNAVAILABLE w_GATEWAY_TIMEOUT w_VERSION_NOT_SUPPORTED)])) X5 hx rfl (own_of_ref p0 w_OK w_MOVED_PERMANENTLY w_FOUND w_NOT_MODIFIED w_BAD_REQUEST w_UNAUTHORIZED w_PAYMENT_REQUIRED w_FORBIDDEN w_NOT_FOUND w_REQUEST_TIMEOUT w_REQUEST_ENTITY_TOO_LARGE w_TOO_MANY_REQUESTS w_INTERNAL_SERVER_ERROR w_NOT_IMPLEMENTED w_BAD_GATEWAY w_SERVICE_UNAVAILABLE w_GATEWAY_TIMEOUT w_VERSION_NOT_SUPPORTED) (own_of_ref p0 w_OK w_MOVED_PERMANENTLY w_FOUND w_NOT_MODIFIED w_BAD_REQUEST w_UNAUTHORIZED w_PAYMENT_REQUIRED w_FORBIDDEN w_NOT_FOUND w_REQUEST_TIMEOUT w_REQUEST_ENTITY_TOO_LARGE w_TOO_MANY_REQUESTS w_INTERNAL_SERVER_ERROR w_NOT_IMPLEMENTED w_BAD_GATEWAY w_SERVICE_UNAVAILABLE w_GATEWAY_TIMEOUT w_VERSION_NOT_SUPPORTED) (pc0 := 32) (pc' := 35) (same := true) rfl (hb hby at_32) rfl (decide_eq_true rfl) (by decide) (by decide) k) ?_
    show OwnEnds _ _ _ _ _ _ _ (T5.setTop (mkF m 35 #[.val (.int p0), .val (.int p1), .val (.int p0), .val (own_of p0 w_OK w_MOVED_PERMANENTLY w_FOUND w_NOT_MODIFIED w_BAD_REQUEST w_UNAUTHORIZED w_PAYMENT_REQUIRED w_FORBIDDEN w_NOT_FOUND w_REQUEST_TIMEOUT w_REQUEST_ENTITY_TOO_LARGE w_TOO_MANY_REQUESTS w_INTERNAL_SERVER_ERROR w_NOT_IMPLEMENTED w_BAD_GATEWAY w_SERVICE_UNAVAILABLE w_GATEWAY_TIMEOUT w_VERSION_NOT_SUPPORTED), .val (own_of p0 w_OK w_MOVED_PERMANENTLY w_FOUND w_NOT_MODIFIED w_BAD_REQUEST w_UNAUTHORIZED w_PAYMENT_REQUIRED w_FORBIDDEN w_NOT_FOUND w_REQUEST_TIMEOUT w_REQUEST_ENTITY_TOO_LARGE w_TOO_MANY_REQUESTS w_INTERNAL_SERVER_ERROR w_NOT_IMPLEMENTED w_BAD_GATEWAY w_SERVICE_UNAVAILABLE w_GATEWAY_TIMEOUT w_VERSION_NOT_SUPPORTED)] []))
    refine ogo (fun t k => XS.iconst X5.here hx rfl (hb hby at_35) k) ?_
    show OwnEnds _ _ _ _ _ _ _ (T5.setTop (mkF m 36 #[.val (.int p0), .val (.int p1), .val (.int p0), .val (own_of p0 w_OK w_MOVED_PERMANENTLY w_FOUND w_NOT_MODIFIED w_BAD_REQUEST w_UNAUTHORIZED w_PAYMENT_REQUIRED w_FORBIDDEN w_NOT_FOUND w_REQUEST_TIMEOUT w_REQUEST_ENTITY_TOO_LARGE w_TOO_MANY_REQUESTS w_INTERNAL_SERVER_ERROR w_NOT_IMPLEMENTED w_BAD_GATEWAY w_SERVICE_UNAVAILABLE w_GATEWAY_TIMEOUT w_VERSION_NOT_SUPPORTED), .val (own_of p0 w_OK w_MOVED_PERMANENTLY w_FOUND w_NOT_MODIFIED w_BAD_REQUEST w_UNAUTHORIZED w_PAYMENT_REQUIRED w_FORBIDDEN w_NOT_FOUND w_REQUEST_TIMEOUT w_REQUEST_ENTITY_TOO_LARGE w_TOO_MANY_REQUESTS w_INTERNAL_SERVER_ERROR w_NOT_IMPLEMENTED w_BAD_GATEWAY w_SERVICE_UNAVAILABLE w_GATEWAY_TIMEOUT w_VERSION_NOT_SUPPORTED)] [(.int (1 : Int32))]))
    refine ogo (fun t k => XS.goto X5.here hx rfl (pc0 := 36) (pc' := 40) rfl (hb hby at_36) (by decide) (by decide) k) ?_
    show OwnEnds _ _ _ _ _ _ _ (T5.setTop (mkF m 40 #[.val (.int p0), .val (.int p1), .val (.int p0), .val (own_of p0 w_OK w_MOVED_PERMANENTLY w_FOUND w_NOT_MODIFIED w_BAD_REQUEST w_UNAUTHORIZED w_PAYMENT_REQUIRED w_FORBIDDEN w_NOT_FOUND w_REQUEST_TIMEOUT w_REQUEST_ENTITY_TOO_LARGE w_TOO_MANY_REQUESTS w_INTERNAL_SERVER_ERROR w_NOT_IMPLEMENTED w_BAD_GATEWAY w_SERVICE_UNAVAILABLE w_GATEWAY_TIMEOUT w_VERSION_NOT_SUPPORTED), .val (own_of p0 w_OK w_MOVED_PERMANENTLY w_FOUND w_NOT_MODIFIED w_BAD_REQUEST w_UNAUTHORIZED w_PAYMENT_REQUIRED w_FORBIDDEN w_NOT_FOUND w_REQUEST_TIMEOUT w_REQUEST_ENTITY_TOO_LARGE w_TOO_MANY_REQUESTS w_INTERNAL_SERVER_ERROR w_NOT_IMPLEMENTED w_BAD_GATEWAY w_SERVICE_UNAVAILABLE w_GATEWAY_TIMEOUT w_VERSION_NOT_SUPPORTED)] [(.int (1 : Int32))]))
    refine endZ X5 hx hlk Bd.returns rfl (hb hby at_40) (by decide) (by decide) ?_
    show Q0 Z p0 p1 w_OK w_MOVED_PERMANENTLY w_FOUND w_NOT_MODIFIED w_BAD_REQUEST w_UNAUTHORIZED w_PAYMENT_REQUIRED w_FORBIDDEN w_NOT_FOUND w_REQUEST_TIMEOUT w_REQUEST_ENTITY_TOO_LARGE w_TOO_MANY_REQUESTS w_INTERNAL_SERVER_ERROR w_NOT_IMPLEMENTED w_BAD_GATEWAY w_SERVICE_UNAVAILABLE w_GATEWAY_TIMEOUT w_VERSION_NOT_SUPPORTED w_STATUSES h0 n0 _ T5.heap _
    rw [e5]
    exact ⟨rfl, N5⟩
set_option maxRecDepth 65536 in
set_option maxHeartbeats 40000000 in
theorem comes_1 {Post : Tables → Env → Array Value → State → Outcome → State → Prop} (hpost : ∀ tb e args s v u, (limb_1_1.after args s (.returned v) u = true ∧ limb_1_2.after args s (.returned v) u = true ∧ True) → FrameEnd s (.returned v) u (Jvm.fieldLocs frame_1_writes args s ++ Jvm.arrayLocs frame_1_arrays args s ++ Jvm.staticLocs frame_1_statics s) 0 0 → Post tb e args s (.returned v) u) :
    ArmFor flags0 classFile x code maxLocals ret World_1 tables_1 room_1 Calls_1 rest_1 Pre_1 Post := by
  intro l hfl _ _ p e ha hc hk s m args below hf hA hF happ hP
  obtain ⟨hcalls, hrest, hpre⟩ := hP
  obtain ⟨-, -, -, hnamed, -, -, -, hat⟩ := (Spec.applies_iff hf).mp happ
  obtain ⟨hg, hn⟩ := and_e (Cond.before_iff.mp (show (Jvm.Cond.and given_1 narrow_1).before args s = true from hpre))
  obtain ⟨hcount, hg0⟩ := and_e hg
  obtain ⟨hk0, hg1⟩ := and_e hg0
  have hk1 := hg1
  obtain ⟨w0, w1, rfl⟩ : ∃ w0 w1 : Value, args = #[w0, w1] := by
    have hs : args.size = 2 := by simpa [Cond.value, given_1] using hcount
    obtain ⟨L⟩ := args
    match L, hs with
    | [w0, w1], _ => exact ⟨w0, w1, rfl⟩
  have hw := fun d (hd : d ∈ tables_1) => atoms_spec (ws := Jvm.Cond.code x code maxLocals ret :: tables_1) hat d (List.mem_cons_of_mem _ hd)
  have hfit : Fit s := fun {y c} hc i hi => by
    obtain ⟨ha, rfl⟩ := Array.getElem?_eq_some_iff.mp hc
    have q := List.all_eq_true.mp ((Array.all_eq_true_iff_forall_mem.mp hF) _ (Array.getElem_mem ha)) i (List.mem_range.mpr hi)
    simpa [Array.getElem?_eq_getElem hi] using q
  obtain ⟨i0, ei0⟩ := is_v hk0
  obtain rfl : w0 = (.int i0) := Option.some.inj ei0
  obtain ⟨i1, ei1⟩ := is_v hk1
  obtain rfl : w1 = (.int i1) := Option.some.inj ei1
  obtain ⟨u1a, u1b⟩ := and_e hn
  obtain ⟨u2a, u2b⟩ := and_e u1b
  obtain ⟨u3a, u3b⟩ := and_e u2b
  obtain ⟨u4a, u4b⟩ := and_e u3b
  obtain ⟨u5a, u5b⟩ := and_e u4b
  obtain ⟨u6a, u6b⟩ := and_e u5b
  obtain ⟨u7a, u7b⟩ := and_e u6b
  obtain ⟨u8a, u8b⟩ := and_e u7b
  obtain ⟨u9a, u9b⟩ := and_e u8b
  obtain ⟨u10a, u10b⟩ := and_e u9b
  obtain ⟨u11a, u11b⟩ := and_e u10b
  obtain ⟨u12a, u12b⟩ := and_e u11b
  obtain ⟨u13a, u13b⟩ := and_e u12b
  obtain ⟨u14a, u14b⟩ := and_e u13b
  obtain ⟨u15a, u15b⟩ := and_e u14b
  obtain ⟨u16a, u16b⟩ := and_e u15b
  obtain ⟨u17a, u17b⟩ := and_e u16b
  obtain ⟨u18a, u18b⟩ := and_e u17b
  obtain ⟨u19a, u19b⟩ := and_e u18b
  obtain ⟨u20a, u20b⟩ := and_e u19b
  obtain ⟨u21a, u21b⟩ := and_e u20b
  obtain ⟨u22a, u22b⟩ := and_e u21b
  obtain ⟨u23a, u23b⟩ := and_e u22b
  obtain ⟨u24a, u24b⟩ := and_e u23b
  obtain ⟨u25a, u25b⟩ := and_e u24b
  obtain ⟨u26a, u26b⟩ := and_e u25b
  obtain ⟨u27a, u27b⟩ := and_e u26b
  obtain ⟨u28a, u28b⟩ := and_e u27b
  obtain ⟨u29a, u29b⟩ := and_e u28b
  obtain ⟨u30a, u30b⟩ := and_e u29b
  obtain ⟨u31a, u31b⟩ := and_e u30b
  obtain ⟨u32a, u32b⟩ := and_e u31b
  obtain ⟨u33a, u33b⟩ := and_e u32b
  obtain ⟨u34a, u34b⟩ := and_e u33b
  obtain ⟨u35a, u35b⟩ := and_e u34b
  obtain ⟨u36a, u36b⟩ := and_e u35b
  obtain ⟨u37a, u37b⟩ := and_e u36b
  obtain ⟨u38a, u38b⟩ := and_e u37b
  obtain ⟨u39a, u39b⟩ := and_e u38b
  obtain ⟨u40a, u40b⟩ := and_e u39b
  obtain ⟨u41a, u41b⟩ := and_e u40b
  obtain ⟨u42a, u42b⟩ := and_e u41b
  obtain ⟨u43a, u43b⟩ := and_e u42b
  obtain ⟨u44a, u44b⟩ := and_e u43b
  obtain ⟨u45a, u45b⟩ := and_e u44b
  obtain ⟨u46a, u46b⟩ := and_e u45b
  obtain ⟨u47a, u47b⟩ := and_e u46b
  obtain ⟨u48a, u48b⟩ := and_e u47b
  obtain ⟨u49a, u49b⟩ := and_e u48b
  obtain ⟨u50a, u50b⟩ := and_e u49b
  obtain ⟨u51a, u51b⟩ := and_e u50b
  obtain ⟨u52a, u52b⟩ := and_e u51b
  obtain ⟨u53a, u53b⟩ := and_e u52b
  obtain ⟨u54a, u54b⟩ := and_e u53b
  obtain ⟨u55a, u55b⟩ := and_e u54b
  obtain ⟨w_OK, ev_OK⟩ := exa_v u3a
  have S_OK : Sta s s.heap "com/example/packframe/packframe/onebyte/Status" "OK" "Lcom/example/packframe/packframe/onebyte/Status;" (.ref w_OK) := Sta.start ev_OK (Or.inr ⟨(hw _ (List.mem_of_getElem? (i := 2) rfl)), (hw _ (List.mem_of_getElem? (i := 6) rfl))⟩)
  have E_OK : Exa s s.heap w_OK "com/example/packframe/packframe/onebyte/Status" := Exa.start ev_OK u3a
  obtain ⟨w_MOVED_PERMANENTLY, ev_MOVED_PERMANENTLY⟩ := exa_v u6a
  have S_MOVED_PERMANENTLY : Sta s s.heap "com/example/packframe/packframe/onebyte/Status" "MOVED_PERMANENTLY" "Lcom/example/packframe/packframe/onebyte/Status;" (.ref w_MOVED_PERMANENTLY) := Sta.start ev_MOVED_PERMANENTLY (Or.inr ⟨(hw _ (List.mem_of_getElem? (i := 2) rfl)), (hw _ (List.mem_of_getElem? (i := 14) rfl))⟩)
  have E_MOVED_PERMANENTLY : Exa s s.heap w_MOVED_PERMANENTLY "com/example/packframe/packframe/onebyte/Status" := Exa.start ev_MOVED_PERMANENTLY u6a
  obtain ⟨w_FOUND, ev_FOUND⟩ := exa_v u9a
  have S_FOUND : Sta s s.heap "com/example/packframe/packframe/onebyte/Status" "FOUND" "Lcom/example/packframe/packframe/onebyte/Status;" (.ref w_FOUND) := Sta.start ev_FOUND (Or.inr ⟨(hw _ (List.mem_of_getElem? (i := 2) rfl)), (hw _ (List.mem_of_getElem? (i := 15) rfl))⟩)
  have E_FOUND : Exa s s.heap w_FOUND "com/example/packframe/packframe/onebyte/Status" := Exa.start ev_FOUND u9a
  obtain ⟨w_NOT_MODIFIED, ev_NOT_MODIFIED⟩ := exa_v u12a
  have S_NOT_MODIFIED : Sta s s.heap "com/example/packframe/packframe/onebyte/Status" "NOT_MODIFIED" "Lcom/example/packframe/packframe/onebyte/Status;" (.ref w_NOT_MODIFIED) := Sta.start ev_NOT_MODIFIED (Or.inr ⟨(hw _ (List.mem_of_getElem? (i := 2) rfl)), (hw _ (List.mem_of_getElem? (i := 16) rfl))⟩)
  have E_NOT_MODIFIED : Exa s s.heap w_NOT_MODIFIED "com/example/packframe/packframe/onebyte/Status" := Exa.start ev_NOT_MODIFIED u12a
  obtain ⟨w_BAD_REQUEST, ev_BAD_REQUEST⟩ := exa_v u15a
  have S_BAD_REQUEST : Sta s s.heap "com/example/packframe/packframe/onebyte/Status" "BAD_REQUEST" "Lcom/example/packframe/packframe/onebyte/Status;" (.ref w_BAD_REQUEST) := Sta.start ev_BAD_REQUEST (Or.inr ⟨(hw _ (List.mem_of_getElem? (i := 2) rfl)), (hw _ (List.mem_of_getElem? (i := 17) rfl))⟩)
  have E_BAD_REQUEST : Exa s s.heap w_BAD_REQUEST "com/example/packframe/packframe/onebyte/Status" := Exa.start ev_BAD_REQUEST u15a
  obtain ⟨w_UNAUTHORIZED, ev_UNAUTHORIZED⟩ := exa_v u18a
  have S_UNAUTHORIZED : Sta s s.heap "com/example/packframe/packframe/onebyte/Status" "UNAUTHORIZED" "Lcom/example/packframe/packframe/onebyte/Status;" (.ref w_UNAUTHORIZED) := Sta.start ev_UNAUTHORIZED (Or.inr ⟨(hw _ (List.mem_of_getElem? (i := 2) rfl)), (hw _ (List.mem_of_getElem? (i := 18) rfl))⟩)
  have E_UNAUTHORIZED : Exa s s.heap w_UNAUTHORIZED "com/example/packframe/packframe/onebyte/Status" := Exa.start ev_UNAUTHORIZED u18a
  obtain ⟨w_PAYMENT_REQUIRED, ev_PAYMENT_REQUIRED⟩ := exa_v u21a
  have S_PAYMENT_REQUIRED : Sta s s.heap "com/example/packframe/packframe/onebyte/Status" "PAYMENT_REQUIRED" "Lcom/example/packframe/packframe/onebyte/Status;" (.ref w_PAYMENT_REQUIRED) := Sta.start ev_PAYMENT_REQUIRED (Or.inr ⟨(hw _ (List.mem_of_getElem? (i := 2) rfl)), (hw _ (List.mem_of_getElem? (i := 19) rfl))⟩)
  have E_PAYMENT_REQUIRED : Exa s s.heap w_PAYMENT_REQUIRED "com/example/packframe/packframe/onebyte/Status" := Exa.start ev_PAYMENT_REQUIRED u21a
  obtain ⟨w_FORBIDDEN, ev_FORBIDDEN⟩ := exa_v u24a
  have S_FORBIDDEN : Sta s s.heap "com/example/packframe/packframe/onebyte/Status" "FORBIDDEN" "Lcom/example/packframe/packframe/onebyte/Status;" (.ref w_FORBIDDEN) := Sta.start ev_FORBIDDEN (Or.inr ⟨(hw _ (List.mem_of_getElem? (i := 2) rfl)), (hw _ (List.mem_of_getElem? (i := 20) rfl))⟩)
  have E_FORBIDDEN : Exa s s.heap w_FORBIDDEN "com/example/packframe/packframe/onebyte/Status" := Exa.start ev_FORBIDDEN u24a
  obtain ⟨w_NOT_FOUND, ev_NOT_FOUND⟩ := exa_v u27a
  have S_NOT_FOUND : Sta s s.heap "com/example/packframe/packframe/onebyte/Status" "NOT_FOUND" "Lcom/example/packframe/packframe/onebyte/Status;" (.ref w_NOT_FOUND) := Sta.start ev_NOT_FOUND (Or.inr ⟨(hw _ (List.mem_of_getElem? (i := 2) rfl)), (hw _ (List.mem_of_getElem? (i := 21) rfl))⟩)
  have E_NOT_FOUND : Exa s s.heap w_NOT_FOUND "com/example/packframe/packframe/onebyte/Status" := Exa.start ev_NOT_FOUND u27a
  obtain ⟨w_REQUEST_TIMEOUT, ev_REQUEST_TIMEOUT⟩ := exa_v u30a
  have S_REQUEST_TIMEOUT : Sta s s.heap "com/example/packframe/packframe/onebyte/Status" "REQUEST_TIMEOUT" "Lcom/example/packframe/packframe/onebyte/Status;" (.ref w_REQUEST_TIMEOUT) := Sta.start ev_REQUEST_TIMEOUT (Or.inr ⟨(hw _ (List.mem_of_getElem? (i := 2) rfl)), (hw _ (List.mem_of_getElem? (i := 22) rfl))⟩)
  have E_REQUEST_TIMEOUT : Exa s s.heap w_REQUEST_TIMEOUT "com/example/packframe/packframe/onebyte/Status" := Exa.start ev_REQUEST_TIMEOUT u30a
  obtain ⟨w_REQUEST_ENTITY_TOO_LARGE, ev_REQUEST_ENTITY_TOO_LARGE⟩ := exa_v u33a
  have S_REQUEST_ENTITY_TOO_LARGE : Sta s s.heap "com/example/packframe/packframe/onebyte/Status" "REQUEST_ENTITY_TOO_LARGE" "Lcom/example/packframe/packframe/onebyte/Status;" (.ref w_REQUEST_ENTITY_TOO_LARGE) := Sta.start ev_REQUEST_ENTITY_TOO_LARGE (Or.inr ⟨(hw _ (List.mem_of_getElem? (i := 2) rfl)), (hw _ (List.mem_of_getElem? (i := 23) rfl))⟩)
  have E_REQUEST_ENTITY_TOO_LARGE : Exa s s.heap w_REQUEST_ENTITY_TOO_LARGE "com/example/packframe/packframe/onebyte/Status" := Exa.start ev_REQUEST_ENTITY_TOO_LARGE u33a
  obtain ⟨w_TOO_MANY_REQUESTS, ev_TOO_MANY_REQUESTS⟩ := exa_v u36a
  have S_TOO_MANY_REQUESTS : Sta s s.heap "com/example/packframe/packframe/onebyte/Status" "TOO_MANY_REQUESTS" "Lcom/example/packframe/packframe/onebyte/Status;" (.ref w_TOO_MANY_REQUESTS) := Sta.start ev_TOO_MANY_REQUESTS (Or.inr ⟨(hw _ (List.mem_of_getElem? (i := 2) rfl)), (hw _ (List.mem_of_getElem? (i := 24) rfl))⟩)
  have E_TOO_MANY_REQUESTS : Exa s s.heap w_TOO_MANY_REQUESTS "com/example/packframe/packframe/onebyte/Status" := Exa.start ev_TOO_MANY_REQUESTS u36a
  obtain ⟨w_INTERNAL_SERVER_ERROR, ev_INTERNAL_SERVER_ERROR⟩ := exa_v u39a
  have S_INTERNAL_SERVER_ERROR : Sta s s.heap "com/example/packframe/packframe/onebyte/Status" "INTERNAL_SERVER_ERROR" "Lcom/example/packframe/packframe/onebyte/Status;" (.ref w_INTERNAL_SERVER_ERROR) := Sta.start ev_INTERNAL_SERVER_ERROR (Or.inr ⟨(hw _ (List.mem_of_getElem? (i := 2) rfl)), (hw _ (List.mem_of_getElem? (i := 25) rfl))⟩)
  have E_INTERNAL_SERVER_ERROR : Exa s s.heap w_INTERNAL_SERVER_ERROR "com/example/packframe/packframe/onebyte/Status" := Exa.start ev_INTERNAL_SERVER_ERROR u39a
  obtain ⟨w_NOT_IMPLEMENTED, ev_NOT_IMPLEMENTED⟩ := exa_v u42a
  have S_NOT_IMPLEMENTED : Sta s s.heap "com/example/packframe/packframe/onebyte/Status" "NOT_IMPLEMENTED" "Lcom/example/packframe/packframe/onebyte/Status;" (.ref w_NOT_IMPLEMENTED) := Sta.start ev_NOT_IMPLEMENTED (Or.inr ⟨(hw _ (List.mem_of_getElem? (i := 2) rfl)), (hw _ (List.mem_of_getElem? (i := 26) rfl))⟩)
  have E_NOT_IMPLEMENTED : Exa s s.heap w_NOT_IMPLEMENTED "com/example/packframe/packframe/onebyte/Status" := Exa.start ev_NOT_IMPLEMENTED u42a
  obtain ⟨w_BAD_GATEWAY, ev_BAD_GATEWAY⟩ := exa_v u45a
  have S_BAD_GATEWAY : Sta s s.heap "com/example/packframe/packframe/onebyte/Status" "BAD_GATEWAY" "Lcom/example/packframe/packframe/onebyte/Status;" (.ref w_BAD_GATEWAY) := Sta.start ev_BAD_GATEWAY (Or.inr ⟨(hw _ (List.mem_of_getElem? (i := 2) rfl)), (hw _ (List.mem_of_getElem? (i := 27) rfl))⟩)
  have E_BAD_GATEWAY : Exa s s.heap w_BAD_GATEWAY "com/example/packframe/packframe/onebyte/Status" := Exa.start ev_BAD_GATEWAY u45a
  obtain ⟨w_SERVICE_UNAVAILABLE, ev_SERVICE_UNAVAILABLE⟩ := exa_v u48a
  have S_SERVICE_UNAVAILABLE : Sta s s.heap "com/example/packframe/packframe/onebyte/Status" "SERVICE_UNAVAILABLE" "Lcom/example/packframe/packframe/onebyte/Status;" (.ref w_SERVICE_UNAVAILABLE) := Sta.start ev_SERVICE_UNAVAILABLE (Or.inr ⟨(hw _ (List.mem_of_getElem? (i := 2) rfl)), (hw _ (List.mem_of_getElem? (i := 28) rfl))⟩)
  have E_SERVICE_UNAVAILABLE : Exa s s.heap w_SERVICE_UNAVAILABLE "com/example/packframe/packframe/onebyte/Status" := Exa.start ev_SERVICE_UNAVAILABLE u48a
  obtain ⟨w_GATEWAY_TIMEOUT, ev_GATEWAY_TIMEOUT⟩ := exa_v u51a
  have S_GATEWAY_TIMEOUT : Sta s s.heap "com/example/packframe/packframe/onebyte/Status" "GATEWAY_TIMEOUT" "Lcom/example/packframe/packframe/onebyte/Status;" (.ref w_GATEWAY_TIMEOUT) := Sta.start ev_GATEWAY_TIMEOUT (Or.inr ⟨(hw _ (List.mem_of_getElem? (i := 2) rfl)), (hw _ (List.mem_of_getElem? (i := 29) rfl))⟩)
  have E_GATEWAY_TIMEOUT : Exa s s.heap w_GATEWAY_TIMEOUT "com/example/packframe/packframe/onebyte/Status" := Exa.start ev_GATEWAY_TIMEOUT u51a
  obtain ⟨w_VERSION_NOT_SUPPORTED, ev_VERSION_NOT_SUPPORTED⟩ := exa_v u54a
  have S_VERSION_NOT_SUPPORTED : Sta s s.heap "com/example/packframe/packframe/onebyte/Status" "VERSION_NOT_SUPPORTED" "Lcom/example/packframe/packframe/onebyte/Status;" (.ref w_VERSION_NOT_SUPPORTED) := Sta.start ev_VERSION_NOT_SUPPORTED (Or.inr ⟨(hw _ (List.mem_of_getElem? (i := 2) rfl)), (hw _ (List.mem_of_getElem? (i := 30) rfl))⟩)
  have E_VERSION_NOT_SUPPORTED : Exa s s.heap w_VERSION_NOT_SUPPORTED "com/example/packframe/packframe/onebyte/Status" := Exa.start ev_VERSION_NOT_SUPPORTED u54a
  have F_code_OK : Fld s s.heap w_OK "com/example/packframe/packframe/onebyte/Status" "code" "I" (.int (0 : Int32)) := own_fld u5a ev_OK
  have F_code_MOVED_PERMANENTLY : Fld s s.heap w_MOVED_PERMANENTLY "com/example/packframe/packframe/onebyte/Status" "code" "I" (.int (16 : Int32)) := own_fld u8a ev_MOVED_PERMANENTLY
  have F_code_FOUND : Fld s s.heap w_FOUND "com/example/packframe/packframe/onebyte/Status" "code" "I" (.int (17 : Int32)) := own_fld u11a ev_FOUND
  have F_code_NOT_MODIFIED : Fld s s.heap w_NOT_MODIFIED "com/example/packframe/packframe/onebyte/Status" "code" "I" (.int (18 : Int32)) := own_fld u14a ev_NOT_MODIFIED
  have F_code_BAD_REQUEST : Fld s s.heap w_BAD_REQUEST "com/example/packframe/packframe/onebyte/Status" "code" "I" (.int (32 : Int32)) := own_fld u17a ev_BAD_REQUEST
  have F_code_UNAUTHORIZED : Fld s s.heap w_UNAUTHORIZED "com/example/packframe/packframe/onebyte/Status" "code" "I" (.int (33 : Int32)) := own_fld u20a ev_UNAUTHORIZED
  have F_code_PAYMENT_REQUIRED : Fld s s.heap w_PAYMENT_REQUIRED "com/example/packframe/packframe/onebyte/Status" "code" "I" (.int (34 : Int32)) := own_fld u23a ev_PAYMENT_REQUIRED
  have F_code_FORBIDDEN : Fld s s.heap w_FORBIDDEN "com/example/packframe/packframe/onebyte/Status" "code" "I" (.int (35 : Int32)) := own_fld u26a ev_FORBIDDEN
  have F_code_NOT_FOUND : Fld s s.heap w_NOT_FOUND "com/example/packframe/packframe/onebyte/Status" "code" "I" (.int (36 : Int32)) := own_fld u29a ev_NOT_FOUND
  have F_code_REQUEST_TIMEOUT : Fld s s.heap w_REQUEST_TIMEOUT "com/example/packframe/packframe/onebyte/Status" "code" "I" (.int (37 : Int32)) := own_fld u32a ev_REQUEST_TIMEOUT
  have F_code_REQUEST_ENTITY_TOO_LARGE : Fld s s.heap w_REQUEST_ENTITY_TOO_LARGE "com/example/packframe/packframe/onebyte/Status" "code" "I" (.int (38 : Int32)) := own_fld u35a ev_REQUEST_ENTITY_TOO_LARGE
  have F_code_TOO_MANY_REQUESTS : Fld s s.heap w_TOO_MANY_REQUESTS "com/example/packframe/packframe/onebyte/Status" "code" "I" (.int (39 : Int32)) := own_fld u38a ev_TOO_MANY_REQUESTS
  have F_code_INTERNAL_SERVER_ERROR : Fld s s.heap w_INTERNAL_SERVER_ERROR "com/example/packframe/packframe/onebyte/Status" "code" "I" (.int (48 : Int32)) := own_fld u41a ev_INTERNAL_SERVER_ERROR
  have F_code_NOT_IMPLEMENTED : Fld s s.heap w_NOT_IMPLEMENTED "com/example/packframe/packframe/onebyte/Status" "code" "I" (.int (49 : Int32)) := own_fld u44a ev_NOT_IMPLEMENTED
  have F_code_BAD_GATEWAY : Fld s s.heap w_BAD_GATEWAY "com/example/packframe/packframe/onebyte/Status" "code" "I" (.int (50 : Int32)) := own_fld u47a ev_BAD_GATEWAY
  have F_code_SERVICE_UNAVAILABLE : Fld s s.heap w_SERVICE_UNAVAILABLE "com/example/packframe/packframe/onebyte/Status" "code" "I" (.int (51 : Int32)) := own_fld u50a ev_SERVICE_UNAVAILABLE
  have F_code_GATEWAY_TIMEOUT : Fld s s.heap w_GATEWAY_TIMEOUT "com/example/packframe/packframe/onebyte/Status" "code" "I" (.int (52 : Int32)) := own_fld u53a ev_GATEWAY_TIMEOUT
  have F_code_VERSION_NOT_SUPPORTED : Fld s s.heap w_VERSION_NOT_SUPPORTED "com/example/packframe/packframe/onebyte/Status" "code" "I" (.int (53 : Int32)) := own_fld u55b ev_VERSION_NOT_SUPPORTED
  obtain ⟨w_STATUSES, ev_STATUSES⟩ := arr_v u1a
  have S_STATUSES : Sta s s.heap "com/example/packframe/packframe/onebyte/Status" "STATUSES" "[Lcom/example/packframe/packframe/onebyte/Status;" (.ref w_STATUSES) := Sta.start ev_STATUSES (Or.inr ⟨(hw _ (List.mem_of_getElem? (i := 2) rfl)), (hw _ (List.mem_of_getElem? (i := 5) rfl))⟩)
  obtain ⟨cl_STATUSES, Ar_STATUSES⟩ := Arr.start ev_STATUSES u1a
  obtain ⟨hl_STATUSES, hk_STATUSES⟩ := own_len u2a ev_STATUSES (Arr.fin (Vm.Alike.refl _) Ar_STATUSES)
  have V_STATUSES : ∃ k, Arv s s.heap w_STATUSES k (.object "com/example/packframe/packframe/onebyte/Status") (18 : Int32) [(.ref w_OK), (.ref w_MOVED_PERMANENTLY), (.ref w_FOUND), (.ref w_NOT_MODIFIED), (.ref w_BAD_REQUEST), (.ref w_UNAUTHORIZED), (.ref w_PAYMENT_REQUIRED), (.ref w_FORBIDDEN), (.ref w_NOT_FOUND), (.ref w_REQUEST_TIMEOUT), (.ref w_REQUEST_ENTITY_TOO_LARGE), (.ref w_TOO_MANY_REQUESTS), (.ref w_INTERNAL_SERVER_ERROR), (.ref w_NOT_IMPLEMENTED), (.ref w_BAD_GATEWAY), (.ref w_SERVICE_UNAVAILABLE), (.ref w_GATEWAY_TIMEOUT), (.ref w_VERSION_NOT_SUPPORTED)] .null := ⟨_, Arv.start hfit Ar_STATUSES hl_STATUSES hk_STATUSES (by decide) rfl ⟨(own_elem u4a ev_STATUSES ev_OK Ar_STATUSES.1), (own_elem u7a ev_STATUSES ev_MOVED_PERMANENTLY Ar_STATUSES.1), (own_elem u10a ev_STATUSES ev_FOUND Ar_STATUSES.1), (own_elem u13a ev_STATUSES ev_NOT_MODIFIED Ar_STATUSES.1), (own_elem u16a ev_STATUSES ev_BAD_REQUEST Ar_STATUSES.1), (own_elem u19a ev_STATUSES ev_UNAUTHORIZED Ar_STATUSES.1), (own_elem u22a ev_STATUSES ev_PAYMENT_REQUIRED Ar_STATUSES.1), (own_elem u25a ev_STATUSES ev_FORBIDDEN Ar_STATUSES.1), (own_elem u28a ev_STATUSES ev_NOT_FOUND Ar_STATUSES.1), (own_elem u31a ev_STATUSES ev_REQUEST_TIMEOUT Ar_STATUSES.1), (own_elem u34a ev_STATUSES ev_REQUEST_ENTITY_TOO_LARGE Ar_STATUSES.1), (own_elem u37a ev_STATUSES ev_TOO_MANY_REQUESTS Ar_STATUSES.1), (own_elem u40a ev_STATUSES ev_INTERNAL_SERVER_ERROR Ar_STATUSES.1), (own_elem u43a ev_STATUSES ev_NOT_IMPLEMENTED Ar_STATUSES.1), (own_elem u46a ev_STATUSES ev_BAD_GATEWAY Ar_STATUSES.1), (own_elem u49a ev_STATUSES ev_SERVICE_UNAVAILABLE Ar_STATUSES.1), (own_elem u52a ev_STATUSES ev_GATEWAY_TIMEOUT Ar_STATUSES.1), (own_elem u55a ev_STATUSES ev_VERSION_NOT_SUPPORTED Ar_STATUSES.1), trivial⟩⟩
  obtain ⟨n, o, h1, h2, h3, _, L, rfl, ⟨rfl, N⟩, hq⟩ := rm0 l s _ hw tables_1 i0 i1 w_OK w_MOVED_PERMANENTLY w_FOUND w_NOT_MODIFIED w_BAD_REQUEST w_UNAUTHORIZED w_PAYMENT_REQUIRED w_FORBIDDEN w_NOT_FOUND w_REQUEST_TIMEOUT w_REQUEST_ENTITY_TOO_LARGE w_TOO_MANY_REQUESTS w_INTERNAL_SERVER_ERROR w_NOT_IMPLEMENTED w_BAD_GATEWAY w_SERVICE_UNAVAILABLE w_GATEWAY_TIMEOUT w_VERSION_NOT_SUPPORTED w_STATUSES s.heap s.heap.size (Nat.le_refl _) S_OK E_OK F_code_OK S_MOVED_PERMANENTLY E_MOVED_PERMANENTLY F_code_MOVED_PERMANENTLY S_FOUND E_FOUND F_code_FOUND S_NOT_MODIFIED E_NOT_MODIFIED F_code_NOT_MODIFIED S_BAD_REQUEST E_BAD_REQUEST F_code_BAD_REQUEST S_UNAUTHORIZED E_UNAUTHORIZED F_code_UNAUTHORIZED S_PAYMENT_REQUIRED E_PAYMENT_REQUIRED F_code_PAYMENT_REQUIRED S_FORBIDDEN E_FORBIDDEN F_code_FORBIDDEN S_NOT_FOUND E_NOT_FOUND F_code_NOT_FOUND S_REQUEST_TIMEOUT E_REQUEST_TIMEOUT F_code_REQUEST_TIMEOUT S_REQUEST_ENTITY_TOO_LARGE E_REQUEST_ENTITY_TOO_LARGE F_code_REQUEST_ENTITY_TOO_LARGE S_TOO_MANY_REQUESTS E_TOO_MANY_REQUESTS F_code_TOO_MANY_REQUESTS S_INTERNAL_SERVER_ERROR E_INTERNAL_SERVER_ERROR F_code_INTERNAL_SERVER_ERROR S_NOT_IMPLEMENTED E_NOT_IMPLEMENTED F_code_NOT_IMPLEMENTED S_BAD_GATEWAY E_BAD_GATEWAY F_code_BAD_GATEWAY S_SERVICE_UNAVAILABLE E_SERVICE_UNAVAILABLE F_code_SERVICE_UNAVAILABLE S_GATEWAY_TIMEOUT E_GATEWAY_TIMEOUT F_code_GATEWAY_TIMEOUT S_VERSION_NOT_SUPPORTED E_VERSION_NOT_SUPPORTED F_code_VERSION_NOT_SUPPORTED S_STATUSES V_STATUSES p e ha hc hk s m _ below hf ((Spec.applies_iff_loose hf).mp happ).1 ⟨rfl, State.Warmed39.refl s, rfl⟩ trivial
  refine ⟨n, _, h1, h2, h3, hpost _ _ _ _ _ _ ⟨Cond.after_iff.mpr rfl, Cond.after_iff.mpr (eq_i res_at (Term.int_eval (1)) rfl), trivial⟩ ⟨hq.1, hq.2.1, (hq.2.2.sift fun y hy => Or.inr (N y hy)).mono (by decide) (by decide)⟩⟩
theorem main_1_1 : Claimed_1_1 := comes_1 fun _ _ _ _ _ _ h hF => ⟨h.1, hF⟩
theorem main_1_2 : Claimed_1_2 := comes_1 fun _ _ _ _ _ _ h hF => ⟨h.2.1, hF⟩
end Jvm.Pilot.@@N@@
namespace Jvm.Pilot.@@N@@
open Jvm Jvm.ClassFile Sem Op Lib Jvm.Free Jvm.Stand Jvm.Pilot.@@N@@.Jvm.D
/-! MADE BY PROGRAM (witnessworld.py) out of the Statement's table words and the real class files: 13 classes; the members and pool entries that the words name. The judged class is class 1, her method 1. -/
namespace start1
open Jvm.ClassFile
def u (s : String) : CpInfo := .utf8 (stringToUtf16 s)
/-- a pool by its gaps: so many unusable entries, then the entry; so many at the end -/
def gap : Nat → List CpInfo → List CpInfo
  | 0, r => r
  | n + 1, r => .unusable :: gap n r
def poolList (es : List (Nat × CpInfo)) (last : Nat) : List CpInfo := es.foldr (fun e r => gap e.1 (e.2 :: r)) (gap last [])
def pool (es : List (Nat × CpInfo)) (last : Nat) : Array CpInfo := ⟨poolList es last⟩
def fileOf (pool : Array CpInfo) (this : Nat) (attrs : Array Attribute := #[]) (ms : Array MethodInfo := #[]) (fl : Nat := 33) (sup : Nat := 0) (ifs : Array Nat := #[]) (fds : Array FieldInfo := #[]) : ClassFile where
  minorVersion := 0
  majorVersion := 65
  constantPool := pool
  accessFlags := fl
  thisClass := this
  superClass := sup
  interfaces := ifs
  fields := fds
  methods := ms
  attributes := attrs
def plain (name : String) (sup : Option ClassId) : Class where
  name := name
  kind := .ordinary
  loader := none
  accessFlags := 33
  super := sup
  interfaces := #[]
  cf := none
  fields := #[]
  methods := #[]
  instanceTypes := #[]
  staticTypes := #[]
  resolved := #[]
  callSites := []
  init := .initialized
  statics := none
  mirror := none

def pool0 : Array CpInfo := pool [(5, u "<init>"), (0, u "()V"), (1, .class_ 10), (1, u "java/lang/Object")] 113

def k0m0 : Method := { name := "<init>", desc := "()V", sig := { parameters := [], returnType := none }, accessFlags := 1, code := none }
/-- java/lang/Object -/
def k0 : Class := { plain "java/lang/Object" none with
  accessFlags := 33
  interfaces := #[]
  cf := some (fileOf pool0 8 #[] #[{ accessFlags := 1, nameIndex := 5, descriptorIndex := 6, attributes := #[] }] 33 0 #[] #[])
  fields := #[]
  methods := #[k0m0]
  instanceTypes := #[]
  staticTypes := #[]
  resolved := Array.replicate 124 none
  statics := none }

def pool1 : Array CpInfo := pool [(2, .class_ 4), (1, u "java/lang/Object"), (0, u "<init>"), (0, u "()V"), (0, .methodref 8 9), (0, .class_ 10), (0, .nameAndType 11 12), (0, u "com/example/packframe/packframe/onebyte/Status"), (0, u "ofCode"), (0, u "(I)Lcom/example/packframe/packframe/onebyte/Status;"), (0, .methodref 14 15), (0, .class_ 16), (0, .nameAndType 17 12), (0, u "com/example/packframe/packframe/onebyte/StatusOfCodePinLaw"), (0, u "expected"), (0, .fieldref 8 19), (0, .nameAndType 20 21), (0, u "OK"), (0, u "Lcom/example/packframe/packframe/onebyte/Status;"), (0, .fieldref 8 23), (0, .nameAndType 24 21), (0, u "MOVED_PERMANENTLY"), (0, .fieldref 8 26), (0, .nameAndType 27 21), (0, u "FOUND"), (0, .fieldref 8 29), (0, .nameAndType 30 21), (0, u "NOT_MODIFIED"), (0, .fieldref 8 32), (0, .nameAndType 33 21), (0, u "BAD_REQUEST"), (0, .fieldref 8 35), (0, .nameAndType 36 21), (0, u "UNAUTHORIZED"), (0, .fieldref 8 38), (0, .nameAndType 39 21), (0, u "PAYMENT_REQUIRED"), (0, .fieldref 8 41), (0, .nameAndType 42 21), (0, u "FORBIDDEN"), (0, .fieldref 8 44), (0, .nameAndType 45 21), (0, u "NOT_FOUND"), (0, .fieldref 8 47), (0, .nameAndType 48 21), (0, u "REQUEST_TIMEOUT"), (0, .fieldref 8 50), (0, .nameAndType 51 21), (0, u "REQUEST_ENTITY_TOO_LARGE"), (0, .fieldref 8 53), (0, .nameAndType 54 21), (0, u "TOO_MANY_REQUESTS"), (0, .fieldref 8 56), (0, .nameAndType 57 21), (0, u "INTERNAL_SERVER_ERROR"), (0, .fieldref 8 59), (0, .nameAndType 60 21), (0, u "NOT_IMPLEMENTED"), (0, .fieldref 8 62), (0, .nameAndType 63 21), (0, u "BAD_GATEWAY"), (0, .fieldref 8 65), (0, .nameAndType 66 21), (0, u "SERVICE_UNAVAILABLE"), (0, .fieldref 8 68), (0, .nameAndType 69 21), (0, u "GATEWAY_TIMEOUT"), (0, .fieldref 8 71), (0, .nameAndType 72 21), (0, u "VERSION_NOT_SUPPORTED"), (2, u "law"), (0, u "(II)Z")] 3

def k1m0 : Method := { name := "<init>", desc := "()V", sig := { parameters := [], returnType := none }, accessFlags := 1, code := none }
def k1c1 : Code := { maxStack := 2, maxLocals := 5, code := code, exceptionTable := #[], attributes := #[] }
def k1m1 : Method := { name := "law", desc := "(II)Z", sig := { parameters := [.int, .int], returnType := some .boolean }, accessFlags := 9, code := some k1c1 }
def k1c2 : Code := { maxStack := 2, maxLocals := 1, code := method_3_code, exceptionTable := #[], attributes := #[] }
def k1m2 : Method := { name := "expected", desc := "(I)Lcom/example/packframe/packframe/onebyte/Status;", sig := { parameters := [.int], returnType := some (.object "com/example/packframe/packframe/onebyte/Status") }, accessFlags := 10, code := some k1c2 }
/-- com/example/packframe/packframe/onebyte/StatusOfCodePinLaw -/
def k1 : Class := { plain "com/example/packframe/packframe/onebyte/StatusOfCodePinLaw" (some 0) with
  accessFlags := 49
  interfaces := #[]
  cf := some (fileOf pool1 14 #[] #[{ accessFlags := 1, nameIndex := 5, descriptorIndex := 6, attributes := #[] }, { accessFlags := 9, nameIndex := 75, descriptorIndex := 76, attributes := #[] }, { accessFlags := 10, nameIndex := 17, descriptorIndex := 12, attributes := #[] }] 49 2 #[] #[])
  fields := #[]
  methods := #[k1m0, k1m1, k1m2]
  instanceTypes := #[]
  staticTypes := #[]
  resolved := Array.replicate 80 none
  statics := none }

def pool2 : Array CpInfo := pool [(1, .class_ 2), (0, u "java/lang/constant/Constable"), (0, .class_ 4), (0, u "java/lang/Object")] 6

/-- java/lang/constant/Constable -/
def k2 : Class := { plain "java/lang/constant/Constable" (some 0) with
  accessFlags := 1537
  interfaces := #[]
  cf := some (fileOf pool2 1 #[] #[] 1537 3 #[] #[])
  fields := #[]
  methods := #[]
  instanceTypes := #[]
  staticTypes := #[]
  resolved := Array.replicate 11 none
  statics := none }

def pool3 : Array CpInfo := pool [(1, .class_ 2), (0, u "java/lang/Comparable"), (0, .class_ 4), (0, u "java/lang/Object")] 7

/-- java/lang/Comparable -/
def k3 : Class := { plain "java/lang/Comparable" (some 0) with
  accessFlags := 1537
  interfaces := #[]
  cf := some (fileOf pool3 1 #[] #[] 1537 3 #[] #[])
  fields := #[]
  methods := #[]
  instanceTypes := #[]
  staticTypes := #[]
  resolved := Array.replicate 12 none
  statics := none }

def pool4 : Array CpInfo := pool [(1, .class_ 2), (0, u "java/io/Serializable"), (0, .class_ 4), (0, u "java/lang/Object")] 2

/-- java/io/Serializable -/
def k4 : Class := { plain "java/io/Serializable" (some 0) with
  accessFlags := 1537
  interfaces := #[]
  cf := some (fileOf pool4 1 #[] #[] 1537 3 #[] #[])
  fields := #[]
  methods := #[]
  instanceTypes := #[]
  staticTypes := #[]
  resolved := Array.replicate 7 none
  statics := none }

def pool5 : Array CpInfo := pool [(2, .class_ 4), (1, u "java/lang/Enum"), (0, u "name"), (0, u "Ljava/lang/String;"), (2, u "ordinal"), (0, u "I"), (1, .class_ 14), (1, u "java/lang/Object"), (4, u "hash"), (86, .class_ 108), (1, u "java/lang/Enum$EnumDesc"), (2, .class_ 112), (0, u "java/lang/constant/Constable"), (0, .class_ 114), (0, u "java/lang/Comparable"), (0, .class_ 116), (0, u "java/io/Serializable")] 87

/-- java/lang/Enum -/
def k5 : Class := { plain "java/lang/Enum" (some 0) with
  accessFlags := 1057
  interfaces := #[2, 3, 4]
  cf := some (fileOf pool5 2 #[.nestMembers #[106]] #[] 1057 12 #[111, 113, 115] #[{ accessFlags := 18, nameIndex := 5, descriptorIndex := 6, attributes := #[] }, { accessFlags := 18, nameIndex := 9, descriptorIndex := 10, attributes := #[] }, { accessFlags := 2, nameIndex := 19, descriptorIndex := 10, attributes := #[] }])
  fields := #[{ name := "name", type := (.object "java/lang/String"), accessFlags := 18, slot := 0, constantValue := 0 }, { name := "ordinal", type := .int, accessFlags := 18, slot := 1, constantValue := 0 }, { name := "hash", type := .int, accessFlags := 2, slot := 2, constantValue := 0 }]
  methods := #[]
  instanceTypes := #[(.object "java/lang/String"), .int, .int]
  staticTypes := #[]
  resolved := Array.replicate 204 none
  statics := none }

def pool6 : Array CpInfo := pool [(1, .class_ 2), (0, u "com/example/packframe/packframe/onebyte/Status"), (2, u "OK"), (0, u "Lcom/example/packframe/packframe/onebyte/Status;"), (2, u "MOVED_PERMANENTLY"), (2, u "FOUND"), (2, u "NOT_MODIFIED"), (2, u "BAD_REQUEST"), (2, u "UNAUTHORIZED"), (2, u "PAYMENT_REQUIRED"), (2, u "FORBIDDEN"), (2, u "NOT_FOUND"), (2, u "REQUEST_TIMEOUT"), (2, u "REQUEST_ENTITY_TOO_LARGE"), (2, u "TOO_MANY_REQUESTS"), (2, u "INTERNAL_SERVER_ERROR"), (2, u "NOT_IMPLEMENTED"), (2, u "BAD_GATEWAY"), (2, u "SERVICE_UNAVAILABLE"), (2, u "GATEWAY_TIMEOUT"), (2, u "VERSION_NOT_SUPPORTED"), (2, u "$VALUES"), (0, u "[Lcom/example/packframe/packframe/onebyte/Status;"), (6, .class_ 70), (1, u "java/lang/Enum"), (6, .fieldref 1 78), (0, .nameAndType 79 80), (0, u "code"), (0, u "I"), (2, u "title"), (0, u "Ljava/lang/String;"), (0, .fieldref 1 86), (0, .nameAndType 87 61), (0, u "STATUSES"), (72, u "ofCode"), (0, u "(I)Lcom/example/packframe/packframe/onebyte/Status;")] 6

def k6c0 : Code := { maxStack := 2, maxLocals := 5, code := prog_24_method_6_code, exceptionTable := #[], attributes := #[] }
def k6m0 : Method := { name := "ofCode", desc := "(I)Lcom/example/packframe/packframe/onebyte/Status;", sig := { parameters := [.int], returnType := some (.object "com/example/packframe/packframe/onebyte/Status") }, accessFlags := 9, code := some k6c0 }
/-- com/example/packframe/packframe/onebyte/Status -/
def k6 : Class := { plain "com/example/packframe/packframe/onebyte/Status" (some 5) with
  accessFlags := 16433
  interfaces := #[]
  cf := some (fileOf pool6 1 #[] #[{ accessFlags := 9, nameIndex := 160, descriptorIndex := 161, attributes := #[] }] 16433 68 #[] #[{ accessFlags := 16409, nameIndex := 5, descriptorIndex := 6, attributes := #[] }, { accessFlags := 16409, nameIndex := 9, descriptorIndex := 6, attributes := #[] }, { accessFlags := 16409, nameIndex := 12, descriptorIndex := 6, attributes := #[] }, { accessFlags := 16409, nameIndex := 15, descriptorIndex := 6, attributes := #[] }, { accessFlags := 16409, nameIndex := 18, descriptorIndex := 6, attributes := #[] }, { accessFlags := 16409, nameIndex := 21, descriptorIndex := 6, attributes := #[] }, { accessFlags := 16409, nameIndex := 24, descriptorIndex := 6, attributes := #[] }, { accessFlags := 16409, nameIndex := 27, descriptorIndex := 6, attributes := #[] }, { accessFlags := 16409, nameIndex := 30, descriptorIndex := 6, attributes := #[] }, { accessFlags := 16409, nameIndex := 33, descriptorIndex := 6, attributes := #[] }, { accessFlags := 16409, nameIndex := 36, descriptorIndex := 6, attributes := #[] }, { accessFlags := 16409, nameIndex := 39, descriptorIndex := 6, attributes := #[] }, { accessFlags := 16409, nameIndex := 42, descriptorIndex := 6, attributes := #[] }, { accessFlags := 16409, nameIndex := 45, descriptorIndex := 6, attributes := #[] }, { accessFlags := 16409, nameIndex := 48, descriptorIndex := 6, attributes := #[] }, { accessFlags := 16409, nameIndex := 51, descriptorIndex := 6, attributes := #[] }, { accessFlags := 16409, nameIndex := 54, descriptorIndex := 6, attributes := #[] }, { accessFlags := 16409, nameIndex := 57, descriptorIndex := 6, attributes := #[] }, { accessFlags := 26, nameIndex := 87, descriptorIndex := 61, attributes := #[] }, { accessFlags := 18, nameIndex := 79, descriptorIndex := 80, attributes := #[] }, { accessFlags := 18, nameIndex := 83, descriptorIndex := 84, attributes := #[] }, { accessFlags := 4122, nameIndex := 60, descriptorIndex := 61, attributes := #[] }])
  fields := #[{ name := "OK", type := (.object "com/example/packframe/packframe/onebyte/Status"), accessFlags := 16409, slot := 0, constantValue := 0 }, { name := "MOVED_PERMANENTLY", type := (.object "com/example/packframe/packframe/onebyte/Status"), accessFlags := 16409, slot := 1, constantValue := 0 }, { name := "FOUND", type := (.object "com/example/packframe/packframe/onebyte/Status"), accessFlags := 16409, slot := 2, constantValue := 0 }, { name := "NOT_MODIFIED", type := (.object "com/example/packframe/packframe/onebyte/Status"), accessFlags := 16409, slot := 3, constantValue := 0 }, { name := "BAD_REQUEST", type := (.object "com/example/packframe/packframe/onebyte/Status"), accessFlags := 16409, slot := 4, constantValue := 0 }, { name := "UNAUTHORIZED", type := (.object "com/example/packframe/packframe/onebyte/Status"), accessFlags := 16409, slot := 5, constantValue := 0 }, { name := "PAYMENT_REQUIRED", type := (.object "com/example/packframe/packframe/onebyte/Status"), accessFlags := 16409, slot := 6, constantValue := 0 }, { name := "FORBIDDEN", type := (.object "com/example/packframe/packframe/onebyte/Status"), accessFlags := 16409, slot := 7, constantValue := 0 }, { name := "NOT_FOUND", type := (.object "com/example/packframe/packframe/onebyte/Status"), accessFlags := 16409, slot := 8, constantValue := 0 }, { name := "REQUEST_TIMEOUT", type := (.object "com/example/packframe/packframe/onebyte/Status"), accessFlags := 16409, slot := 9, constantValue := 0 }, { name := "REQUEST_ENTITY_TOO_LARGE", type := (.object "com/example/packframe/packframe/onebyte/Status"), accessFlags := 16409, slot := 10, constantValue := 0 }, { name := "TOO_MANY_REQUESTS", type := (.object "com/example/packframe/packframe/onebyte/Status"), accessFlags := 16409, slot := 11, constantValue := 0 }, { name := "INTERNAL_SERVER_ERROR", type := (.object "com/example/packframe/packframe/onebyte/Status"), accessFlags := 16409, slot := 12, constantValue := 0 }, { name := "NOT_IMPLEMENTED", type := (.object "com/example/packframe/packframe/onebyte/Status"), accessFlags := 16409, slot := 13, constantValue := 0 }, { name := "BAD_GATEWAY", type := (.object "com/example/packframe/packframe/onebyte/Status"), accessFlags := 16409, slot := 14, constantValue := 0 }, { name := "SERVICE_UNAVAILABLE", type := (.object "com/example/packframe/packframe/onebyte/Status"), accessFlags := 16409, slot := 15, constantValue := 0 }, { name := "GATEWAY_TIMEOUT", type := (.object "com/example/packframe/packframe/onebyte/Status"), accessFlags := 16409, slot := 16, constantValue := 0 }, { name := "VERSION_NOT_SUPPORTED", type := (.object "com/example/packframe/packframe/onebyte/Status"), accessFlags := 16409, slot := 17, constantValue := 0 }, { name := "STATUSES", type := (.array (.object "com/example/packframe/packframe/onebyte/Status")), accessFlags := 26, slot := 18, constantValue := 0 }, { name := "code", type := .int, accessFlags := 18, slot := 3, constantValue := 0 }, { name := "title", type := (.object "java/lang/String"), accessFlags := 18, slot := 4, constantValue := 0 }, { name := "$VALUES", type := (.array (.object "com/example/packframe/packframe/onebyte/Status")), accessFlags := 4122, slot := 19, constantValue := 0 }]
  methods := #[k6m0]
  instanceTypes := #[(.object "java/lang/String"), .int, .int, .int, (.object "java/lang/String")]
  staticTypes := #[(.object "com/example/packframe/packframe/onebyte/Status"), (.object "com/example/packframe/packframe/onebyte/Status"), (.object "com/example/packframe/packframe/onebyte/Status"), (.object "com/example/packframe/packframe/onebyte/Status"), (.object "com/example/packframe/packframe/onebyte/Status"), (.object "com/example/packframe/packframe/onebyte/Status"), (.object "com/example/packframe/packframe/onebyte/Status"), (.object "com/example/packframe/packframe/onebyte/Status"), (.object "com/example/packframe/packframe/onebyte/Status"), (.object "com/example/packframe/packframe/onebyte/Status"), (.object "com/example/packframe/packframe/onebyte/Status"), (.object "com/example/packframe/packframe/onebyte/Status"), (.object "com/example/packframe/packframe/onebyte/Status"), (.object "com/example/packframe/packframe/onebyte/Status"), (.object "com/example/packframe/packframe/onebyte/Status"), (.object "com/example/packframe/packframe/onebyte/Status"), (.object "com/example/packframe/packframe/onebyte/Status"), (.object "com/example/packframe/packframe/onebyte/Status"), (.array (.object "com/example/packframe/packframe/onebyte/Status")), (.array (.object "com/example/packframe/packframe/onebyte/Status"))]
  resolved := Array.replicate 168 none
  statics := some 0 }

def pool7 : Array CpInfo := pool [(1, u "java/lang/Cloneable"), (0, .class_ 1), (0, u "java/lang/Object"), (0, .class_ 3)] 3

/-- java/lang/Cloneable -/
def k7 : Class := { plain "java/lang/Cloneable" (some 0) with
  accessFlags := 1537
  interfaces := #[]
  cf := some (fileOf pool7 2 #[] #[] 1537 4 #[] #[])
  fields := #[]
  methods := #[]
  instanceTypes := #[]
  staticTypes := #[]
  resolved := Array.replicate 8 none
  statics := none }

/-- the primitive byte -/
def k8 : Class := { plain "byte" none with kind := .primitive 'B', accessFlags := 0x411 }
/-- [B -/
def k9 : Class := { plain "[B" (some 0) with kind := .array 8 .byte, interfaces := #[7, 4], accessFlags := 1041 }

/-- the primitive int -/
def k10 : Class := { plain "int" none with kind := .primitive 'I', accessFlags := 0x411 }
/-- [I -/
def k11 : Class := { plain "[I" (some 0) with kind := .array 10 .int, interfaces := #[7, 4], accessFlags := 1041 }

/-- [Lcom/example/packframe/packframe/onebyte/Status; -/
def k12 : Class := { plain "[Lcom/example/packframe/packframe/onebyte/Status;" (some 0) with kind := .array 6 (.object "com/example/packframe/packframe/onebyte/Status"), interfaces := #[7, 4], accessFlags := 1041 }

def heap : Heap := #[{ cls := 6, slots := #[.ref 2, .ref 3, .ref 4, .ref 5, .ref 6, .ref 7, .ref 8, .ref 9, .ref 10, .ref 11, .ref 12, .ref 13, .ref 14, .ref 15, .ref 16, .ref 17, .ref 18, .ref 19, .ref 1, .null], vm := .statics 6 },
  { cls := 12, slots := #[.ref 2, .ref 3, .ref 4, .ref 5, .ref 6, .ref 7, .ref 8, .ref 9, .ref 10, .ref 11, .ref 12, .ref 13, .ref 14, .ref 15, .ref 16, .ref 17, .ref 18, .ref 19], vm := .none },
  { cls := 6, slots := #[.null, .int 0, .int 0, .int 0, .null], vm := .none },
  { cls := 6, slots := #[.null, .int 0, .int 0, .int 16, .null], vm := .none },
  { cls := 6, slots := #[.null, .int 0, .int 0, .int 17, .null], vm := .none },
  { cls := 6, slots := #[.null, .int 0, .int 0, .int 18, .null], vm := .none },
  { cls := 6, slots := #[.null, .int 0, .int 0, .int 32, .null], vm := .none },
  { cls := 6, slots := #[.null, .int 0, .int 0, .int 33, .null], vm := .none },
  { cls := 6, slots := #[.null, .int 0, .int 0, .int 34, .null], vm := .none },
  { cls := 6, slots := #[.null, .int 0, .int 0, .int 35, .null], vm := .none },
  { cls := 6, slots := #[.null, .int 0, .int 0, .int 36, .null], vm := .none },
  { cls := 6, slots := #[.null, .int 0, .int 0, .int 37, .null], vm := .none },
  { cls := 6, slots := #[.null, .int 0, .int 0, .int 38, .null], vm := .none },
  { cls := 6, slots := #[.null, .int 0, .int 0, .int 39, .null], vm := .none },
  { cls := 6, slots := #[.null, .int 0, .int 0, .int 48, .null], vm := .none },
  { cls := 6, slots := #[.null, .int 0, .int 0, .int 49, .null], vm := .none },
  { cls := 6, slots := #[.null, .int 0, .int 0, .int 50, .null], vm := .none },
  { cls := 6, slots := #[.null, .int 0, .int 0, .int 51, .null], vm := .none },
  { cls := 6, slots := #[.null, .int 0, .int 0, .int 52, .null], vm := .none },
  { cls := 6, slots := #[.null, .int 0, .int 0, .int 53, .null], vm := .none }]
def classes : Array Class := #[k0, k1, k2, k3, k4, k5, k6, k7, k8, k9, k10, k11, k12]
def interned : List (Array UInt16 × Addr) := []
def slotsUsed : Nat := 128
def theMethod : MethodId := ⟨1, 1⟩
def args0 : Array Value := #[.int 5, .int 5]
def aboutOver (below : List Frame) : State where
  vm := { classes := classes, interned := interned.toArray }
  heap := heap
  slotsUsed := slotsUsed
  threads := #[{ frames := .invoking theMethod args0 :: below }]
def below0 : List Frame := [.native { method := ⟨0, 0⟩, args := #[] }]
def about1 : State := aboutOver below0
def p0 : Program := .bare "" "" ""
def e0 : Env := launch0.env 0 0 0
theorem w_frames : about1.frames = Frame.invoking theMethod args0 :: below0 := rfl
set_option maxRecDepth 65536 in
theorem w_args : argsFit about1.vm theMethod args0 = true := by decide +kernel
set_option maxRecDepth 65536 in
theorem w_heap : heapFits about1 = true := by decide +kernel
set_option maxRecDepth 65536 in
theorem w_runnable : about1.curStatus? = some .runnable := by decide +kernel
set_option maxRecDepth 65536 in
theorem w_alone : about1.alone = true := by decide +kernel
set_option maxRecDepth 65536 in
theorem w_named : about1.methodNamed? x = some theMethod := by decide +kernel
set_option maxRecDepth 65536 in
theorem w_hears : about1.hears theMethod below0 = true := by decide +kernel
set_option maxRecDepth 65536 in
theorem w_ripe : about1.ripe theMethod args0 below0 = true := by decide +kernel
theorem w_running : about1.status = .running := rfl
set_option maxRecDepth 65536 in
theorem w_room : about1.hasRoom e0.platform room_1 = true :=
  launch0.hasRoom_least _ room_1 (by decide +kernel) (by decide +kernel) (by decide +kernel) (by decide +kernel) (by decide +kernel) (by decide +kernel)
theorem allAtoms_all (ts : List Jvm.Cond) (a : Array Jvm.Value) (st : Jvm.State) : (allAtoms ts).before a st = ts.all (fun c => c.before a st) := by
  induction ts with
  | nil => rfl
  | cons c t ih =>
    show (Jvm.Cond.and c (allAtoms t)).before a st = _
    rw [Jvm.Cond.before_and, ih, List.all_cons]
def words1 : List Jvm.Cond := Jvm.Cond.code x code maxLocals ret :: tables_1
/-- a 'code' word, met by the world's own term for the bytes: nothing is compared byte by byte -/
theorem code_word {y : MethodName} {bytes : ByteArray} {mx : Nat} {rt : Option FieldType} {a : Array Value} {s : State} {m : MethodId} {meth : Method} {c : Code} (h1 : s.methodNamed? y = some m) (h2 : s.vm.method? m = some meth) (h3 : meth.code = some c) (h4 : c.code = bytes)
    (h5 : (c.maxLocals == mx && c.exceptionTable.isEmpty && decide (c.maxStack ≤ mostOperands) && decide (meth.sig.returnType = rt) && !meth.locks && decide (parseMethodDescriptor y.desc = some meth.sig)) = true) : (Jvm.Cond.code y bytes mx rt).before a s = true := by
  simp only [Bool.and_eq_true, beq_iff_eq, Bool.not_eq_true', decide_eq_true_eq] at h5
  obtain ⟨⟨⟨⟨⟨g1, g2⟩, g3⟩, g4⟩, g5⟩, g6⟩ := h5
  simp [Cond.before, Cond.holds, Cond.value, h1, h2, h3, h4, g1, g2, g3, g4, g5, g6]
def isCode : Jvm.Cond → Bool
  | .code _ _ _ _ => true
  | _ => false
theorem all_split {L : List Jvm.Cond} {P : Jvm.Cond → Bool} (h1 : L.all (fun c => isCode c || P c) = true) (h2 : ∀ c ∈ L.filter isCode, P c = true) : L.all P = true := by
  refine List.all_eq_true.mpr fun c hc => ?_
  have h := List.all_eq_true.mp h1 c hc
  rcases Bool.eq_false_or_eq_true (isCode c) with hi | hi
  · exact h2 c (List.mem_filter.mpr ⟨hc, hi⟩)
  · simpa [hi] using h
set_option maxRecDepth 65536 in
theorem w_c0 : (Jvm.Cond.code x code maxLocals ret).before args0 about1 = true := code_word (m := ⟨1, 1⟩) (meth := k1m1) (c := k1c1) (by decide +kernel) rfl rfl rfl (by decide +kernel)
set_option maxRecDepth 65536 in
theorem w_c1 : (Jvm.Cond.code ({ cls := "com/example/packframe/packframe/onebyte/Status", name := "ofCode", desc := "(I)Lcom/example/packframe/packframe/onebyte/Status;" } : Jvm.MethodName) prog_24_method_6_code (5 : Nat) (Option.some (Jvm.ClassFile.FieldType.object "com/example/packframe/packframe/onebyte/Status"))).before args0 about1 = true := code_word (m := ⟨6, 0⟩) (meth := k6m0) (c := k6c0) (by decide +kernel) rfl rfl rfl (by decide +kernel)
set_option maxRecDepth 65536 in
theorem w_c2 : (Jvm.Cond.code ({ cls := "com/example/packframe/packframe/onebyte/StatusOfCodePinLaw", name := "expected", desc := "(I)Lcom/example/packframe/packframe/onebyte/Status;" } : Jvm.MethodName) method_3_code (1 : Nat) (Option.some (Jvm.ClassFile.FieldType.object "com/example/packframe/packframe/onebyte/Status"))).before args0 about1 = true := code_word (m := ⟨1, 2⟩) (meth := k1m2) (c := k1c2) (by decide +kernel) rfl rfl rfl (by decide +kernel)
def codes1 : List Jvm.Cond := [Jvm.Cond.code x code maxLocals ret, Jvm.Cond.code ({ cls := "com/example/packframe/packframe/onebyte/Status", name := "ofCode", desc := "(I)Lcom/example/packframe/packframe/onebyte/Status;" } : Jvm.MethodName) prog_24_method_6_code (5 : Nat) (Option.some (Jvm.ClassFile.FieldType.object "com/example/packframe/packframe/onebyte/Status")), Jvm.Cond.code ({ cls := "com/example/packframe/packframe/onebyte/StatusOfCodePinLaw", name := "expected", desc := "(I)Lcom/example/packframe/packframe/onebyte/Status;" } : Jvm.MethodName) method_3_code (1 : Nat) (Option.some (Jvm.ClassFile.FieldType.object "com/example/packframe/packframe/onebyte/Status"))]
set_option maxRecDepth 65536 in
theorem codes_eq : words1.filter isCode = codes1 := rfl
theorem w_codes : ∀ c ∈ words1.filter isCode, c.before args0 about1 = true := by
  rw [codes_eq]
  intro c hc
  simp only [codes1, List.mem_cons, List.not_mem_nil, or_false] at hc
  rcases hc with rfl | rfl | rfl
  · exact w_c0
  · exact w_c1
  · exact w_c2
set_option maxRecDepth 65536 in
theorem w_t1 : (words1.take 24).all (fun c => isCode c || c.before args0 about1) = true := by decide +kernel
set_option maxRecDepth 65536 in
theorem w_t2 : ((words1.drop 24).take 24).all (fun c => isCode c || c.before args0 about1) = true := by decide +kernel
set_option maxRecDepth 65536 in
theorem w_t3 : ((words1.drop 24).drop 24).all (fun c => isCode c || c.before args0 about1) = true := by decide +kernel
theorem w_tables : (allAtoms (Jvm.Cond.code x code maxLocals ret :: tables_1)).before args0 about1 = true := by
  rw [allAtoms_all]
  show words1.all (fun c => c.before args0 about1) = true
  refine all_split ?_ w_codes
  rw [← List.take_append_drop 24 words1, List.all_append, w_t1, ← List.take_append_drop 24 (words1.drop 24), List.all_append, w_t2, w_t3]
  rfl
set_option maxRecDepth 65536 in
theorem w_case : (Jvm.Cond.and given_1 narrow_1).before args0 about1 = true := by decide +kernel
theorem w_applies : (headSpec (Jvm.Cond.code x code maxLocals ret :: tables_1) room_1).applies x e0.platform about1 = true :=
  (Spec.applies_iff w_frames).mpr ⟨w_running, w_runnable, w_alone, w_named, w_hears, w_ripe, w_room, w_tables⟩
theorem atStart : AtStart classFile x code maxLocals ret World_1 tables_1 room_1 Calls_1 rest_1 Pre_1 launch0 p0 e0 about1 theMethod args0 below0 :=
  ⟨lists_1, trivial, launch0.admits_env _ _ _, launch0.least_env, fairChoices_fair.cas, fairChoices_fair.clock, w_frames, w_args, w_heap, w_applies, trivial, trivial, w_case⟩
end start1
theorem witness_1 : WitnessClaimed_1 := ⟨start1.p0, start1.e0, start1.about1, start1.theMethod, start1.args0, start1.below0, start1.atStart⟩
end Jvm.Pilot.@@N@@
