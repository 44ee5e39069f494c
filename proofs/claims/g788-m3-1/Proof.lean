import JvmDerived
import JvmDerived.Pilot.@@N@@Statement
import JvmDerived.Pilot.@@N@@Code
set_option linter.unusedVariables false
set_option linter.unusedSimpArgs false
@@BLOCK:NumsL.lean.txt@@
namespace Jvm.OwnW
open Sem ClassFile Op Lib Jvm.Stand Jvm.Free Jvm.LawKit Jvm.RoadKit
section Own
variable {p : Program} {l : Launch} {e : Env} {R : Room} {s : State} {m : MethodId} {args : Array Value} {below : List Frame} {meth : Method} {c : Code} {T : State} {locs : List Loc} {cells slots : Nat} {K N : Nat} {Q : Option Value → Heap → List Loc → Prop}
/-- from U the run comes to the method's end, and what it leaves there is Q -/
def OwnEnds (tb : Tables) (e : Env) (below : List Frame) (s : State) (K N : Nat) (Q : Option Value → Heap → List Loc → Prop) (U : State) : Prop :=
  ∃ s₂ o, Steps tb e below U s₂ ∧ s₂.status = .running ∧ Ended s₂ below o ∧ ∃ v L, o = .returned v ∧ Q v s₂.heap L ∧ FrameEnd s o s₂ L K N
theorem ogo {tb : Tables} {U U' : State} (st : ∀ t, Steps tb e below U' t → Steps tb e below U t) (h : OwnEnds tb e below s K N Q U') : OwnEnds tb e below s K N Q U := by
  obtain ⟨s₂, o, h1, h2⟩ := h
  exact ⟨s₂, o, st _ h1, h2⟩
theorem endR (X : Stand p l e R s m args below meth c T locs cells slots) (hx : p.tables.exec = Jvm.exec) (hlk : meth.locks = false) {pc : Nat} {Ls : Array Slot} {w : Value} {t : FieldType} {i : Instr} {rest : List Value} (hret : meth.sig.returnType = some t) (hn : narrow t w = w)
    (hi : (i = .ireturn ∧ (t = .int ∨ t = .boolean ∨ t = .byte ∨ t = .char ∨ t = .short) ∧ ∃ z, w = .int z) ∨ (i = .lreturn ∧ t = .long ∧ ∃ z, w = .long z) ∨ (i = .dreturn ∧ t = .double ∧ ∃ z, w = .double z) ∨ (i = .freturn ∧ t = .float ∧ ∃ z, w = .float z) ∨ (i = .areturn ∧ t.isReference = true ∧ w.isRef = true))
    (hd : decode c.code pc = .ok (i, 1)) (hK : cells ≤ K) (hN : slots ≤ N) (hQ : Q (some w) T.heap locs) : OwnEnds p.tables e below s K N Q (T.setTop (mkF m pc Ls (w :: rest))) := by
  obtain ⟨fs, hr, hrun, hended, hW, hsame⟩ := X.leave (v := some w) (fun h => by rw [hret] at h; cases h) hlk
  exact ⟨_, _, retOut X hx hret hn hi hd hr, hrun, hended, _, _, rfl, hQ, ⟨_, rfl⟩, hW, hsame.mono hK hN⟩
theorem endI (X : Stand p l e R s m args below meth c T locs cells slots) (hx : p.tables.exec = Jvm.exec) (hlk : meth.locks = false) {pc : Nat} {Ls : Array Slot} {z : Int32} {rest : List Value} (hret : meth.sig.returnType = some .int)
    (hd : decode c.code pc = .ok (.ireturn, 1)) (hK : cells ≤ K) (hN : slots ≤ N) (hQ : Q (some (.int z)) T.heap locs) : OwnEnds p.tables e below s K N Q (T.setTop (mkF m pc Ls (.int z :: rest))) :=
  endR X hx hlk hret rfl (Or.inl ⟨rfl, Or.inl rfl, z, rfl⟩) hd hK hN hQ
theorem endZ (X : Stand p l e R s m args below meth c T locs cells slots) (hx : p.tables.exec = Jvm.exec) (hlk : meth.locks = false) {pc : Nat} {Ls : Array Slot} {z : Int32} {rest : List Value} (hret : meth.sig.returnType = some .boolean) (hn : narrow .boolean (.int z) = .int z)
    (hd : decode c.code pc = .ok (.ireturn, 1)) (hK : cells ≤ K) (hN : slots ≤ N) (hQ : Q (some (.int z)) T.heap locs) : OwnEnds p.tables e below s K N Q (T.setTop (mkF m pc Ls (.int z :: rest))) :=
  endR X hx hlk hret hn (Or.inl ⟨rfl, Or.inr (Or.inl rfl), z, rfl⟩) hd hK hN hQ
theorem endJ (X : Stand p l e R s m args below meth c T locs cells slots) (hx : p.tables.exec = Jvm.exec) (hlk : meth.locks = false) {pc : Nat} {Ls : Array Slot} {z : Int64} {rest : List Value} (hret : meth.sig.returnType = some .long)
    (hd : decode c.code pc = .ok (.lreturn, 1)) (hK : cells ≤ K) (hN : slots ≤ N) (hQ : Q (some (.long z)) T.heap locs) : OwnEnds p.tables e below s K N Q (T.setTop (mkF m pc Ls (.long z :: rest))) :=
  endR X hx hlk hret rfl (Or.inr (Or.inl ⟨rfl, rfl, z, rfl⟩)) hd hK hN hQ
theorem endA (X : Stand p l e R s m args below meth c T locs cells slots) (hx : p.tables.exec = Jvm.exec) (hlk : meth.locks = false) {pc : Nat} {Ls : Array Slot} {w : Value} {t : FieldType} {rest : List Value} (hret : meth.sig.returnType = some t) (ht : t.isReference = true) (hw : w.isRef = true)
    (hd : decode c.code pc = .ok (.areturn, 1)) (hK : cells ≤ K) (hN : slots ≤ N) (hQ : Q (some w) T.heap locs) : OwnEnds p.tables e below s K N Q (T.setTop (mkF m pc Ls (w :: rest))) :=
  endR X hx hlk hret (by rcases ref_cases hw with rfl | ⟨a, rfl⟩ <;> cases t <;> simp_all [narrow, FieldType.isReference]) (Or.inr (Or.inr (Or.inr (Or.inr ⟨rfl, ht, hw⟩)))) hd hK hN hQ
theorem endV (X : Stand p l e R s m args below meth c T locs cells slots) (hx : p.tables.exec = Jvm.exec) (hlk : meth.locks = false) {pc : Nat} {Ls : Array Slot} (hret : meth.sig.returnType = none)
    (hd : decode c.code pc = .ok (.return_, 1)) (hK : cells ≤ K) (hN : slots ≤ N) (hQ : Q none T.heap locs) : OwnEnds p.tables e below s K N Q (T.setTop (mkF m pc Ls [])) := by
  obtain ⟨fs, hr, hrun, hended, hW, hsame⟩ := X.leave (v := none) (fun _ => rfl) hlk
  exact ⟨_, _, X.returnOut hx hret hd hr, hrun, hended, _, _, rfl, hQ, ⟨_, rfl⟩, hW, hsame.mono hK hN⟩
end Own
end Jvm.OwnW
namespace Jvm.Pilot.@@N@@
open Jvm Jvm.ClassFile Sem Op Lib Jvm.Free Jvm.Stand Jvm.LawKit Jvm.RoadKit Jvm.OwnW Bundle Jvm.Pilot.@@N@@.Jvm.D
theorem own_cat {v : Value} (h : v.isRef = true) : v.category = 1 := by rcases ref_cases h with rfl | ⟨a, rfl⟩ <;> rfl
theorem own_ite {q : Prop} [Decidable q] {a b : Value} (ha : a.isRef = true) (hb : b.isRef = true) : (if q then a else b).isRef = true := by split <;> assumption
theorem own_fld {args : Array Value} {s : State} {t : Term} {C n d : String} {k : Int32} {a : Addr} (h : (Cond.eq (.field t C n d) (.int k)).value args s none s [] = some true) (ev : t.eval args s none [] s = some (.ref a)) : Fld s s.heap a C n d (.int k) := by
  obtain ⟨x, y, e1, e2, -, -⟩ := cmp_v (Or.inl h)
  have e3 : y = .int k := (Option.some.inj (e2.symm.trans (Term.int_eval k)))
  subst e3
  have e4 : s.fieldOf? a C n d = some x := by simpa [Term.eval, ev] using e1
  cases x <;> simp [Cond.value, e1, e2] at h
  subst h
  exact Fld.start e4
theorem own_len {args : Array Value} {s : State} {t : Term} {k : Int32} {a : Addr} {cl : Cell} (h : (Cond.eq (.length t) (.int k)).value args s none s [] = some true) (ev : t.eval args s none [] s = some (.ref a)) (hc : s.arrayAt? a = some cl) : cl.slots.size < 2 ^ 31 ∧ cl.slots.size.toInt32 = k := by
  obtain ⟨x, y, e1, e2, -, -⟩ := cmp_v (Or.inl h)
  have e3 : y = .int k := Option.some.inj (e2.symm.trans (Term.int_eval k))
  subst e3
  by_cases hl : cl.slots.size < 2 ^ 31
  · have e4 := len_f (args := args) (first := s) (o := none) (idx := []) ev hc hl
    refine ⟨hl, ?_⟩
    have e5 : x = .int cl.slots.size.toInt32 := Option.some.inj (e1.symm.trans e4)
    subst e5
    simpa [Cond.value, e1, e2] using h
  · exfalso
    simp [Term.eval, ev, hc, hl] at e1
theorem own_elem {args : Array Value} {s : State} {t u : Term} {j : Int32} {a b : Addr} {cl : Cell} (h : (Cond.eq (.elem t (.int j)) u).value args s none s [] = some true) (ev : t.eval args s none [] s = some (.ref a)) (evu : u.eval args s none [] s = some (.ref b)) (hc : s.heap[a]? = some cl) : cl.slots[j.toNatClampNeg]? = some (.ref b) := by
  obtain ⟨x, y, e1, e2, -, -⟩ := cmp_v (Or.inl h)
  cases e2.symm.trans evu
  obtain ⟨-, q⟩ := elem_in e1 ev (Term.int_eval j) hc
  rw [q]
  cases x <;> simp [Cond.value, e1, e2] at h ⊢
  exact h
theorem own_narb (x : Int32) : nar .byte x.toInt8.toInt32 = x.toInt8.toInt32 := by simp [nar]
def Av (Z : State) (h : Heap) (a : Addr) (ty : FieldType) (z : Int32) (vs : List Value) (d : Value) : Prop := ∃ k, Arv Z h a k ty z vs d
theorem Av.ext {Z : State} {h h' : Heap} {a : Addr} {ty : FieldType} {z : Int32} {vs : List Value} {d : Value} (F : Av Z h a ty z vs d) (E : Ext h h') : Av Z h' a ty z vs d := by obtain ⟨k, F⟩ := F; exact ⟨k, F.ext E⟩
theorem Av.other {Z : State} {h h' : Heap} {a b : Addr} {ty : FieldType} {z : Int32} {vs : List Value} {d v : Value} {sl : Nat} (F : Av Z h a ty z vs d) (W : Wr h h' b sl v) (q : a ≠ b) : Av Z h' a ty z vs d := by obtain ⟨k, F⟩ := F; exact ⟨k, F.other W q⟩
theorem Av.keep {Z : State} {h h' : Heap} {a : Addr} {ty : FieldType} {z : Int32} {vs : List Value} {d : Value} {ws : List Addr} (F : Av Z h a ty z vs d) (K : Keep h h' ws) (q : a ∉ ws) : Av Z h' a ty z vs d := by obtain ⟨k, F⟩ := F; exact ⟨k, F.keep K q⟩
theorem Av.lt {Z : State} {h : Heap} {a : Addr} {ty : FieldType} {z : Int32} {vs : List Value} {d : Value} (F : Av Z h a ty z vs d) : a < h.size := by obtain ⟨k, F⟩ := F; exact F.lt
theorem own_rng (x n : Int32) (hn : 0 < n.toInt) : 0 ≤ ((x &&& 2147483647) % n).toInt ∧ ((x &&& 2147483647) % n).toInt < n.toInt := by
  have e1 : (x &&& 2147483647).toInt = x.toInt % 2 ^ 31 := Jvm.Kit.i32_mask x 2147483647 (k := 31) (by decide) (by decide)
  have e2 := Jvm.Kit.i32_rem_nonneg (x := x &&& 2147483647) (y := n) (by omega)
  rw [e2]
  exact ⟨Int.emod_nonneg _ (by omega), Int.emod_lt_of_pos _ hn⟩
theorem own_case12 {k : Int32} (h : 0 ≤ k.toInt ∧ k.toInt < 12) : k = 0 ∨ k = 1 ∨ k = 2 ∨ k = 3 ∨ k = 4 ∨ k = 5 ∨ k = 6 ∨ k = 7 ∨ k = 8 ∨ k = 9 ∨ k = 10 ∨ k = 11 := by
  rcases (by omega : k.toInt = 0 ∨ k.toInt = 1 ∨ k.toInt = 2 ∨ k.toInt = 3 ∨ k.toInt = 4 ∨ k.toInt = 5 ∨ k.toInt = 6 ∨ k.toInt = 7 ∨ k.toInt = 8 ∨ k.toInt = 9 ∨ k.toInt = 10 ∨ k.toInt = 11) with q | q | q | q | q | q | q | q | q | q | q | q
  · exact Or.inl (Int32.toInt_inj.mp (q.trans (by decide)))
  · exact Or.inr (Or.inl (Int32.toInt_inj.mp (q.trans (by decide))))
  · exact Or.inr (Or.inr (Or.inl (Int32.toInt_inj.mp (q.trans (by decide)))))
  · exact Or.inr (Or.inr (Or.inr (Or.inl (Int32.toInt_inj.mp (q.trans (by decide))))))
  · exact Or.inr (Or.inr (Or.inr (Or.inr (Or.inl (Int32.toInt_inj.mp (q.trans (by decide)))))))
  · exact Or.inr (Or.inr (Or.inr (Or.inr (Or.inr (Or.inl (Int32.toInt_inj.mp (q.trans (by decide))))))))
  · exact Or.inr (Or.inr (Or.inr (Or.inr (Or.inr (Or.inr (Or.inl (Int32.toInt_inj.mp (q.trans (by decide)))))))))
  · exact Or.inr (Or.inr (Or.inr (Or.inr (Or.inr (Or.inr (Or.inr (Or.inl (Int32.toInt_inj.mp (q.trans (by decide))))))))))
  · exact Or.inr (Or.inr (Or.inr (Or.inr (Or.inr (Or.inr (Or.inr (Or.inr (Or.inl (Int32.toInt_inj.mp (q.trans (by decide)))))))))))
  · exact Or.inr (Or.inr (Or.inr (Or.inr (Or.inr (Or.inr (Or.inr (Or.inr (Or.inr (Or.inl (Int32.toInt_inj.mp (q.trans (by decide))))))))))))
  · exact Or.inr (Or.inr (Or.inr (Or.inr (Or.inr (Or.inr (Or.inr (Or.inr (Or.inr (Or.inr (Or.inl (Int32.toInt_inj.mp (q.trans (by decide)))))))))))))
  · exact Or.inr (Or.inr (Or.inr (Or.inr (Or.inr (Or.inr (Or.inr (Or.inr (Or.inr (Or.inr (Or.inr ((Int32.toInt_inj.mp (q.trans (by decide))))))))))))))

def own_res (k : Int32) (w_N2 w_N3 w_E1 w_E2 w_E3 w_S1 w_S2 w_S3 w_W1 w_W2 w_W3 w_N1 : Addr) : Addr := if k = 0 then w_N2 else if k = 1 then w_N3 else if k = 2 then w_E1 else if k = 3 then w_E2 else if k = 4 then w_E3 else if k = 5 then w_S1 else if k = 6 then w_S2 else if k = 7 then w_S3 else if k = 8 then w_W1 else if k = 9 then w_W2 else if k = 10 then w_W3 else w_N1
theorem d1_0 : decode jdk_37_method_2_code 0 = .ok (.aload_n 0, 1) := by decide +kernel
theorem d1_1 : decode jdk_37_method_2_code 1 = .ok (.getfield 7, 3) := by decide +kernel
theorem d1_4 : decode jdk_37_method_2_code 4 = .ok (.ireturn, 1) := by decide +kernel
theorem pn_Enum : plainName "java/lang/Enum" = true := by first | (simp [plainName, overriddenIn]; done) | decide +kernel
theorem ef_1 (m : MethodId) (x0 : Addr) : entryFrame m #[(.ref x0)] 1 = mkF m 0 #[.val (.ref x0)] [] := by first | (simp [entryFrame, mkF, argsToLocals, Value.category]; done) | rfl
def Q1 (Z : State) (a1 : Addr) (o1 : Int32) (h0 : Heap) (n0 : Nat) (v : Option Value) (h : Heap) (L : List Loc) : Prop := v = some (.int o1) ∧ Fr n0 L ∧ h = h0
set_option maxRecDepth 65536 in
set_option maxHeartbeats 40000000 in
theorem rm1 (l : Launch) (Z : State) (a0 : Array Value) (hw : ∀ d ∈ tables_1, d.before a0 Z = true) (ws : List Jvm.Cond) (a1 : Addr) (o1 : Int32) (h0 : Heap) (n0 : Nat) (Z0 : n0 ≤ h0.size) (F_o : Fld Z h0 a1 "java/lang/Enum" "ordinal" "I" (.int o1)) :
    MetFree l (⟨"java/lang/Enum", "ordinal", "()I"⟩ : MethodName) (head1 (Jvm.Cond.code (⟨"java/lang/Enum", "ordinal", "()I"⟩ : MethodName) jdk_37_method_2_code 1 (some .int) :: ws) ({ frames := 0, cells := 0, slots := 0, locals := 0 } : Room)) (fun a U => a = #[(.ref a1)] ∧ Z.Warmed39 U.vm ∧ U.heap = h0) (fun _ _ _ _ _ => True) (fun _ U o U' => ∃ v L, o = .returned v ∧ Q1 Z a1 o1 h0 n0 v U'.heap L ∧ FrameEnd U o U' L ({ frames := 0, cells := 0, slots := 0, locals := 0 } : Room).cells ({ frames := 0, cells := 0, slots := 0, locals := 0 } : Room).slots) := by
  refine MetFree.of_bodySF (plainFor_of_name pn_Enum) hisR ?_
  intro p e s m args below meth c s₁ Bd hml0 hP hK
  obtain ⟨rfl, hZ, hh⟩ := hP
  have hx := Bd.exec
  have hby := Bd.bytes
  have hml : c.maxLocals = 1 := hml0
  have hown : s.vm.findClass "java/lang/Enum" = some m.cls := findClass_of_methodNamed Bd.named
  have hnm := (name_of_methodNamed Bd.named Bd.method).1
  have hlk : meth.locks = false := BodyLoose.notSynchronized Bd
  have hret := Bd.returns
  have X0 : Stand p l e ({ frames := 0, cells := 0, slots := 0, locals := 0 } : Room) s m #[(.ref a1)] below meth c s₁ [] 0 0 := Stand.of_body Bd
  have e0 : s₁.heap = h0 := by rw [← hh, Bd.state]; rfl
  have N0 := Fr.nil n0
  refine ogo (U' := s₁.setTop (mkF m 0 #[.val (.ref a1)] [])) (Q := Q1 Z a1 o1 h0 n0) (K := ({ frames := 0, cells := 0, slots := 0, locals := 0 } : Room).cells) (N := ({ frames := 0, cells := 0, slots := 0, locals := 0 } : Room).slots) (fun t k => castTop (ef_1 m a1) k) ?_
  show OwnEnds _ _ _ _ _ _ _ (s₁.setTop (mkF m 0 #[.val (.ref a1)] []))
  refine ogo (fun t k => XS.aloadN X0.here hx rfl (hb hby d1_0) rfl rfl k) ?_
  show OwnEnds _ _ _ _ _ _ _ (s₁.setTop (mkF m 1 #[.val (.ref a1)] [(.ref a1)]))
  obtain ⟨T1, X1, e1, st1⟩ := getF X0 hx hZ hown (host := "") (Or.inl (hw _ (List.mem_of_getElem? (i := 43) rfl))) Via.refl e0 F_o (g := (mkF m 1 #[.val (.ref a1)] [(.ref a1)])) rfl rfl (hb hby d1_1)
  refine ogo st1 ?_
  show OwnEnds _ _ _ _ _ _ _ (T1.setTop (mkF m 4 #[.val (.ref a1)] [(.int o1)]))
  refine endI X1 hx hlk hret (hb hby d1_4) (by decide) (by decide) ?_
  show Q1 Z a1 o1 h0 n0 _ T1.heap _
  rw [e1]
  exact ⟨by simp [], N0, rfl⟩
theorem d2_0 : decode prog_36_method_5_code 0 = .ok (.getstatic 63, 3) := by decide +kernel
theorem d2_3 : decode prog_36_method_5_code 3 = .ok (.aload_n 0, 1) := by decide +kernel
theorem d2_4 : decode prog_36_method_5_code 4 = .ok (.invokevirtual 59, 3) := by decide +kernel
theorem d2_7 : decode prog_36_method_5_code 7 = .ok (.iconst 1, 1) := by decide +kernel
theorem d2_8 : decode prog_36_method_5_code 8 = .ok (.iadd, 1) := by decide +kernel
theorem d2_9 : decode prog_36_method_5_code 9 = .ok (.getstatic 63, 3) := by decide +kernel
theorem d2_12 : decode prog_36_method_5_code 12 = .ok (.arraylength, 1) := by decide +kernel
theorem d2_13 : decode prog_36_method_5_code 13 = .ok (.irem, 1) := by decide +kernel
theorem d2_14 : decode prog_36_method_5_code 14 = .ok (.aaload, 1) := by decide +kernel
theorem d2_15 : decode prog_36_method_5_code 15 = .ok (.areturn, 1) := by decide +kernel
theorem pn_Segment : plainName "com/example/ramparts/ramparts/tile/Segment" = true := by first | (simp [plainName, overriddenIn]; done) | decide +kernel
theorem pd___I : parseMethodDescriptor "()I" = some ⟨[], some .int⟩ := by decide +kernel
theorem ef_2 (m : MethodId) (x0 : Addr) : entryFrame m #[(.ref x0)] 1 = mkF m 0 #[.val (.ref x0)] [] := by first | (simp [entryFrame, mkF, argsToLocals, Value.category]; done) | rfl
def Q2 (Z : State) (a1 : Addr) (o1 : Int32) (w_N1 w_N2 w_N3 w_E1 w_E2 w_E3 w_S1 w_S2 w_S3 w_W1 w_W2 w_W3 w_RING : Addr) (h0 : Heap) (n0 : Nat) (v : Option Value) (h : Heap) (L : List Loc) : Prop := v = some (.ref (own_res o1 w_N2 w_N3 w_E1 w_E2 w_E3 w_S1 w_S2 w_S3 w_W1 w_W2 w_W3 w_N1)) ∧ Fr n0 L ∧ h = h0
set_option maxRecDepth 65536 in
set_option maxHeartbeats 40000000 in
theorem rm2 (l : Launch) (Z : State) (a0 : Array Value) (hw : ∀ d ∈ tables_1, d.before a0 Z = true) (ws : List Jvm.Cond) (a1 : Addr) (o1 : Int32) (w_N1 w_N2 w_N3 w_E1 w_E2 w_E3 w_S1 w_S2 w_S3 w_W1 w_W2 w_W3 w_RING : Addr) (h0 : Heap) (n0 : Nat) (Z0 : n0 ≤ h0.size) (OLD : Old Z n0 h0) (F_o : Fld Z h0 a1 "java/lang/Enum" "ordinal" "I" (.int o1)) (E_a : Exa Z h0 a1 "com/example/ramparts/ramparts/tile/Segment") (ho : 0 ≤ o1.toInt ∧ o1.toInt < 12) (S_RING : Sta Z Z.heap "com/example/ramparts/ramparts/tile/Segment" "RING" "[Lcom/example/ramparts/ramparts/tile/Segment;" (.ref w_RING)) (V_RING : ∃ k, Arv Z Z.heap w_RING k (.object "com/example/ramparts/ramparts/tile/Segment") (12 : Int32) [(.ref w_N1), (.ref w_N2), (.ref w_N3), (.ref w_E1), (.ref w_E2), (.ref w_E3), (.ref w_S1), (.ref w_S2), (.ref w_S3), (.ref w_W1), (.ref w_W2), (.ref w_W3)] .null) :
    MetFree l (⟨"com/example/ramparts/ramparts/tile/Segment", "next", "()Lcom/example/ramparts/ramparts/tile/Segment;"⟩ : MethodName) (head1 (Jvm.Cond.code (⟨"com/example/ramparts/ramparts/tile/Segment", "next", "()Lcom/example/ramparts/ramparts/tile/Segment;"⟩ : MethodName) prog_36_method_5_code 1 (some (.object "com/example/ramparts/ramparts/tile/Segment")) :: ws) ({ frames := 1, cells := 0, slots := 0, locals := 13 } : Room)) (fun a U => a = #[(.ref a1)] ∧ Z.Warmed39 U.vm ∧ U.heap = h0) (fun _ _ _ _ _ => True) (fun _ U o U' => ∃ v L, o = .returned v ∧ Q2 Z a1 o1 w_N1 w_N2 w_N3 w_E1 w_E2 w_E3 w_S1 w_S2 w_S3 w_W1 w_W2 w_W3 w_RING h0 n0 v U'.heap L ∧ FrameEnd U o U' L ({ frames := 1, cells := 0, slots := 0, locals := 13 } : Room).cells ({ frames := 1, cells := 0, slots := 0, locals := 13 } : Room).slots) := by
  refine MetFree.of_bodySF (plainFor_of_name pn_Segment) hisR ?_
  intro p e s m args below meth c s₁ Bd hml0 hP hK
  obtain ⟨rfl, hZ, hh⟩ := hP
  have hx := Bd.exec
  have hby := Bd.bytes
  have hml : c.maxLocals = 1 := hml0
  have hown : s.vm.findClass "com/example/ramparts/ramparts/tile/Segment" = some m.cls := findClass_of_methodNamed Bd.named
  have hnm := (name_of_methodNamed Bd.named Bd.method).1
  have hlk : meth.locks = false := BodyLoose.notSynchronized Bd
  have hret := Bd.returns
  have X0 : Stand p l e ({ frames := 1, cells := 0, slots := 0, locals := 13 } : Room) s m #[(.ref a1)] below meth c s₁ [] 0 0 := Stand.of_body Bd
  have e0 : s₁.heap = h0 := by rw [← hh, Bd.state]; rfl
  have N0 := Fr.nil n0
  refine ogo (U' := s₁.setTop (mkF m 0 #[.val (.ref a1)] [])) (Q := Q2 Z a1 o1 w_N1 w_N2 w_N3 w_E1 w_E2 w_E3 w_S1 w_S2 w_S3 w_W1 w_W2 w_W3 w_RING h0 n0) (K := ({ frames := 1, cells := 0, slots := 0, locals := 13 } : Room).cells) (N := ({ frames := 1, cells := 0, slots := 0, locals := 13 } : Room).slots) (fun t k => castTop (ef_2 m a1) k) ?_
  rcases own_case12 ho with rfl | rfl | rfl | rfl | rfl | rfl | rfl | rfl | rfl | rfl | rfl | rfl
  · show OwnEnds _ _ _ _ _ _ _ (s₁.setTop (mkF m 0 #[.val (.ref a1)] []))
    obtain ⟨T1, X1, e1, st1⟩ := getS2 X0 hx hZ hown (host := "") (Or.inl (hw _ (List.mem_of_getElem? (i := 34) rfl))) Via.refl e0 (S_RING.ext OLD.2) (g := (mkF m 0 #[.val (.ref a1)] [])) rfl (hb hby d2_0)
    refine ogo st1 ?_
    show OwnEnds _ _ _ _ _ _ _ (T1.setTop (mkF m 3 #[.val (.ref a1)] [(.ref w_RING)]))
    refine ogo (fun t k => XS.aloadN X1.here hx rfl (hb hby d2_3) rfl rfl k) ?_
    show OwnEnds _ _ _ _ _ _ _ (T1.setTop (mkF m 4 #[.val (.ref a1)] [(.ref a1), (.ref w_RING)]))
    obtain ⟨cq2, kq2, q2a, q2b, q2c⟩ := isOf hZ e1 E_a
    obtain ⟨v2, _, ⟨T2, L2, k2, n2⟩, -, X2, ⟨Lc2, hQ2, l2, y2, z2⟩, st2⟩ := X1.virtualBackUp hx (x := (⟨"com/example/ramparts/ramparts/tile/Segment", "ordinal", "()I"⟩ : MethodName)) (y := (⟨"java/lang/Enum", "ordinal", "()I"⟩ : MethodName)) (owner := "java/lang/Enum") hown (mvT hZ (hw _ (List.mem_of_getElem? (i := 36) rfl))) (mvT hZ (hw _ (List.mem_of_getElem? (i := 37) rfl))) (mvT hZ (hw _ (List.mem_of_getElem? (i := 38) rfl))) (by decide) (mvT hZ (hw _ (List.mem_of_getElem? (i := 40) rfl))) (mvT hZ (hw _ (List.mem_of_getElem? (i := 39) rfl))) (backOf (W := 1) (rm1 l Z a0 hw [] a1 (0 : Int32) h0 n0 Z0 F_o) hZ (hw _ (List.mem_of_getElem? (i := 42) rfl)) (hw _ (List.mem_of_getElem? (i := 41) rfl)) (by decide) (by decide)) q2a q2c (g := (mkF m 4 #[.val (.ref a1)] [(.ref a1), (.ref w_RING)])) rfl (by rw [hml]; rfl) (Steps.refl _) (argsL := []) (rest := [(.ref w_RING)]) (lenOf pd___I rfl) rfl (by show 2 * 0 + _ ≤ _; exact Nat.le_of_eq rfl) (hb hby d2_4) (fun _ _ => ⟨rfl, e1, (by decide : 0 + 0 ≤ _), (by decide : 0 + 0 ≤ _)⟩)
    dsimp only [Pt.U, Pt.locs, Pt.cells, Pt.slots] at X2 l2 y2 z2 st2 hQ2
    subst l2 y2 z2
    obtain ⟨rfl, N2q, e2⟩ := hQ2
    have N2 := Fr.app N0 N2q
    refine ogo (fun t k => st2.trans k) ?_
    show OwnEnds _ _ _ _ _ _ _ (T2.setTop (mkF m 7 #[.val (.ref a1)] [(.int (0 : Int32)), (.ref w_RING)]))
    refine ogo (fun t k => XS.iconst X2.here hx rfl (hb hby d2_7) k) ?_
    show OwnEnds _ _ _ _ _ _ _ (T2.setTop (mkF m 8 #[.val (.ref a1)] [(.int (1 : Int32)), (.int (0 : Int32)), (.ref w_RING)]))
    refine ogo (fun t k => XS.iadd X2.here hx rfl (hb hby d2_8) rfl k) ?_
    show OwnEnds _ _ _ _ _ _ _ (T2.setTop (mkF m 9 #[.val (.ref a1)] [(.int (1 : Int32)), (.ref w_RING)]))
    obtain ⟨T3, X3, e3, st3⟩ := getS2 X2 hx hZ hown (host := "") (Or.inl (hw _ (List.mem_of_getElem? (i := 34) rfl))) Via.refl e2 (S_RING.ext OLD.2) (g := (mkF m 9 #[.val (.ref a1)] [(.int (1 : Int32)), (.ref w_RING)])) rfl (hb hby d2_9)
    refine ogo st3 ?_
    show OwnEnds _ _ _ _ _ _ _ (T3.setTop (mkF m 12 #[.val (.ref a1)] [(.ref w_RING), (.int (1 : Int32)), (.ref w_RING)]))
    obtain ⟨ak4, cl4, Ar4, Aq4, As4, An4, Ah4, Ag4⟩ := id (Av.ext V_RING OLD.2)
    refine ogo (fun t k => X3.arraylength hx (by rw [e3]; exact Ar4.1) (State.isArrayOf_alike hZ.alike Ar4.2.1) (g := (mkF m 12 #[.val (.ref a1)] [(.ref w_RING), (.int (1 : Int32)), (.ref w_RING)])) rfl rfl (hb hby d2_12) t k) ?_
    rw [len_of As4 An4]
    show OwnEnds _ _ _ _ _ _ _ (T3.setTop (mkF m 13 #[.val (.ref a1)] [(.int (12 : Int32)), (.int (1 : Int32)), (.ref w_RING)]))
    refine ogo (fun t k => iremM (g := (mkF m 13 #[.val (.ref a1)] [(.int (12 : Int32)), (.int (1 : Int32)), (.ref w_RING)])) X3 hx rfl (hb hby d2_13) rfl (by decide) k) ?_
    show OwnEnds _ _ _ _ _ _ _ (T3.setTop (mkF m 14 #[.val (.ref a1)] [(.int (1 : Int32)), (.ref w_RING)]))
    obtain ⟨ak5, cl5, Ar5, Aq5, As5, An5, Ah5, Ag5⟩ := id (Av.ext V_RING OLD.2)
    refine ogo (fun t k => X3.aaload hx (j := (1 : Int32)) (v := (.ref w_N2)) (by rw [e3]; exact Ar5.1) (State.isArrayOf_alike hZ.alike Ar5.2.1) rfl Ar5.2.2 (inb_of As5 ⟨by decide, by decide⟩) (Ah5.at (inb_of As5 ⟨by decide, by decide⟩) rfl) (g := (mkF m 14 #[.val (.ref a1)] [(.int (1 : Int32)), (.ref w_RING)])) rfl rfl (hb hby d2_14) t k) ?_
    show OwnEnds _ _ _ _ _ _ _ (T3.setTop (mkF m 15 #[.val (.ref a1)] [(.ref w_N2)]))
    refine endA X3 hx hlk hret rfl rfl (hb hby d2_15) (by decide) (by decide) ?_
    show Q2 Z a1 (0 : Int32) w_N1 w_N2 w_N3 w_E1 w_E2 w_E3 w_S1 w_S2 w_S3 w_W1 w_W2 w_W3 w_RING h0 n0 _ T3.heap _
    rw [e3]
    exact ⟨by simp [own_res], N2, rfl⟩
  · show OwnEnds _ _ _ _ _ _ _ (s₁.setTop (mkF m 0 #[.val (.ref a1)] []))
    obtain ⟨T6, X6, e6, st6⟩ := getS2 X0 hx hZ hown (host := "") (Or.inl (hw _ (List.mem_of_getElem? (i := 34) rfl))) Via.refl e0 (S_RING.ext OLD.2) (g := (mkF m 0 #[.val (.ref a1)] [])) rfl (hb hby d2_0)
    refine ogo st6 ?_
    show OwnEnds _ _ _ _ _ _ _ (T6.setTop (mkF m 3 #[.val (.ref a1)] [(.ref w_RING)]))
    refine ogo (fun t k => XS.aloadN X6.here hx rfl (hb hby d2_3) rfl rfl k) ?_
    show OwnEnds _ _ _ _ _ _ _ (T6.setTop (mkF m 4 #[.val (.ref a1)] [(.ref a1), (.ref w_RING)]))
    obtain ⟨cq7, kq7, q7a, q7b, q7c⟩ := isOf hZ e6 E_a
    obtain ⟨v7, _, ⟨T7, L7, k7, n7⟩, -, X7, ⟨Lc7, hQ7, l7, y7, z7⟩, st7⟩ := X6.virtualBackUp hx (x := (⟨"com/example/ramparts/ramparts/tile/Segment", "ordinal", "()I"⟩ : MethodName)) (y := (⟨"java/lang/Enum", "ordinal", "()I"⟩ : MethodName)) (owner := "java/lang/Enum") hown (mvT hZ (hw _ (List.mem_of_getElem? (i := 36) rfl))) (mvT hZ (hw _ (List.mem_of_getElem? (i := 37) rfl))) (mvT hZ (hw _ (List.mem_of_getElem? (i := 38) rfl))) (by decide) (mvT hZ (hw _ (List.mem_of_getElem? (i := 40) rfl))) (mvT hZ (hw _ (List.mem_of_getElem? (i := 39) rfl))) (backOf (W := 1) (rm1 l Z a0 hw [] a1 (1 : Int32) h0 n0 Z0 F_o) hZ (hw _ (List.mem_of_getElem? (i := 42) rfl)) (hw _ (List.mem_of_getElem? (i := 41) rfl)) (by decide) (by decide)) q7a q7c (g := (mkF m 4 #[.val (.ref a1)] [(.ref a1), (.ref w_RING)])) rfl (by rw [hml]; rfl) (Steps.refl _) (argsL := []) (rest := [(.ref w_RING)]) (lenOf pd___I rfl) rfl (by show 2 * 0 + _ ≤ _; exact Nat.le_of_eq rfl) (hb hby d2_4) (fun _ _ => ⟨rfl, e6, (by decide : 0 + 0 ≤ _), (by decide : 0 + 0 ≤ _)⟩)
    dsimp only [Pt.U, Pt.locs, Pt.cells, Pt.slots] at X7 l7 y7 z7 st7 hQ7
    subst l7 y7 z7
    obtain ⟨rfl, N7q, e7⟩ := hQ7
    have N7 := Fr.app N0 N7q
    refine ogo (fun t k => st7.trans k) ?_
    show OwnEnds _ _ _ _ _ _ _ (T7.setTop (mkF m 7 #[.val (.ref a1)] [(.int (1 : Int32)), (.ref w_RING)]))
    refine ogo (fun t k => XS.iconst X7.here hx rfl (hb hby d2_7) k) ?_
    show OwnEnds _ _ _ _ _ _ _ (T7.setTop (mkF m 8 #[.val (.ref a1)] [(.int (1 : Int32)), (.int (1 : Int32)), (.ref w_RING)]))
    refine ogo (fun t k => XS.iadd X7.here hx rfl (hb hby d2_8) rfl k) ?_
    show OwnEnds _ _ _ _ _ _ _ (T7.setTop (mkF m 9 #[.val (.ref a1)] [(.int (2 : Int32)), (.ref w_RING)]))
    obtain ⟨T8, X8, e8, st8⟩ := getS2 X7 hx hZ hown (host := "") (Or.inl (hw _ (List.mem_of_getElem? (i := 34) rfl))) Via.refl e7 (S_RING.ext OLD.2) (g := (mkF m 9 #[.val (.ref a1)] [(.int (2 : Int32)), (.ref w_RING)])) rfl (hb hby d2_9)
    refine ogo st8 ?_
    show OwnEnds _ _ _ _ _ _ _ (T8.setTop (mkF m 12 #[.val (.ref a1)] [(.ref w_RING), (.int (2 : Int32)), (.ref w_RING)]))
    obtain ⟨ak9, cl9, Ar9, Aq9, As9, An9, Ah9, Ag9⟩ := id (Av.ext V_RING OLD.2)
    refine ogo (fun t k => X8.arraylength hx (by rw [e8]; exact Ar9.1) (State.isArrayOf_alike hZ.alike Ar9.2.1) (g := (mkF m 12 #[.val (.ref a1)] [(.ref w_RING), (.int (2 : Int32)), (.ref w_RING)])) rfl rfl (hb hby d2_12) t k) ?_
    rw [len_of As9 An9]
    show OwnEnds _ _ _ _ _ _ _ (T8.setTop (mkF m 13 #[.val (.ref a1)] [(.int (12 : Int32)), (.int (2 : Int32)), (.ref w_RING)]))
    refine ogo (fun t k => iremM (g := (mkF m 13 #[.val (.ref a1)] [(.int (12 : Int32)), (.int (2 : Int32)), (.ref w_RING)])) X8 hx rfl (hb hby d2_13) rfl (by decide) k) ?_
    show OwnEnds _ _ _ _ _ _ _ (T8.setTop (mkF m 14 #[.val (.ref a1)] [(.int (2 : Int32)), (.ref w_RING)]))
    obtain ⟨ak10, cl10, Ar10, Aq10, As10, An10, Ah10, Ag10⟩ := id (Av.ext V_RING OLD.2)
    refine ogo (fun t k => X8.aaload hx (j := (2 : Int32)) (v := (.ref w_N3)) (by rw [e8]; exact Ar10.1) (State.isArrayOf_alike hZ.alike Ar10.2.1) rfl Ar10.2.2 (inb_of As10 ⟨by decide, by decide⟩) (Ah10.at (inb_of As10 ⟨by decide, by decide⟩) rfl) (g := (mkF m 14 #[.val (.ref a1)] [(.int (2 : Int32)), (.ref w_RING)])) rfl rfl (hb hby d2_14) t k) ?_
    show OwnEnds _ _ _ _ _ _ _ (T8.setTop (mkF m 15 #[.val (.ref a1)] [(.ref w_N3)]))
    refine endA X8 hx hlk hret rfl rfl (hb hby d2_15) (by decide) (by decide) ?_
    show Q2 Z a1 (1 : Int32) w_N1 w_N2 w_N3 w_E1 w_E2 w_E3 w_S1 w_S2 w_S3 w_W1 w_W2 w_W3 w_RING h0 n0 _ T8.heap _
    rw [e8]
    exact ⟨by simp [own_res], N7, rfl⟩
  · show OwnEnds _ _ _ _ _ _ _ (s₁.setTop (mkF m 0 #[.val (.ref a1)] []))
    obtain ⟨T11, X11, e11, st11⟩ := getS2 X0 hx hZ hown (host := "") (Or.inl (hw _ (List.mem_of_getElem? (i := 34) rfl))) Via.refl e0 (S_RING.ext OLD.2) (g := (mkF m 0 #[.val (.ref a1)] [])) rfl (hb hby d2_0)
    refine ogo st11 ?_
    show OwnEnds _ _ _ _ _ _ _ (T11.setTop (mkF m 3 #[.val (.ref a1)] [(.ref w_RING)]))
    refine ogo (fun t k => XS.aloadN X11.here hx rfl (hb hby d2_3) rfl rfl k) ?_
    show OwnEnds _ _ _ _ _ _ _ (T11.setTop (mkF m 4 #[.val (.ref a1)] [(.ref a1), (.ref w_RING)]))
    obtain ⟨cq12, kq12, q12a, q12b, q12c⟩ := isOf hZ e11 E_a
    obtain ⟨v12, _, ⟨T12, L12, k12, n12⟩, -, X12, ⟨Lc12, hQ12, l12, y12, z12⟩, st12⟩ := X11.virtualBackUp hx (x := (⟨"com/example/ramparts/ramparts/tile/Segment", "ordinal", "()I"⟩ : MethodName)) (y := (⟨"java/lang/Enum", "ordinal", "()I"⟩ : MethodName)) (owner := "java/lang/Enum") hown (mvT hZ (hw _ (List.mem_of_getElem? (i := 36) rfl))) (mvT hZ (hw _ (List.mem_of_getElem? (i := 37) rfl))) (mvT hZ (hw _ (List.mem_of_getElem? (i := 38) rfl))) (by decide) (mvT hZ (hw _ (List.mem_of_getElem? (i := 40) rfl))) (mvT hZ (hw _ (List.mem_of_getElem? (i := 39) rfl))) (backOf (W := 1) (rm1 l Z a0 hw [] a1 (2 : Int32) h0 n0 Z0 F_o) hZ (hw _ (List.mem_of_getElem? (i := 42) rfl)) (hw _ (List.mem_of_getElem? (i := 41) rfl)) (by decide) (by decide)) q12a q12c (g := (mkF m 4 #[.val (.ref a1)] [(.ref a1), (.ref w_RING)])) rfl (by rw [hml]; rfl) (Steps.refl _) (argsL := []) (rest := [(.ref w_RING)]) (lenOf pd___I rfl) rfl (by show 2 * 0 + _ ≤ _; exact Nat.le_of_eq rfl) (hb hby d2_4) (fun _ _ => ⟨rfl, e11, (by decide : 0 + 0 ≤ _), (by decide : 0 + 0 ≤ _)⟩)
    dsimp only [Pt.U, Pt.locs, Pt.cells, Pt.slots] at X12 l12 y12 z12 st12 hQ12
    subst l12 y12 z12
    obtain ⟨rfl, N12q, e12⟩ := hQ12
    have N12 := Fr.app N0 N12q
    refine ogo (fun t k => st12.trans k) ?_
    show OwnEnds _ _ _ _ _ _ _ (T12.setTop (mkF m 7 #[.val (.ref a1)] [(.int (2 : Int32)), (.ref w_RING)]))
    refine ogo (fun t k => XS.iconst X12.here hx rfl (hb hby d2_7) k) ?_
    show OwnEnds _ _ _ _ _ _ _ (T12.setTop (mkF m 8 #[.val (.ref a1)] [(.int (1 : Int32)), (.int (2 : Int32)), (.ref w_RING)]))
    refine ogo (fun t k => XS.iadd X12.here hx rfl (hb hby d2_8) rfl k) ?_
    show OwnEnds _ _ _ _ _ _ _ (T12.setTop (mkF m 9 #[.val (.ref a1)] [(.int (3 : Int32)), (.ref w_RING)]))
    obtain ⟨T13, X13, e13, st13⟩ := getS2 X12 hx hZ hown (host := "") (Or.inl (hw _ (List.mem_of_getElem? (i := 34) rfl))) Via.refl e12 (S_RING.ext OLD.2) (g := (mkF m 9 #[.val (.ref a1)] [(.int (3 : Int32)), (.ref w_RING)])) rfl (hb hby d2_9)
    refine ogo st13 ?_
    show OwnEnds _ _ _ _ _ _ _ (T13.setTop (mkF m 12 #[.val (.ref a1)] [(.ref w_RING), (.int (3 : Int32)), (.ref w_RING)]))
    obtain ⟨ak14, cl14, Ar14, Aq14, As14, An14, Ah14, Ag14⟩ := id (Av.ext V_RING OLD.2)
    refine ogo (fun t k => X13.arraylength hx (by rw [e13]; exact Ar14.1) (State.isArrayOf_alike hZ.alike Ar14.2.1) (g := (mkF m 12 #[.val (.ref a1)] [(.ref w_RING), (.int (3 : Int32)), (.ref w_RING)])) rfl rfl (hb hby d2_12) t k) ?_
    rw [len_of As14 An14]
    show OwnEnds _ _ _ _ _ _ _ (T13.setTop (mkF m 13 #[.val (.ref a1)] [(.int (12 : Int32)), (.int (3 : Int32)), (.ref w_RING)]))
    refine ogo (fun t k => iremM (g := (mkF m 13 #[.val (.ref a1)] [(.int (12 : Int32)), (.int (3 : Int32)), (.ref w_RING)])) X13 hx rfl (hb hby d2_13) rfl (by decide) k) ?_
    show OwnEnds _ _ _ _ _ _ _ (T13.setTop (mkF m 14 #[.val (.ref a1)] [(.int (3 : Int32)), (.ref w_RING)]))
    obtain ⟨ak15, cl15, Ar15, Aq15, As15, An15, Ah15, Ag15⟩ := id (Av.ext V_RING OLD.2)
    refine ogo (fun t k => X13.aaload hx (j := (3 : Int32)) (v := (.ref w_E1)) (by rw [e13]; exact Ar15.1) (State.isArrayOf_alike hZ.alike Ar15.2.1) rfl Ar15.2.2 (inb_of As15 ⟨by decide, by decide⟩) (Ah15.at (inb_of As15 ⟨by decide, by decide⟩) rfl) (g := (mkF m 14 #[.val (.ref a1)] [(.int (3 : Int32)), (.ref w_RING)])) rfl rfl (hb hby d2_14) t k) ?_
    show OwnEnds _ _ _ _ _ _ _ (T13.setTop (mkF m 15 #[.val (.ref a1)] [(.ref w_E1)]))
    refine endA X13 hx hlk hret rfl rfl (hb hby d2_15) (by decide) (by decide) ?_
    show Q2 Z a1 (2 : Int32) w_N1 w_N2 w_N3 w_E1 w_E2 w_E3 w_S1 w_S2 w_S3 w_W1 w_W2 w_W3 w_RING h0 n0 _ T13.heap _
    rw [e13]
    exact ⟨by simp [own_res], N12, rfl⟩
  · show OwnEnds _ _ _ _ _ _ _ (s₁.setTop (mkF m 0 #[.val (.ref a1)] []))
    obtain ⟨T16, X16, e16, st16⟩ := getS2 X0 hx hZ hown (host := "") (Or.inl (hw _ (List.mem_of_getElem? (i := 34) rfl))) Via.refl e0 (S_RING.ext OLD.2) (g := (mkF m 0 #[.val (.ref a1)] [])) rfl (hb hby d2_0)
    refine ogo st16 ?_
    show OwnEnds _ _ _ _ _ _ _ (T16.setTop (mkF m 3 #[.val (.ref a1)] [(.ref w_RING)]))
    refine ogo (fun t k => XS.aloadN X16.here hx rfl (hb hby d2_3) rfl rfl k) ?_
    show OwnEnds _ _ _ _ _ _ _ (T16.setTop (mkF m 4 #[.val (.ref a1)] [(.ref a1), (.ref w_RING)]))
    obtain ⟨cq17, kq17, q17a, q17b, q17c⟩ := isOf hZ e16 E_a
    obtain ⟨v17, _, ⟨T17, L17, k17, n17⟩, -, X17, ⟨Lc17, hQ17, l17, y17, z17⟩, st17⟩ := X16.virtualBackUp hx (x := (⟨"com/example/ramparts/ramparts/tile/Segment", "ordinal", "()I"⟩ : MethodName)) (y := (⟨"java/lang/Enum", "ordinal", "()I"⟩ : MethodName)) (owner := "java/lang/Enum") hown (mvT hZ (hw _ (List.mem_of_getElem? (i := 36) rfl))) (mvT hZ (hw _ (List.mem_of_getElem? (i := 37) rfl))) (mvT hZ (hw _ (List.mem_of_getElem? (i := 38) rfl))) (by decide) (mvT hZ (hw _ (List.mem_of_getElem? (i := 40) rfl))) (mvT hZ (hw _ (List.mem_of_getElem? (i := 39) rfl))) (backOf (W := 1) (rm1 l Z a0 hw [] a1 (3 : Int32) h0 n0 Z0 F_o) hZ (hw _ (List.mem_of_getElem? (i := 42) rfl)) (hw _ (List.mem_of_getElem? (i := 41) rfl)) (by decide) (by decide)) q17a q17c (g := (mkF m 4 #[.val (.ref a1)] [(.ref a1), (.ref w_RING)])) rfl (by rw [hml]; rfl) (Steps.refl _) (argsL := []) (rest := [(.ref w_RING)]) (lenOf pd___I rfl) rfl (by show 2 * 0 + _ ≤ _; exact Nat.le_of_eq rfl) (hb hby d2_4) (fun _ _ => ⟨rfl, e16, (by decide : 0 + 0 ≤ _), (by decide : 0 + 0 ≤ _)⟩)
    dsimp only [Pt.U, Pt.locs, Pt.cells, Pt.slots] at X17 l17 y17 z17 st17 hQ17
    subst l17 y17 z17
    obtain ⟨rfl, N17q, e17⟩ := hQ17
    have N17 := Fr.app N0 N17q
    refine ogo (fun t k => st17.trans k) ?_
    show OwnEnds _ _ _ _ _ _ _ (T17.setTop (mkF m 7 #[.val (.ref a1)] [(.int (3 : Int32)), (.ref w_RING)]))
    refine ogo (fun t k => XS.iconst X17.here hx rfl (hb hby d2_7) k) ?_
    show OwnEnds _ _ _ _ _ _ _ (T17.setTop (mkF m 8 #[.val (.ref a1)] [(.int (1 : Int32)), (.int (3 : Int32)), (.ref w_RING)]))
    refine ogo (fun t k => XS.iadd X17.here hx rfl (hb hby d2_8) rfl k) ?_
    show OwnEnds _ _ _ _ _ _ _ (T17.setTop (mkF m 9 #[.val (.ref a1)] [(.int (4 : Int32)), (.ref w_RING)]))
    obtain ⟨T18, X18, e18, st18⟩ := getS2 X17 hx hZ hown (host := "") (Or.inl (hw _ (List.mem_of_getElem? (i := 34) rfl))) Via.refl e17 (S_RING.ext OLD.2) (g := (mkF m 9 #[.val (.ref a1)] [(.int (4 : Int32)), (.ref w_RING)])) rfl (hb hby d2_9)
    refine ogo st18 ?_
    show OwnEnds _ _ _ _ _ _ _ (T18.setTop (mkF m 12 #[.val (.ref a1)] [(.ref w_RING), (.int (4 : Int32)), (.ref w_RING)]))
    obtain ⟨ak19, cl19, Ar19, Aq19, As19, An19, Ah19, Ag19⟩ := id (Av.ext V_RING OLD.2)
    refine ogo (fun t k => X18.arraylength hx (by rw [e18]; exact Ar19.1) (State.isArrayOf_alike hZ.alike Ar19.2.1) (g := (mkF m 12 #[.val (.ref a1)] [(.ref w_RING), (.int (4 : Int32)), (.ref w_RING)])) rfl rfl (hb hby d2_12) t k) ?_
    rw [len_of As19 An19]
    show OwnEnds _ _ _ _ _ _ _ (T18.setTop (mkF m 13 #[.val (.ref a1)] [(.int (12 : Int32)), (.int (4 : Int32)), (.ref w_RING)]))
    refine ogo (fun t k => iremM (g := (mkF m 13 #[.val (.ref a1)] [(.int (12 : Int32)), (.int (4 : Int32)), (.ref w_RING)])) X18 hx rfl (hb hby d2_13) rfl (by decide) k) ?_
    show OwnEnds _ _ _ _ _ _ _ (T18.setTop (mkF m 14 #[.val (.ref a1)] [(.int (4 : Int32)), (.ref w_RING)]))
    obtain ⟨ak20, cl20, Ar20, Aq20, As20, An20, Ah20, Ag20⟩ := id (Av.ext V_RING OLD.2)
    refine ogo (fun t k => X18.aaload hx (j := (4 : Int32)) (v := (.ref w_E2)) (by rw [e18]; exact Ar20.1) (State.isArrayOf_alike hZ.alike Ar20.2.1) rfl Ar20.2.2 (inb_of As20 ⟨by decide, by decide⟩) (Ah20.at (inb_of As20 ⟨by decide, by decide⟩) rfl) (g := (mkF m 14 #[.val (.ref a1)] [(.int (4 : Int32)), (.ref w_RING)])) rfl rfl (hb hby d2_14) t k) ?_
    show OwnEnds _ _ _ _ _ _ _ (T18.setTop (mkF m 15 #[.val (.ref a1)] [(.ref w_E2)]))
    refine endA X18 hx hlk hret rfl rfl (hb hby d2_15) (by decide) (by decide) ?_
    show Q2 Z a1 (3 : Int32) w_N1 w_N2 w_N3 w_E1 w_E2 w_E3 w_S1 w_S2 w_S3 w_W1 w_W2 w_W3 w_RING h0 n0 _ T18.heap _
    rw [e18]
    exact ⟨by simp [own_res], N17, rfl⟩
  · show OwnEnds _ _ _ _ _ _ _ (s₁.setTop (mkF m 0 #[.val (.ref a1)] []))
    obtain ⟨T21, X21, e21, st21⟩ := getS2 X0 hx hZ hown (host := "") (Or.inl (hw _ (List.mem_of_getElem? (i := 34) rfl))) Via.refl e0 (S_RING.ext OLD.2) (g := (mkF m 0 #[.val (.ref a1)] [])) rfl (hb hby d2_0)
    refine ogo st21 ?_
    show OwnEnds _ _ _ _ _ _ _ (T21.setTop (mkF m 3 #[.val (.ref a1)] [(.ref w_RING)]))
    refine ogo (fun t k => XS.aloadN X21.here hx rfl (hb hby d2_3) rfl rfl k) ?_
    show OwnEnds _ _ _ _ _ _ _ (T21.setTop (mkF m 4 #[.val (.ref a1)] [(.ref a1), (.ref w_RING)]))
    obtain ⟨cq22, kq22, q22a, q22b, q22c⟩ := isOf hZ e21 E_a
    obtain ⟨v22, _, ⟨T22, L22, k22, n22⟩, -, X22, ⟨Lc22, hQ22, l22, y22, z22⟩, st22⟩ := X21.virtualBackUp hx (x := (⟨"com/example/ramparts/ramparts/tile/Segment", "ordinal", "()I"⟩ : MethodName)) (y := (⟨"java/lang/Enum", "ordinal", "()I"⟩ : MethodName)) (owner := "java/lang/Enum") hown (mvT hZ (hw _ (List.mem_of_getElem? (i := 36) rfl))) (mvT hZ (hw _ (List.mem_of_getElem? (i := 37) rfl))) (mvT hZ (hw _ (List.mem_of_getElem? (i := 38) rfl))) (by decide) (mvT hZ (hw _ (List.mem_of_getElem? (i := 40) rfl))) (mvT hZ (hw _ (List.mem_of_getElem? (i := 39) rfl))) (backOf (W := 1) (rm1 l Z a0 hw [] a1 (4 : Int32) h0 n0 Z0 F_o) hZ (hw _ (List.mem_of_getElem? (i := 42) rfl)) (hw _ (List.mem_of_getElem? (i := 41) rfl)) (by decide) (by decide)) q22a q22c (g := (mkF m 4 #[.val (.ref a1)] [(.ref a1), (.ref w_RING)])) rfl (by rw [hml]; rfl) (Steps.refl _) (argsL := []) (rest := [(.ref w_RING)]) (lenOf pd___I rfl) rfl (by show 2 * 0 + _ ≤ _; exact Nat.le_of_eq rfl) (hb hby d2_4) (fun _ _ => ⟨rfl, e21, (by decide : 0 + 0 ≤ _), (by decide : 0 + 0 ≤ _)⟩)
    dsimp only [Pt.U, Pt.locs, Pt.cells, Pt.slots] at X22 l22 y22 z22 st22 hQ22
    subst l22 y22 z22
    obtain ⟨rfl, N22q, e22⟩ := hQ22
    have N22 := Fr.app N0 N22q
    refine ogo (fun t k => st22.trans k) ?_
    show OwnEnds _ _ _ _ _ _ _ (T22.setTop (mkF m 7 #[.val (.ref a1)] [(.int (4 : Int32)), (.ref w_RING)]))
    refine ogo (fun t k => XS.iconst X22.here hx rfl (hb hby d2_7) k) ?_
    show OwnEnds _ _ _ _ _ _ _ (T22.setTop (mkF m 8 #[.val (.ref a1)] [(.int (1 : Int32)), (.int (4 : Int32)), (.ref w_RING)]))
    refine ogo (fun t k => XS.iadd X22.here hx rfl (hb hby d2_8) rfl k) ?_
    show OwnEnds _ _ _ _ _ _ _ (T22.setTop (mkF m 9 #[.val (.ref a1)] [(.int (5 : Int32)), (.ref w_RING)]))
    obtain ⟨T23, X23, e23, st23⟩ := getS2 X22 hx hZ hown (host := "") (Or.inl (hw _ (List.mem_of_getElem? (i := 34) rfl))) Via.refl e22 (S_RING.ext OLD.2) (g := (mkF m 9 #[.val (.ref a1)] [(.int (5 : Int32)), (.ref w_RING)])) rfl (hb hby d2_9)
    refine ogo st23 ?_
    show OwnEnds _ _ _ _ _ _ _ (T23.setTop (mkF m 12 #[.val (.ref a1)] [(.ref w_RING), (.int (5 : Int32)), (.ref w_RING)]))
    obtain ⟨ak24, cl24, Ar24, Aq24, As24, An24, Ah24, Ag24⟩ := id (Av.ext V_RING OLD.2)
    refine ogo (fun t k => X23.arraylength hx (by rw [e23]; exact Ar24.1) (State.isArrayOf_alike hZ.alike Ar24.2.1) (g := (mkF m 12 #[.val (.ref a1)] [(.ref w_RING), (.int (5 : Int32)), (.ref w_RING)])) rfl rfl (hb hby d2_12) t k) ?_
    rw [len_of As24 An24]
    show OwnEnds _ _ _ _ _ _ _ (T23.setTop (mkF m 13 #[.val (.ref a1)] [(.int (12 : Int32)), (.int (5 : Int32)), (.ref w_RING)]))
    refine ogo (fun t k => iremM (g := (mkF m 13 #[.val (.ref a1)] [(.int (12 : Int32)), (.int (5 : Int32)), (.ref w_RING)])) X23 hx rfl (hb hby d2_13) rfl (by decide) k) ?_
    show OwnEnds _ _ _ _ _ _ _ (T23.setTop (mkF m 14 #[.val (.ref a1)] [(.int (5 : Int32)), (.ref w_RING)]))
    obtain ⟨ak25, cl25, Ar25, Aq25, As25, An25, Ah25, Ag25⟩ := id (Av.ext V_RING OLD.2)
    refine ogo (fun t k => X23.aaload hx (j := (5 : Int32)) (v := (.ref w_E3)) (by rw [e23]; exact Ar25.1) (State.isArrayOf_alike hZ.alike Ar25.2.1) rfl Ar25.2.2 (inb_of As25 ⟨by decide, by decide⟩) (Ah25.at (inb_of As25 ⟨by decide, by decide⟩) rfl) (g := (mkF m 14 #[.val (.ref a1)] [(.int (5 : Int32)), (.ref w_RING)])) rfl rfl (hb hby d2_14) t k) ?_
    show OwnEnds _ _ _ _ _ _ _ (T23.setTop (mkF m 15 #[.val (.ref a1)] [(.ref w_E3)]))
    refine endA X23 hx hlk hret rfl rfl (hb hby d2_15) (by decide) (by decide) ?_
    show Q2 Z a1 (4 : Int32) w_N1 w_N2 w_N3 w_E1 w_E2 w_E3 w_S1 w_S2 w_S3 w_W1 w_W2 w_W3 w_RING h0 n0 _ T23.heap _
    rw [e23]
    exact ⟨by simp [own_res], N22, rfl⟩
  · show OwnEnds _ _ _ _ _ _ _ (s₁.setTop (mkF m 0 #[.val (.ref a1)] []))
    obtain ⟨T26, X26, e26, st26⟩ := getS2 X0 hx hZ hown (host := "") (Or.inl (hw _ (List.mem_of_getElem? (i := 34) rfl))) Via.refl e0 (S_RING.ext OLD.2) (g := (mkF m 0 #[.val (.ref a1)] [])) rfl (hb hby d2_0)
    refine ogo st26 ?_
    show OwnEnds _ _ _ _ _ _ _ (T26.setTop (mkF m 3 #[.val (.ref a1)] [(.ref w_RING)]))
    refine ogo (fun t k => XS.aloadN X26.here hx rfl (hb hby d2_3) rfl rfl k) ?_
    show OwnEnds _ _ _ _ _ _ _ (T26.setTop (mkF m 4 #[.val (.ref a1)] [(.ref a1), (.ref w_RING)]))
    obtain ⟨cq27, kq27, q27a, q27b, q27c⟩ := isOf hZ e26 E_a
    obtain ⟨v27, _, ⟨T27, L27, k27, n27⟩, -, X27, ⟨Lc27, hQ27, l27, y27, z27⟩, st27⟩ := X26.virtualBackUp hx (x := (⟨"com/example/ramparts/ramparts/tile/Segment", "ordinal", "()I"⟩ : MethodName)) (y := (⟨"java/lang/Enum", "ordinal", "()I"⟩ : MethodName)) (owner := "java/lang/Enum") hown (mvT hZ (hw _ (List.mem_of_getElem? (i := 36) rfl))) (mvT hZ (hw _ (List.mem_of_getElem? (i := 37) rfl))) (mvT hZ (hw _ (List.mem_of_getElem? (i := 38) rfl))) (by decide) (mvT hZ (hw _ (List.mem_of_getElem? (i := 40) rfl))) (mvT hZ (hw _ (List.mem_of_getElem? (i := 39) rfl))) (backOf (W := 1) (rm1 l Z a0 hw [] a1 (5 : Int32) h0 n0 Z0 F_o) hZ (hw _ (List.mem_of_getElem? (i := 42) rfl)) (hw _ (List.mem_of_getElem? (i := 41) rfl)) (by decide) (by decide)) q27a q27c (g := (mkF m 4 #[.val (.ref a1)] [(.ref a1), (.ref w_RING)])) rfl (by rw [hml]; rfl) (Steps.refl _) (argsL := []) (rest := [(.ref w_RING)]) (lenOf pd___I rfl) rfl (by show 2 * 0 + _ ≤ _; exact Nat.le_of_eq rfl) (hb hby d2_4) (fun _ _ => ⟨rfl, e26, (by decide : 0 + 0 ≤ _), (by decide : 0 + 0 ≤ _)⟩)
    dsimp only [Pt.U, Pt.locs, Pt.cells, Pt.slots] at X27 l27 y27 z27 st27 hQ27
    subst l27 y27 z27
    obtain ⟨rfl, N27q, e27⟩ := hQ27
    have N27 := Fr.app N0 N27q
    refine ogo (fun t k => st27.trans k) ?_
    show OwnEnds _ _ _ _ _ _ _ (T27.setTop (mkF m 7 #[.val (.ref a1)] [(.int (5 : Int32)), (.ref w_RING)]))
    refine ogo (fun t k => XS.iconst X27.here hx rfl (hb hby d2_7) k) ?_
    show OwnEnds _ _ _ _ _ _ _ (T27.setTop (mkF m 8 #[.val (.ref a1)] [(.int (1 : Int32)), (.int (5 : Int32)), (.ref w_RING)]))
    refine ogo (fun t k => XS.iadd X27.here hx rfl (hb hby d2_8) rfl k) ?_
    show OwnEnds _ _ _ _ _ _ _ (T27.setTop (mkF m 9 #[.val (.ref a1)] [(.int (6 : Int32)), (.ref w_RING)]))
    obtain ⟨T28, X28, e28, st28⟩ := getS2 X27 hx hZ hown (host := "") (Or.inl (hw _ (List.mem_of_getElem? (i := 34) rfl))) Via.refl e27 (S_RING.ext OLD.2) (g := (mkF m 9 #[.val (.ref a1)] [(.int (6 : Int32)), (.ref w_RING)])) rfl (hb hby d2_9)
    refine ogo st28 ?_
    show OwnEnds _ _ _ _ _ _ _ (T28.setTop (mkF m 12 #[.val (.ref a1)] [(.ref w_RING), (.int (6 : Int32)), (.ref w_RING)]))
    obtain ⟨ak29, cl29, Ar29, Aq29, As29, An29, Ah29, Ag29⟩ := id (Av.ext V_RING OLD.2)
    refine ogo (fun t k => X28.arraylength hx (by rw [e28]; exact Ar29.1) (State.isArrayOf_alike hZ.alike Ar29.2.1) (g := (mkF m 12 #[.val (.ref a1)] [(.ref w_RING), (.int (6 : Int32)), (.ref w_RING)])) rfl rfl (hb hby d2_12) t k) ?_
    rw [len_of As29 An29]
    show OwnEnds _ _ _ _ _ _ _ (T28.setTop (mkF m 13 #[.val (.ref a1)] [(.int (12 : Int32)), (.int (6 : Int32)), (.ref w_RING)]))
    refine ogo (fun t k => iremM (g := (mkF m 13 #[.val (.ref a1)] [(.int (12 : Int32)), (.int (6 : Int32)), (.ref w_RING)])) X28 hx rfl (hb hby d2_13) rfl (by decide) k) ?_
    show OwnEnds _ _ _ _ _ _ _ (T28.setTop (mkF m 14 #[.val (.ref a1)] [(.int (6 : Int32)), (.ref w_RING)]))
    obtain ⟨ak30, cl30, Ar30, Aq30, As30, An30, Ah30, Ag30⟩ := id (Av.ext V_RING OLD.2)
    refine ogo (fun t k => X28.aaload hx (j := (6 : Int32)) (v := (.ref w_S1)) (by rw [e28]; exact Ar30.1) (State.isArrayOf_alike hZ.alike Ar30.2.1) rfl Ar30.2.2 (inb_of As30 ⟨by decide, by decide⟩) (Ah30.at (inb_of As30 ⟨by decide, by decide⟩) rfl) (g := (mkF m 14 #[.val (.ref a1)] [(.int (6 : Int32)), (.ref w_RING)])) rfl rfl (hb hby d2_14) t k) ?_
    show OwnEnds _ _ _ _ _ _ _ (T28.setTop (mkF m 15 #[.val (.ref a1)] [(.ref w_S1)]))
    refine endA X28 hx hlk hret rfl rfl (hb hby d2_15) (by decide) (by decide) ?_
    show Q2 Z a1 (5 : Int32) w_N1 w_N2 w_N3 w_E1 w_E2 w_E3 w_S1 w_S2 w_S3 w_W1 w_W2 w_W3 w_RING h0 n0 _ T28.heap _
    rw [e28]
    exact ⟨by simp [own_res], N27, rfl⟩
  · show OwnEnds _ _ _ _ _ _ _ (s₁.setTop (mkF m 0 #[.val (.ref a1)] []))
    obtain ⟨T31, X31, e31, st31⟩ := getS2 X0 hx hZ hown (host := "") (Or.inl (hw _ (List.mem_of_getElem? (i := 34) rfl))) Via.refl e0 (S_RING.ext OLD.2) (g := (mkF m 0 #[.val (.ref a1)] [])) rfl (hb hby d2_0)
    refine ogo st31 ?_
    show OwnEnds _ _ _ _ _ _ _ (T31.setTop (mkF m 3 #[.val (.ref a1)] [(.ref w_RING)]))
    refine ogo (fun t k => XS.aloadN X31.here hx rfl (hb hby d2_3) rfl rfl k) ?_
    show OwnEnds _ _ _ _ _ _ _ (T31.setTop (mkF m 4 #[.val (.ref a1)] [(.ref a1), (.ref w_RING)]))
    obtain ⟨cq32, kq32, q32a, q32b, q32c⟩ := isOf hZ e31 E_a
    obtain ⟨v32, _, ⟨T32, L32, k32, n32⟩, -, X32, ⟨Lc32, hQ32, l32, y32, z32⟩, st32⟩ := X31.virtualBackUp hx (x := (⟨"com/example/ramparts/ramparts/tile/Segment", "ordinal", "()I"⟩ : MethodName)) (y := (⟨"java/lang/Enum", "ordinal", "()I"⟩ : MethodName)) (owner := "java/lang/Enum") hown (mvT hZ (hw _ (List.mem_of_getElem? (i := 36) rfl))) (mvT hZ (hw _ (List.mem_of_getElem? (i := 37) rfl))) (mvT hZ (hw _ (List.mem_of_getElem? (i := 38) rfl))) (by decide) (mvT hZ (hw _ (List.mem_of_getElem? (i := 40) rfl))) (mvT hZ (hw _ (List.mem_of_getElem? (i := 39) rfl))) (backOf (W := 1) (rm1 l Z a0 hw [] a1 (6 : Int32) h0 n0 Z0 F_o) hZ (hw _ (List.mem_of_getElem? (i := 42) rfl)) (hw _ (List.mem_of_getElem? (i := 41) rfl)) (by decide) (by decide)) q32a q32c (g := (mkF m 4 #[.val (.ref a1)] [(.ref a1), (.ref w_RING)])) rfl (by rw [hml]; rfl) (Steps.refl _) (argsL := []) (rest := [(.ref w_RING)]) (lenOf pd___I rfl) rfl (by show 2 * 0 + _ ≤ _; exact Nat.le_of_eq rfl) (hb hby d2_4) (fun _ _ => ⟨rfl, e31, (by decide : 0 + 0 ≤ _), (by decide : 0 + 0 ≤ _)⟩)
    dsimp only [Pt.U, Pt.locs, Pt.cells, Pt.slots] at X32 l32 y32 z32 st32 hQ32
    subst l32 y32 z32
    obtain ⟨rfl, N32q, e32⟩ := hQ32
    have N32 := Fr.app N0 N32q
    refine ogo (fun t k => st32.trans k) ?_
    show OwnEnds _ _ _ _ _ _ _ (T32.setTop (mkF m 7 #[.val (.ref a1)] [(.int (6 : Int32)), (.ref w_RING)]))
    refine ogo (fun t k => XS.iconst X32.here hx rfl (hb hby d2_7) k) ?_
    show OwnEnds _ _ _ _ _ _ _ (T32.setTop (mkF m 8 #[.val (.ref a1)] [(.int (1 : Int32)), (.int (6 : Int32)), (.ref w_RING)]))
    refine ogo (fun t k => XS.iadd X32.here hx rfl (hb hby d2_8) rfl k) ?_
    show OwnEnds _ _ _ _ _ _ _ (T32.setTop (mkF m 9 #[.val (.ref a1)] [(.int (7 : Int32)), (.ref w_RING)]))
    obtain ⟨T33, X33, e33, st33⟩ := getS2 X32 hx hZ hown (host := "") (Or.inl (hw _ (List.mem_of_getElem? (i := 34) rfl))) Via.refl e32 (S_RING.ext OLD.2) (g := (mkF m 9 #[.val (.ref a1)] [(.int (7 : Int32)), (.ref w_RING)])) rfl (hb hby d2_9)
    refine ogo st33 ?_
    show OwnEnds _ _ _ _ _ _ _ (T33.setTop (mkF m 12 #[.val (.ref a1)] [(.ref w_RING), (.int (7 : Int32)), (.ref w_RING)]))
    obtain ⟨ak34, cl34, Ar34, Aq34, As34, An34, Ah34, Ag34⟩ := id (Av.ext V_RING OLD.2)
    refine ogo (fun t k => X33.arraylength hx (by rw [e33]; exact Ar34.1) (State.isArrayOf_alike hZ.alike Ar34.2.1) (g := (mkF m 12 #[.val (.ref a1)] [(.ref w_RING), (.int (7 : Int32)), (.ref w_RING)])) rfl rfl (hb hby d2_12) t k) ?_
    rw [len_of As34 An34]
    show OwnEnds _ _ _ _ _ _ _ (T33.setTop (mkF m 13 #[.val (.ref a1)] [(.int (12 : Int32)), (.int (7 : Int32)), (.ref w_RING)]))
    refine ogo (fun t k => iremM (g := (mkF m 13 #[.val (.ref a1)] [(.int (12 : Int32)), (.int (7 : Int32)), (.ref w_RING)])) X33 hx rfl (hb hby d2_13) rfl (by decide) k) ?_
    show OwnEnds _ _ _ _ _ _ _ (T33.setTop (mkF m 14 #[.val (.ref a1)] [(.int (7 : Int32)), (.ref w_RING)]))
    obtain ⟨ak35, cl35, Ar35, Aq35, As35, An35, Ah35, Ag35⟩ := id (Av.ext V_RING OLD.2)
    refine ogo (fun t k => X33.aaload hx (j := (7 : Int32)) (v := (.ref w_S2)) (by rw [e33]; exact Ar35.1) (State.isArrayOf_alike hZ.alike Ar35.2.1) rfl Ar35.2.2 (inb_of As35 ⟨by decide, by decide⟩) (Ah35.at (inb_of As35 ⟨by decide, by decide⟩) rfl) (g := (mkF m 14 #[.val (.ref a1)] [(.int (7 : Int32)), (.ref w_RING)])) rfl rfl (hb hby d2_14) t k) ?_
    show OwnEnds _ _ _ _ _ _ _ (T33.setTop (mkF m 15 #[.val (.ref a1)] [(.ref w_S2)]))
    refine endA X33 hx hlk hret rfl rfl (hb hby d2_15) (by decide) (by decide) ?_
    show Q2 Z a1 (6 : Int32) w_N1 w_N2 w_N3 w_E1 w_E2 w_E3 w_S1 w_S2 w_S3 w_W1 w_W2 w_W3 w_RING h0 n0 _ T33.heap _
    rw [e33]
    exact ⟨by simp [own_res], N32, rfl⟩
  · show OwnEnds _ _ _ _ _ _ _ (s₁.setTop (mkF m 0 #[.val (.ref a1)] []))
    obtain ⟨T36, X36, e36, st36⟩ := getS2 X0 hx hZ hown (host := "") (Or.inl (hw _ (List.mem_of_getElem? (i := 34) rfl))) Via.refl e0 (S_RING.ext OLD.2) (g := (mkF m 0 #[.val (.ref a1)] [])) rfl (hb hby d2_0)
    refine ogo st36 ?_
    show OwnEnds _ _ _ _ _ _ _ (T36.setTop (mkF m 3 #[.val (.ref a1)] [(.ref w_RING)]))
    refine ogo (fun t k => XS.aloadN X36.here hx rfl (hb hby d2_3) rfl rfl k) ?_
    show OwnEnds _ _ _ _ _ _ _ (T36.setTop (mkF m 4 #[.val (.ref a1)] [(.ref a1), (.ref w_RING)]))
    obtain ⟨cq37, kq37, q37a, q37b, q37c⟩ := isOf hZ e36 E_a
    obtain ⟨v37, _, ⟨T37, L37, k37, n37⟩, -, X37, ⟨Lc37, hQ37, l37, y37, z37⟩, st37⟩ := X36.virtualBackUp hx (x := (⟨"com/example/ramparts/ramparts/tile/Segment", "ordinal", "()I"⟩ : MethodName)) (y := (⟨"java/lang/Enum", "ordinal", "()I"⟩ : MethodName)) (owner := "java/lang/Enum") hown (mvT hZ (hw _ (List.mem_of_getElem? (i := 36) rfl))) (mvT hZ (hw _ (List.mem_of_getElem? (i := 37) rfl))) (mvT hZ (hw _ (List.mem_of_getElem? (i := 38) rfl))) (by decide) (mvT hZ (hw _ (List.mem_of_getElem? (i := 40) rfl))) (mvT hZ (hw _ (List.mem_of_getElem? (i := 39) rfl))) (backOf (W := 1) (rm1 l Z a0 hw [] a1 (7 : Int32) h0 n0 Z0 F_o) hZ (hw _ (List.mem_of_getElem? (i := 42) rfl)) (hw _ (List.mem_of_getElem? (i := 41) rfl)) (by decide) (by decide)) q37a q37c (g := (mkF m 4 #[.val (.ref a1)] [(.ref a1), (.ref w_RING)])) rfl (by rw [hml]; rfl) (Steps.refl _) (argsL := []) (rest := [(.ref w_RING)]) (lenOf pd___I rfl) rfl (by show 2 * 0 + _ ≤ _; exact Nat.le_of_eq rfl) (hb hby d2_4) (fun _ _ => ⟨rfl, e36, (by decide : 0 + 0 ≤ _), (by decide : 0 + 0 ≤ _)⟩)
    dsimp only [Pt.U, Pt.locs, Pt.cells, Pt.slots] at X37 l37 y37 z37 st37 hQ37
    subst l37 y37 z37
    obtain ⟨rfl, N37q, e37⟩ := hQ37
    have N37 := Fr.app N0 N37q
    refine ogo (fun t k => st37.trans k) ?_
    show OwnEnds _ _ _ _ _ _ _ (T37.setTop (mkF m 7 #[.val (.ref a1)] [(.int (7 : Int32)), (.ref w_RING)]))
    refine ogo (fun t k => XS.iconst X37.here hx rfl (hb hby d2_7) k) ?_
    show OwnEnds _ _ _ _ _ _ _ (T37.setTop (mkF m 8 #[.val (.ref a1)] [(.int (1 : Int32)), (.int (7 : Int32)), (.ref w_RING)]))
    refine ogo (fun t k => XS.iadd X37.here hx rfl (hb hby d2_8) rfl k) ?_
    show OwnEnds _ _ _ _ _ _ _ (T37.setTop (mkF m 9 #[.val (.ref a1)] [(.int (8 : Int32)), (.ref w_RING)]))
    obtain ⟨T38, X38, e38, st38⟩ := getS2 X37 hx hZ hown (host := "") (Or.inl (hw _ (List.mem_of_getElem? (i := 34) rfl))) Via.refl e37 (S_RING.ext OLD.2) (g := (mkF m 9 #[.val (.ref a1)] [(.int (8 : Int32)), (.ref w_RING)])) rfl (hb hby d2_9)
    refine ogo st38 ?_
    show OwnEnds _ _ _ _ _ _ _ (T38.setTop (mkF m 12 #[.val (.ref a1)] [(.ref w_RING), (.int (8 : Int32)), (.ref w_RING)]))
    obtain ⟨ak39, cl39, Ar39, Aq39, As39, An39, Ah39, Ag39⟩ := id (Av.ext V_RING OLD.2)
    refine ogo (fun t k => X38.arraylength hx (by rw [e38]; exact Ar39.1) (State.isArrayOf_alike hZ.alike Ar39.2.1) (g := (mkF m 12 #[.val (.ref a1)] [(.ref w_RING), (.int (8 : Int32)), (.ref w_RING)])) rfl rfl (hb hby d2_12) t k) ?_
    rw [len_of As39 An39]
    show OwnEnds _ _ _ _ _ _ _ (T38.setTop (mkF m 13 #[.val (.ref a1)] [(.int (12 : Int32)), (.int (8 : Int32)), (.ref w_RING)]))
    refine ogo (fun t k => iremM (g := (mkF m 13 #[.val (.ref a1)] [(.int (12 : Int32)), (.int (8 : Int32)), (.ref w_RING)])) X38 hx rfl (hb hby d2_13) rfl (by decide) k) ?_
    show OwnEnds _ _ _ _ _ _ _ (T38.setTop (mkF m 14 #[.val (.ref a1)] [(.int (8 : Int32)), (.ref w_RING)]))
    obtain ⟨ak40, cl40, Ar40, Aq40, As40, An40, Ah40, Ag40⟩ := id (Av.ext V_RING OLD.2)
    refine ogo (fun t k => X38.aaload hx (j := (8 : Int32)) (v := (.ref w_S3)) (by rw [e38]; exact Ar40.1) (State.isArrayOf_alike hZ.alike Ar40.2.1) rfl Ar40.2.2 (inb_of As40 ⟨by decide, by decide⟩) (Ah40.at (inb_of As40 ⟨by decide, by decide⟩) rfl) (g := (mkF m 14 #[.val (.ref a1)] [(.int (8 : Int32)), (.ref w_RING)])) rfl rfl (hb hby d2_14) t k) ?_
    show OwnEnds _ _ _ _ _ _ _ (T38.setTop (mkF m 15 #[.val (.ref a1)] [(.ref w_S3)]))
    refine endA X38 hx hlk hret rfl rfl (hb hby d2_15) (by decide) (by decide) ?_
    show Q2 Z a1 (7 : Int32) w_N1 w_N2 w_N3 w_E1 w_E2 w_E3 w_S1 w_S2 w_S3 w_W1 w_W2 w_W3 w_RING h0 n0 _ T38.heap _
    rw [e38]
    exact ⟨by simp [own_res], N37, rfl⟩
  · show OwnEnds _ _ _ _ _ _ _ (s₁.setTop (mkF m 0 #[.val (.ref a1)] []))
    obtain ⟨T41, X41, e41, st41⟩ := getS2 X0 hx hZ hown (host := "") (Or.inl (hw _ (List.mem_of_getElem? (i := 34) rfl))) Via.refl e0 (S_RING.ext OLD.2) (g := (mkF m 0 #[.val (.ref a1)] [])) rfl (hb hby d2_0)
    refine ogo st41 ?_
    show OwnEnds _ _ _ _ _ _ _ (T41.setTop (mkF m 3 #[.val (.ref a1)] [(.ref w_RING)]))
    refine ogo (fun t k => XS.aloadN X41.here hx rfl (hb hby d2_3) rfl rfl k) ?_
    show OwnEnds _ _ _ _ _ _ _ (T41.setTop (mkF m 4 #[.val (.ref a1)] [(.ref a1), (.ref w_RING)]))
    obtain ⟨cq42, kq42, q42a, q42b, q42c⟩ := isOf hZ e41 E_a
    obtain ⟨v42, _, ⟨T42, L42, k42, n42⟩, -, X42, ⟨Lc42, hQ42, l42, y42, z42⟩, st42⟩ := X41.virtualBackUp hx (x := (⟨"com/example/ramparts/ramparts/tile/Segment", "ordinal", "()I"⟩ : MethodName)) (y := (⟨"java/lang/Enum", "ordinal", "()I"⟩ : MethodName)) (owner := "java/lang/Enum") hown (mvT hZ (hw _ (List.mem_of_getElem? (i := 36) rfl))) (mvT hZ (hw _ (List.mem_of_getElem? (i := 37) rfl))) (mvT hZ (hw _ (List.mem_of_getElem? (i := 38) rfl))) (by decide) (mvT hZ (hw _ (List.mem_of_getElem? (i := 40) rfl))) (mvT hZ (hw _ (List.mem_of_getElem? (i := 39) rfl))) (backOf (W := 1) (rm1 l Z a0 hw [] a1 (8 : Int32) h0 n0 Z0 F_o) hZ (hw _ (List.mem_of_getElem? (i := 42) rfl)) (hw _ (List.mem_of_getElem? (i := 41) rfl)) (by decide) (by decide)) q42a q42c (g := (mkF m 4 #[.val (.ref a1)] [(.ref a1), (.ref w_RING)])) rfl (by rw [hml]; rfl) (Steps.refl _) (argsL := []) (rest := [(.ref w_RING)]) (lenOf pd___I rfl) rfl (by show 2 * 0 + _ ≤ _; exact Nat.le_of_eq rfl) (hb hby d2_4) (fun _ _ => ⟨rfl, e41, (by decide : 0 + 0 ≤ _), (by decide : 0 + 0 ≤ _)⟩)
    dsimp only [Pt.U, Pt.locs, Pt.cells, Pt.slots] at X42 l42 y42 z42 st42 hQ42
    subst l42 y42 z42
    obtain ⟨rfl, N42q, e42⟩ := hQ42
    have N42 := Fr.app N0 N42q
    refine ogo (fun t k => st42.trans k) ?_
    show OwnEnds _ _ _ _ _ _ _ (T42.setTop (mkF m 7 #[.val (.ref a1)] [(.int (8 : Int32)), (.ref w_RING)]))
    refine ogo (fun t k => XS.iconst X42.here hx rfl (hb hby d2_7) k) ?_
    show OwnEnds _ _ _ _ _ _ _ (T42.setTop (mkF m 8 #[.val (.ref a1)] [(.int (1 : Int32)), (.int (8 : Int32)), (.ref w_RING)]))
    refine ogo (fun t k => XS.iadd X42.here hx rfl (hb hby d2_8) rfl k) ?_
    show OwnEnds _ _ _ _ _ _ _ (T42.setTop (mkF m 9 #[.val (.ref a1)] [(.int (9 : Int32)), (.ref w_RING)]))
    obtain ⟨T43, X43, e43, st43⟩ := getS2 X42 hx hZ hown (host := "") (Or.inl (hw _ (List.mem_of_getElem? (i := 34) rfl))) Via.refl e42 (S_RING.ext OLD.2) (g := (mkF m 9 #[.val (.ref a1)] [(.int (9 : Int32)), (.ref w_RING)])) rfl (hb hby d2_9)
    refine ogo st43 ?_
    show OwnEnds _ _ _ _ _ _ _ (T43.setTop (mkF m 12 #[.val (.ref a1)] [(.ref w_RING), (.int (9 : Int32)), (.ref w_RING)]))
    obtain ⟨ak44, cl44, Ar44, Aq44, As44, An44, Ah44, Ag44⟩ := id (Av.ext V_RING OLD.2)
    refine ogo (fun t k => X43.arraylength hx (by rw [e43]; exact Ar44.1) (State.isArrayOf_alike hZ.alike Ar44.2.1) (g := (mkF m 12 #[.val (.ref a1)] [(.ref w_RING), (.int (9 : Int32)), (.ref w_RING)])) rfl rfl (hb hby d2_12) t k) ?_
    rw [len_of As44 An44]
    show OwnEnds _ _ _ _ _ _ _ (T43.setTop (mkF m 13 #[.val (.ref a1)] [(.int (12 : Int32)), (.int (9 : Int32)), (.ref w_RING)]))
    refine ogo (fun t k => iremM (g := (mkF m 13 #[.val (.ref a1)] [(.int (12 : Int32)), (.int (9 : Int32)), (.ref w_RING)])) X43 hx rfl (hb hby d2_13) rfl (by decide) k) ?_
    show OwnEnds _ _ _ _ _ _ _ (T43.setTop (mkF m 14 #[.val (.ref a1)] [(.int (9 : Int32)), (.ref w_RING)]))
    obtain ⟨ak45, cl45, Ar45, Aq45, As45, An45, Ah45, Ag45⟩ := id (Av.ext V_RING OLD.2)
    refine ogo (fun t k => X43.aaload hx (j := (9 : Int32)) (v := (.ref w_W1)) (by rw [e43]; exact Ar45.1) (State.isArrayOf_alike hZ.alike Ar45.2.1) rfl Ar45.2.2 (inb_of As45 ⟨by decide, by decide⟩) (Ah45.at (inb_of As45 ⟨by decide, by decide⟩) rfl) (g := (mkF m 14 #[.val (.ref a1)] [(.int (9 : Int32)), (.ref w_RING)])) rfl rfl (hb hby d2_14) t k) ?_
    show OwnEnds _ _ _ _ _ _ _ (T43.setTop (mkF m 15 #[.val (.ref a1)] [(.ref w_W1)]))
    refine endA X43 hx hlk hret rfl rfl (hb hby d2_15) (by decide) (by decide) ?_
    show Q2 Z a1 (8 : Int32) w_N1 w_N2 w_N3 w_E1 w_E2 w_E3 w_S1 w_S2 w_S3 w_W1 w_W2 w_W3 w_RING h0 n0 _ T43.heap _
    rw [e43]
    exact ⟨by simp [own_res], N42, rfl⟩
  · show OwnEnds _ _ _ _ _ _ _ (s₁.setTop (mkF m 0 #[.val (.ref a1)] []))
    obtain ⟨T46, X46, e46, st46⟩ := getS2 X0 hx hZ hown (host := "") (Or.inl (hw _ (List.mem_of_getElem? (i := 34) rfl))) Via.refl e0 (S_RING.ext OLD.2) (g := (mkF m 0 #[.val (.ref a1)] [])) rfl (hb hby d2_0)
    refine ogo st46 ?_
    show OwnEnds _ _ _ _ _ _ _ (T46.setTop (mkF m 3 #[.val (.ref a1)] [(.ref w_RING)]))
    refine ogo (fun t k => XS.aloadN X46.here hx rfl (hb hby d2_3) rfl rfl k) ?_
    show OwnEnds _ _ _ _ _ _ _ (T46.setTop (mkF m 4 #[.val (.ref a1)] [(.ref a1), (.ref w_RING)]))
    obtain ⟨cq47, kq47, q47a, q47b, q47c⟩ := isOf hZ e46 E_a
    obtain ⟨v47, _, ⟨T47, L47, k47, n47⟩, -, X47, ⟨Lc47, hQ47, l47, y47, z47⟩, st47⟩ := X46.virtualBackUp hx (x := (⟨"com/example/ramparts/ramparts/tile/Segment", "ordinal", "()I"⟩ : MethodName)) (y := (⟨"java/lang/Enum", "ordinal", "()I"⟩ : MethodName)) (owner := "java/lang/Enum") hown (mvT hZ (hw _ (List.mem_of_getElem? (i := 36) rfl))) (mvT hZ (hw _ (List.mem_of_getElem? (i := 37) rfl))) (mvT hZ (hw _ (List.mem_of_getElem? (i := 38) rfl))) (by decide) (mvT hZ (hw _ (List.mem_of_getElem? (i := 40) rfl))) (mvT hZ (hw _ (List.mem_of_getElem? (i := 39) rfl))) (backOf (W := 1) (rm1 l Z a0 hw [] a1 (9 : Int32) h0 n0 Z0 F_o) hZ (hw _ (List.mem_of_getElem? (i := 42) rfl)) (hw _ (List.mem_of_getElem? (i := 41) rfl)) (by decide) (by decide)) q47a q47c (g := (mkF m 4 #[.val (.ref a1)] [(.ref a1), (.ref w_RING)])) rfl (by rw [hml]; rfl) (Steps.refl _) (argsL := []) (rest := [(.ref w_RING)]) (lenOf pd___I rfl) rfl (by show 2 * 0 + _ ≤ _; exact Nat.le_of_eq rfl) (hb hby d2_4) (fun _ _ => ⟨rfl, e46, (by decide : 0 + 0 ≤ _), (by decide : 0 + 0 ≤ _)⟩)
    dsimp only [Pt.U, Pt.locs, Pt.cells, Pt.slots] at X47 l47 y47 z47 st47 hQ47
    subst l47 y47 z47
    obtain ⟨rfl, N47q, e47⟩ := hQ47
    have N47 := Fr.app N0 N47q
    refine ogo (fun t k => st47.trans k) ?_
    show OwnEnds _ _ _ _ _ _ _ (T47.setTop (mkF m 7 #[.val (.ref a1)] [(.int (9 : Int32)), (.ref w_RING)]))
    refine ogo (fun t k => XS.iconst X47.here hx rfl (hb hby d2_7) k) ?_
    show OwnEnds _ _ _ _ _ _ _ (T47.setTop (mkF m 8 #[.val (.ref a1)] [(.int (1 : Int32)), (.int (9 : Int32)), (.ref w_RING)]))
    refine ogo (fun t k => XS.iadd X47.here hx rfl (hb hby d2_8) rfl k) ?_
    show OwnEnds _ _ _ _ _ _ _ (T47.setTop (mkF m 9 #[.val (.ref a1)] [(.int (10 : Int32)), (.ref w_RING)]))
    obtain ⟨T48, X48, e48, st48⟩ := getS2 X47 hx hZ hown (host := "") (Or.inl (hw _ (List.mem_of_getElem? (i := 34) rfl))) Via.refl e47 (S_RING.ext OLD.2) (g := (mkF m 9 #[.val (.ref a1)] [(.int (10 : Int32)), (.ref w_RING)])) rfl (hb hby d2_9)
    refine ogo st48 ?_
    show OwnEnds _ _ _ _ _ _ _ (T48.setTop (mkF m 12 #[.val (.ref a1)] [(.ref w_RING), (.int (10 : Int32)), (.ref w_RING)]))
    obtain ⟨ak49, cl49, Ar49, Aq49, As49, An49, Ah49, Ag49⟩ := id (Av.ext V_RING OLD.2)
    refine ogo (fun t k => X48.arraylength hx (by rw [e48]; exact Ar49.1) (State.isArrayOf_alike hZ.alike Ar49.2.1) (g := (mkF m 12 #[.val (.ref a1)] [(.ref w_RING), (.int (10 : Int32)), (.ref w_RING)])) rfl rfl (hb hby d2_12) t k) ?_
    rw [len_of As49 An49]
    show OwnEnds _ _ _ _ _ _ _ (T48.setTop (mkF m 13 #[.val (.ref a1)] [(.int (12 : Int32)), (.int (10 : Int32)), (.ref w_RING)]))
    refine ogo (fun t k => iremM (g := (mkF m 13 #[.val (.ref a1)] [(.int (12 : Int32)), (.int (10 : Int32)), (.ref w_RING)])) X48 hx rfl (hb hby d2_13) rfl (by decide) k) ?_
    show OwnEnds _ _ _ _ _ _ _ (T48.setTop (mkF m 14 #[.val (.ref a1)] [(.int (10 : Int32)), (.ref w_RING)]))
    obtain ⟨ak50, cl50, Ar50, Aq50, As50, An50, Ah50, Ag50⟩ := id (Av.ext V_RING OLD.2)
    refine ogo (fun t k => X48.aaload hx (j := (10 : Int32)) (v := (.ref w_W2)) (by rw [e48]; exact Ar50.1) (State.isArrayOf_alike hZ.alike Ar50.2.1) rfl Ar50.2.2 (inb_of As50 ⟨by decide, by decide⟩) (Ah50.at (inb_of As50 ⟨by decide, by decide⟩) rfl) (g := (mkF m 14 #[.val (.ref a1)] [(.int (10 : Int32)), (.ref w_RING)])) rfl rfl (hb hby d2_14) t k) ?_
    show OwnEnds _ _ _ _ _ _ _ (T48.setTop (mkF m 15 #[.val (.ref a1)] [(.ref w_W2)]))
    refine endA X48 hx hlk hret rfl rfl (hb hby d2_15) (by decide) (by decide) ?_
    show Q2 Z a1 (9 : Int32) w_N1 w_N2 w_N3 w_E1 w_E2 w_E3 w_S1 w_S2 w_S3 w_W1 w_W2 w_W3 w_RING h0 n0 _ T48.heap _
    rw [e48]
    exact ⟨by simp [own_res], N47, rfl⟩
  · show OwnEnds _ _ _ _ _ _ _ (s₁.setTop (mkF m 0 #[.val (.ref a1)] []))
    obtain ⟨T51, X51, e51, st51⟩ := getS2 X0 hx hZ hown (host := "") (Or.inl (hw _ (List.mem_of_getElem? (i := 34) rfl))) Via.refl e0 (S_RING.ext OLD.2) (g := (mkF m 0 #[.val (.ref a1)] [])) rfl (hb hby d2_0)
    refine ogo st51 ?_
    show OwnEnds _ _ _ _ _ _ _ (T51.setTop (mkF m 3 #[.val (.ref a1)] [(.ref w_RING)]))
    refine ogo (fun t k => XS.aloadN X51.here hx rfl (hb hby d2_3) rfl rfl k) ?_
    show OwnEnds _ _ _ _ _ _ _ (T51.setTop (mkF m 4 #[.val (.ref a1)] [(.ref a1), (.ref w_RING)]))
    obtain ⟨cq52, kq52, q52a, q52b, q52c⟩ := isOf hZ e51 E_a
    obtain ⟨v52, _, ⟨T52, L52, k52, n52⟩, -, X52, ⟨Lc52, hQ52, l52, y52, z52⟩, st52⟩ := X51.virtualBackUp hx (x := (⟨"com/example/ramparts/ramparts/tile/Segment", "ordinal", "()I"⟩ : MethodName)) (y := (⟨"java/lang/Enum", "ordinal", "()I"⟩ : MethodName)) (owner := "java/lang/Enum") hown (mvT hZ (hw _ (List.mem_of_getElem? (i := 36) rfl))) (mvT hZ (hw _ (List.mem_of_getElem? (i := 37) rfl))) (mvT hZ (hw _ (List.mem_of_getElem? (i := 38) rfl))) (by decide) (mvT hZ (hw _ (List.mem_of_getElem? (i := 40) rfl))) (mvT hZ (hw _ (List.mem_of_getElem? (i := 39) rfl))) (backOf (W := 1) (rm1 l Z a0 hw [] a1 (10 : Int32) h0 n0 Z0 F_o) hZ (hw _ (List.mem_of_getElem? (i := 42) rfl)) (hw _ (List.mem_of_getElem? (i := 41) rfl)) (by decide) (by decide)) q52a q52c (g := (mkF m 4 #[.val (.ref a1)] [(.ref a1), (.ref w_RING)])) rfl (by rw [hml]; rfl) (Steps.refl _) (argsL := []) (rest := [(.ref w_RING)]) (lenOf pd___I rfl) rfl (by show 2 * 0 + _ ≤ _; exact Nat.le_of_eq rfl) (hb hby d2_4) (fun _ _ => ⟨rfl, e51, (by decide : 0 + 0 ≤ _), (by decide : 0 + 0 ≤ _)⟩)
    dsimp only [Pt.U, Pt.locs, Pt.cells, Pt.slots] at X52 l52 y52 z52 st52 hQ52
    subst l52 y52 z52
    obtain ⟨rfl, N52q, e52⟩ := hQ52
    have N52 := Fr.app N0 N52q
    refine ogo (fun t k => st52.trans k) ?_
    show OwnEnds _ _ _ _ _ _ _ (T52.setTop (mkF m 7 #[.val (.ref a1)] [(.int (10 : Int32)), (.ref w_RING)]))
    refine ogo (fun t k => XS.iconst X52.here hx rfl (hb hby d2_7) k) ?_
    show OwnEnds _ _ _ _ _ _ _ (T52.setTop (mkF m 8 #[.val (.ref a1)] [(.int (1 : Int32)), (.int (10 : Int32)), (.ref w_RING)]))
    refine ogo (fun t k => XS.iadd X52.here hx rfl (hb hby d2_8) rfl k) ?_
    show OwnEnds _ _ _ _ _ _ _ (T52.setTop (mkF m 9 #[.val (.ref a1)] [(.int (11 : Int32)), (.ref w_RING)]))
    obtain ⟨T53, X53, e53, st53⟩ := getS2 X52 hx hZ hown (host := "") (Or.inl (hw _ (List.mem_of_getElem? (i := 34) rfl))) Via.refl e52 (S_RING.ext OLD.2) (g := (mkF m 9 #[.val (.ref a1)] [(.int (11 : Int32)), (.ref w_RING)])) rfl (hb hby d2_9)
    refine ogo st53 ?_
    show OwnEnds _ _ _ _ _ _ _ (T53.setTop (mkF m 12 #[.val (.ref a1)] [(.ref w_RING), (.int (11 : Int32)), (.ref w_RING)]))
    obtain ⟨ak54, cl54, Ar54, Aq54, As54, An54, Ah54, Ag54⟩ := id (Av.ext V_RING OLD.2)
    refine ogo (fun t k => X53.arraylength hx (by rw [e53]; exact Ar54.1) (State.isArrayOf_alike hZ.alike Ar54.2.1) (g := (mkF m 12 #[.val (.ref a1)] [(.ref w_RING), (.int (11 : Int32)), (.ref w_RING)])) rfl rfl (hb hby d2_12) t k) ?_
    rw [len_of As54 An54]
    show OwnEnds _ _ _ _ _ _ _ (T53.setTop (mkF m 13 #[.val (.ref a1)] [(.int (12 : Int32)), (.int (11 : Int32)), (.ref w_RING)]))
    refine ogo (fun t k => iremM (g := (mkF m 13 #[.val (.ref a1)] [(.int (12 : Int32)), (.int (11 : Int32)), (.ref w_RING)])) X53 hx rfl (hb hby d2_13) rfl (by decide) k) ?_
    show OwnEnds _ _ _ _ _ _ _ (T53.setTop (mkF m 14 #[.val (.ref a1)] [(.int (11 : Int32)), (.ref w_RING)]))
    obtain ⟨ak55, cl55, Ar55, Aq55, As55, An55, Ah55, Ag55⟩ := id (Av.ext V_RING OLD.2)
    refine ogo (fun t k => X53.aaload hx (j := (11 : Int32)) (v := (.ref w_W3)) (by rw [e53]; exact Ar55.1) (State.isArrayOf_alike hZ.alike Ar55.2.1) rfl Ar55.2.2 (inb_of As55 ⟨by decide, by decide⟩) (Ah55.at (inb_of As55 ⟨by decide, by decide⟩) rfl) (g := (mkF m 14 #[.val (.ref a1)] [(.int (11 : Int32)), (.ref w_RING)])) rfl rfl (hb hby d2_14) t k) ?_
    show OwnEnds _ _ _ _ _ _ _ (T53.setTop (mkF m 15 #[.val (.ref a1)] [(.ref w_W3)]))
    refine endA X53 hx hlk hret rfl rfl (hb hby d2_15) (by decide) (by decide) ?_
    show Q2 Z a1 (10 : Int32) w_N1 w_N2 w_N3 w_E1 w_E2 w_E3 w_S1 w_S2 w_S3 w_W1 w_W2 w_W3 w_RING h0 n0 _ T53.heap _
    rw [e53]
    exact ⟨by simp [own_res], N52, rfl⟩
  · show OwnEnds _ _ _ _ _ _ _ (s₁.setTop (mkF m 0 #[.val (.ref a1)] []))
    obtain ⟨T56, X56, e56, st56⟩ := getS2 X0 hx hZ hown (host := "") (Or.inl (hw _ (List.mem_of_getElem? (i := 34) rfl))) Via.refl e0 (S_RING.ext OLD.2) (g := (mkF m 0 #[.val (.ref a1)] [])) rfl (hb hby d2_0)
    refine ogo st56 ?_
    show OwnEnds _ _ _ _ _ _ _ (T56.setTop (mkF m 3 #[.val (.ref a1)] [(.ref w_RING)]))
    refine ogo (fun t k => XS.aloadN X56.here hx rfl (hb hby d2_3) rfl rfl k) ?_
    show OwnEnds _ _ _ _ _ _ _ (T56.setTop (mkF m 4 #[.val (.ref a1)] [(.ref a1), (.ref w_RING)]))
    obtain ⟨cq57, kq57, q57a, q57b, q57c⟩ := isOf hZ e56 E_a
    obtain ⟨v57, _, ⟨T57, L57, k57, n57⟩, -, X57, ⟨Lc57, hQ57, l57, y57, z57⟩, st57⟩ := X56.virtualBackUp hx (x := (⟨"com/example/ramparts/ramparts/tile/Segment", "ordinal", "()I"⟩ : MethodName)) (y := (⟨"java/lang/Enum", "ordinal", "()I"⟩ : MethodName)) (owner := "java/lang/Enum") hown (mvT hZ (hw _ (List.mem_of_getElem? (i := 36) rfl))) (mvT hZ (hw _ (List.mem_of_getElem? (i := 37) rfl))) (mvT hZ (hw _ (List.mem_of_getElem? (i := 38) rfl))) (by decide) (mvT hZ (hw _ (List.mem_of_getElem? (i := 40) rfl))) (mvT hZ (hw _ (List.mem_of_getElem? (i := 39) rfl))) (backOf (W := 1) (rm1 l Z a0 hw [] a1 (11 : Int32) h0 n0 Z0 F_o) hZ (hw _ (List.mem_of_getElem? (i := 42) rfl)) (hw _ (List.mem_of_getElem? (i := 41) rfl)) (by decide) (by decide)) q57a q57c (g := (mkF m 4 #[.val (.ref a1)] [(.ref a1), (.ref w_RING)])) rfl (by rw [hml]; rfl) (Steps.refl _) (argsL := []) (rest := [(.ref w_RING)]) (lenOf pd___I rfl) rfl (by show 2 * 0 + _ ≤ _; exact Nat.le_of_eq rfl) (hb hby d2_4) (fun _ _ => ⟨rfl, e56, (by decide : 0 + 0 ≤ _), (by decide : 0 + 0 ≤ _)⟩)
    dsimp only [Pt.U, Pt.locs, Pt.cells, Pt.slots] at X57 l57 y57 z57 st57 hQ57
    subst l57 y57 z57
    obtain ⟨rfl, N57q, e57⟩ := hQ57
    have N57 := Fr.app N0 N57q
    refine ogo (fun t k => st57.trans k) ?_
    show OwnEnds _ _ _ _ _ _ _ (T57.setTop (mkF m 7 #[.val (.ref a1)] [(.int (11 : Int32)), (.ref w_RING)]))
    refine ogo (fun t k => XS.iconst X57.here hx rfl (hb hby d2_7) k) ?_
    show OwnEnds _ _ _ _ _ _ _ (T57.setTop (mkF m 8 #[.val (.ref a1)] [(.int (1 : Int32)), (.int (11 : Int32)), (.ref w_RING)]))
    refine ogo (fun t k => XS.iadd X57.here hx rfl (hb hby d2_8) rfl k) ?_
    show OwnEnds _ _ _ _ _ _ _ (T57.setTop (mkF m 9 #[.val (.ref a1)] [(.int (12 : Int32)), (.ref w_RING)]))
    obtain ⟨T58, X58, e58, st58⟩ := getS2 X57 hx hZ hown (host := "") (Or.inl (hw _ (List.mem_of_getElem? (i := 34) rfl))) Via.refl e57 (S_RING.ext OLD.2) (g := (mkF m 9 #[.val (.ref a1)] [(.int (12 : Int32)), (.ref w_RING)])) rfl (hb hby d2_9)
    refine ogo st58 ?_
    show OwnEnds _ _ _ _ _ _ _ (T58.setTop (mkF m 12 #[.val (.ref a1)] [(.ref w_RING), (.int (12 : Int32)), (.ref w_RING)]))
    obtain ⟨ak59, cl59, Ar59, Aq59, As59, An59, Ah59, Ag59⟩ := id (Av.ext V_RING OLD.2)
    refine ogo (fun t k => X58.arraylength hx (by rw [e58]; exact Ar59.1) (State.isArrayOf_alike hZ.alike Ar59.2.1) (g := (mkF m 12 #[.val (.ref a1)] [(.ref w_RING), (.int (12 : Int32)), (.ref w_RING)])) rfl rfl (hb hby d2_12) t k) ?_
    rw [len_of As59 An59]
    show OwnEnds _ _ _ _ _ _ _ (T58.setTop (mkF m 13 #[.val (.ref a1)] [(.int (12 : Int32)), (.int (12 : Int32)), (.ref w_RING)]))
    refine ogo (fun t k => iremM (g := (mkF m 13 #[.val (.ref a1)] [(.int (12 : Int32)), (.int (12 : Int32)), (.ref w_RING)])) X58 hx rfl (hb hby d2_13) rfl (by decide) k) ?_
    show OwnEnds _ _ _ _ _ _ _ (T58.setTop (mkF m 14 #[.val (.ref a1)] [(.int (0 : Int32)), (.ref w_RING)]))
    obtain ⟨ak60, cl60, Ar60, Aq60, As60, An60, Ah60, Ag60⟩ := id (Av.ext V_RING OLD.2)
    refine ogo (fun t k => X58.aaload hx (j := (0 : Int32)) (v := (.ref w_N1)) (by rw [e58]; exact Ar60.1) (State.isArrayOf_alike hZ.alike Ar60.2.1) rfl Ar60.2.2 (inb_of As60 ⟨by decide, by decide⟩) (Ah60.at (inb_of As60 ⟨by decide, by decide⟩) rfl) (g := (mkF m 14 #[.val (.ref a1)] [(.int (0 : Int32)), (.ref w_RING)])) rfl rfl (hb hby d2_14) t k) ?_
    show OwnEnds _ _ _ _ _ _ _ (T58.setTop (mkF m 15 #[.val (.ref a1)] [(.ref w_N1)]))
    refine endA X58 hx hlk hret rfl rfl (hb hby d2_15) (by decide) (by decide) ?_
    show Q2 Z a1 (11 : Int32) w_N1 w_N2 w_N3 w_E1 w_E2 w_E3 w_S1 w_S2 w_S3 w_W1 w_W2 w_W3 w_RING h0 n0 _ T58.heap _
    rw [e58]
    exact ⟨by simp [own_res], N57, rfl⟩
theorem pn_SegmentNextPinLaw : plainName "com/example/ramparts/ramparts/tile/SegmentNextPinLaw" = true := by first | (simp [plainName, overriddenIn]; done) | decide +kernel
theorem pd___Lcom_example_ramparts_ramparts_tile_Segment_ : parseMethodDescriptor "()Lcom/example/ramparts/ramparts/tile/Segment;" = some ⟨[], some (.object "com/example/ramparts/ramparts/tile/Segment")⟩ := by decide +kernel
theorem ef_0 (m : MethodId) (x0 : Int32) : entryFrame m #[(.int x0)] maxLocals = mkF m 0 #[.val (.int x0), .unset, .unset, .unset] [] := by first | (simp [entryFrame, mkF, argsToLocals, Value.category, maxLocals]; done) | rfl
def Q0 (Z : State) (p0 : Int32) (w_N1 w_N2 w_N3 w_E1 w_E2 w_E3 w_S1 w_S2 w_S3 w_W1 w_W2 w_W3 w_RING : Addr) (h0 : Heap) (n0 : Nat) (v : Option Value) (h : Heap) (L : List Loc) : Prop := v = some (.int 1) ∧ Fr n0 L
set_option maxRecDepth 65536 in
set_option maxHeartbeats 40000000 in
theorem tn0_k {p : Program} {l : Launch} {e : Env} {s : State} {m : MethodId} {args : Array Value} {below : List Frame} {meth : Method} {c : Code} {locs : List Loc} (Z : State) (a0 : Array Value) (hw : ∀ d ∈ tables_1, d.before a0 Z = true) (p0 : Int32) (w_N1 w_N2 w_N3 w_E1 w_E2 w_E3 w_S1 w_S2 w_S3 w_W1 w_W2 w_W3 w_RING : Addr) (h0 : Heap) (n0 : Nat) (OLD : Old Z n0 h0) (S_N1 : Sta Z Z.heap "com/example/ramparts/ramparts/tile/Segment" "N1" "Lcom/example/ramparts/ramparts/tile/Segment;" (.ref w_N1)) (E_N1 : Exa Z Z.heap w_N1 "com/example/ramparts/ramparts/tile/Segment") (F_ordinal_N1 : Fld Z Z.heap w_N1 "java/lang/Enum" "ordinal" "I" (.int (0 : Int32))) (S_N2 : Sta Z Z.heap "com/example/ramparts/ramparts/tile/Segment" "N2" "Lcom/example/ramparts/ramparts/tile/Segment;" (.ref w_N2)) (E_N2 : Exa Z Z.heap w_N2 "com/example/ramparts/ramparts/tile/Segment") (F_ordinal_N2 : Fld Z Z.heap w_N2 "java/lang/Enum" "ordinal" "I" (.int (1 : Int32))) (S_N3 : Sta Z Z.heap "com/example/ramparts/ramparts/tile/Segment" "N3" "Lcom/example/ramparts/ramparts/tile/Segment;" (.ref w_N3)) (E_N3 : Exa Z Z.heap w_N3 "com/example/ramparts/ramparts/tile/Segment") (F_ordinal_N3 : Fld Z Z.heap w_N3 "java/lang/Enum" "ordinal" "I" (.int (2 : Int32))) (S_E1 : Sta Z Z.heap "com/example/ramparts/ramparts/tile/Segment" "E1" "Lcom/example/ramparts/ramparts/tile/Segment;" (.ref w_E1)) (E_E1 : Exa Z Z.heap w_E1 "com/example/ramparts/ramparts/tile/Segment") (F_ordinal_E1 : Fld Z Z.heap w_E1 "java/lang/Enum" "ordinal" "I" (.int (3 : Int32))) (S_E2 : Sta Z Z.heap "com/example/ramparts/ramparts/tile/Segment" "E2" "Lcom/example/ramparts/ramparts/tile/Segment;" (.ref w_E2)) (E_E2 : Exa Z Z.heap w_E2 "com/example/ramparts/ramparts/tile/Segment") (F_ordinal_E2 : Fld Z Z.heap w_E2 "java/lang/Enum" "ordinal" "I" (.int (4 : Int32))) (S_E3 : Sta Z Z.heap "com/example/ramparts/ramparts/tile/Segment" "E3" "Lcom/example/ramparts/ramparts/tile/Segment;" (.ref w_E3)) (E_E3 : Exa Z Z.heap w_E3 "com/example/ramparts/ramparts/tile/Segment") (F_ordinal_E3 : Fld Z Z.heap w_E3 "java/lang/Enum" "ordinal" "I" (.int (5 : Int32))) (S_S1 : Sta Z Z.heap "com/example/ramparts/ramparts/tile/Segment" "S1" "Lcom/example/ramparts/ramparts/tile/Segment;" (.ref w_S1)) (E_S1 : Exa Z Z.heap w_S1 "com/example/ramparts/ramparts/tile/Segment") (F_ordinal_S1 : Fld Z Z.heap w_S1 "java/lang/Enum" "ordinal" "I" (.int (6 : Int32))) (S_S2 : Sta Z Z.heap "com/example/ramparts/ramparts/tile/Segment" "S2" "Lcom/example/ramparts/ramparts/tile/Segment;" (.ref w_S2)) (E_S2 : Exa Z Z.heap w_S2 "com/example/ramparts/ramparts/tile/Segment") (F_ordinal_S2 : Fld Z Z.heap w_S2 "java/lang/Enum" "ordinal" "I" (.int (7 : Int32))) (S_S3 : Sta Z Z.heap "com/example/ramparts/ramparts/tile/Segment" "S3" "Lcom/example/ramparts/ramparts/tile/Segment;" (.ref w_S3)) (E_S3 : Exa Z Z.heap w_S3 "com/example/ramparts/ramparts/tile/Segment") (F_ordinal_S3 : Fld Z Z.heap w_S3 "java/lang/Enum" "ordinal" "I" (.int (8 : Int32))) (S_W1 : Sta Z Z.heap "com/example/ramparts/ramparts/tile/Segment" "W1" "Lcom/example/ramparts/ramparts/tile/Segment;" (.ref w_W1)) (E_W1 : Exa Z Z.heap w_W1 "com/example/ramparts/ramparts/tile/Segment") (F_ordinal_W1 : Fld Z Z.heap w_W1 "java/lang/Enum" "ordinal" "I" (.int (9 : Int32))) (S_W2 : Sta Z Z.heap "com/example/ramparts/ramparts/tile/Segment" "W2" "Lcom/example/ramparts/ramparts/tile/Segment;" (.ref w_W2)) (E_W2 : Exa Z Z.heap w_W2 "com/example/ramparts/ramparts/tile/Segment") (F_ordinal_W2 : Fld Z Z.heap w_W2 "java/lang/Enum" "ordinal" "I" (.int (10 : Int32))) (S_W3 : Sta Z Z.heap "com/example/ramparts/ramparts/tile/Segment" "W3" "Lcom/example/ramparts/ramparts/tile/Segment;" (.ref w_W3)) (E_W3 : Exa Z Z.heap w_W3 "com/example/ramparts/ramparts/tile/Segment") (F_ordinal_W3 : Fld Z Z.heap w_W3 "java/lang/Enum" "ordinal" "I" (.int (11 : Int32))) (S_RING : Sta Z Z.heap "com/example/ramparts/ramparts/tile/Segment" "RING" "[Lcom/example/ramparts/ramparts/tile/Segment;" (.ref w_RING)) (V_RING : ∃ k, Arv Z Z.heap w_RING k (.object "com/example/ramparts/ramparts/tile/Segment") (12 : Int32) [(.ref w_N1), (.ref w_N2), (.ref w_N3), (.ref w_E1), (.ref w_E2), (.ref w_E3), (.ref w_S1), (.ref w_S2), (.ref w_S3), (.ref w_W1), (.ref w_W2), (.ref w_W3)] .null) (T87 : State) (h87 : Heap) (b1 : Addr) (k1 : ClassId) (b39 : Addr) (k39 : ClassId) (hx : p.tables.exec = Jvm.exec) (hZ : Z.Warmed39 s.vm) (hby : c.code = code) (hml : c.maxLocals = 4) (hown : s.vm.findClass "com/example/ramparts/ramparts/tile/SegmentNextPinLaw" = some m.cls) (hnm : meth.name = "law") (hlk : meth.locks = false) (hret : meth.sig.returnType = some .boolean) (X87 : Stand p l e room_1 s m args below meth c T87 locs 2 24) (e87 : T87.heap = h87) (N89 : Fr n0 locs) (OLD89 : Old Z n0 h87) (K89 : Keep h0 h87 []) (Z89 : n0 ≤ h87.size) (f88 : Arv Z h87 b1 k1 (.object "com/example/ramparts/ramparts/tile/Segment") (12 : Int32) [(.ref w_N1), (.ref w_N2), (.ref w_N3), (.ref w_E1), (.ref w_E2), (.ref w_E3), (.ref w_S1), (.ref w_S2), (.ref w_S3), (.ref w_W1), (.ref w_W2), (.ref w_W3)] .null) (O1 : Ovr Z k1 "com/example/ramparts/ramparts/tile/Segment") (V87 : Arv Z h87 b39 k39 (.object "com/example/ramparts/ramparts/tile/Segment") (12 : Int32) [(.ref w_N2), (.ref w_N3), (.ref w_E1), (.ref w_E2), (.ref w_E3), (.ref w_S1), (.ref w_S2), (.ref w_S3), (.ref w_W1), (.ref w_W2), (.ref w_W3), (.ref w_N1)] .null) (O39 : Ovr Z k39 "com/example/ramparts/ramparts/tile/Segment") (ne_b1_b39 : b1 ≠ b39) (q_b1 : n0 ≤ b1) (q_b39 : n0 ≤ b39) (sz_b1 : h0.size ≤ b1) (sz_b39 : h0.size ≤ b39) :
    OwnEnds p.tables e below s 16 128 (Q0 Z p0 w_N1 w_N2 w_N3 w_E1 w_E2 w_E3 w_S1 w_S2 w_S3 w_W1 w_W2 w_W3 w_RING h0 n0) (T87.setTop (mkF m 175 #[.val (.int p0), .val (.ref b1), .val (.ref b39), .unset] [(.int ((p0 &&& (2147483647 : Int32)) % (12 : Int32)))])) := by
  generalize hk : ((p0 &&& (2147483647 : Int32)) % (12 : Int32)) = k
  rcases own_case12 (hk ▸ own_rng p0 12 (by decide)) with rfl | rfl | rfl | rfl | rfl | rfl | rfl | rfl | rfl | rfl | rfl | rfl
  · show OwnEnds _ _ _ _ _ _ _ (T87.setTop (mkF m 175 #[.val (.int p0), .val (.ref b1), .val (.ref b39), .unset] [(.int (0 : Int32))]))
    refine ogo (fun t k => XS.istoreN X87.here hx rfl (hb hby at_175) rfl (l' := #[.val (.int p0), .val (.ref b1), .val (.ref b39), .val (.int (0 : Int32))]) rfl k) ?_
    show OwnEnds _ _ _ _ _ _ _ (T87.setTop (mkF m 176 #[.val (.int p0), .val (.ref b1), .val (.ref b39), .val (.int (0 : Int32))] []))
    refine ogo (fun t k => XS.aloadN X87.here hx rfl (hb hby at_176) rfl rfl k) ?_
    show OwnEnds _ _ _ _ _ _ _ (T87.setTop (mkF m 177 #[.val (.int p0), .val (.ref b1), .val (.ref b39), .val (.int (0 : Int32))] [(.ref b1)]))
    refine ogo (fun t k => XS.iloadN X87.here hx rfl (hb hby at_177) rfl k) ?_
    show OwnEnds _ _ _ _ _ _ _ (T87.setTop (mkF m 178 #[.val (.int p0), .val (.ref b1), .val (.ref b39), .val (.int (0 : Int32))] [(.int (0 : Int32)), (.ref b1)]))
    obtain ⟨cl90, Ar90, Aq90, As90, An90, Ah90, Ag90⟩ := id f88
    refine ogo (fun t k => X87.aaload hx (j := (0 : Int32)) (v := (.ref w_N1)) (by rw [e87]; exact Ar90.1) (State.isArrayOf_alike hZ.alike Ar90.2.1) rfl Ar90.2.2 (inb_of As90 ⟨by decide, by decide⟩) (Ah90.at (inb_of As90 ⟨by decide, by decide⟩) rfl) (g := (mkF m 178 #[.val (.int p0), .val (.ref b1), .val (.ref b39), .val (.int (0 : Int32))] [(.int (0 : Int32)), (.ref b1)])) rfl rfl (hb hby at_178) t k) ?_
    show OwnEnds _ _ _ _ _ _ _ (T87.setTop (mkF m 179 #[.val (.int p0), .val (.ref b1), .val (.ref b39), .val (.int (0 : Int32))] [(.ref w_N1)]))
    obtain ⟨cq91, kq91, q91a, q91b, q91c⟩ := isOf hZ e87 (E_N1.ext OLD89.2)
    obtain ⟨v91, _, ⟨T91, L91, k91, n91⟩, -, X91, ⟨Lc91, hQ91, l91, y91, z91⟩, st91⟩ := X87.virtualBack hx (y := (⟨"com/example/ramparts/ramparts/tile/Segment", "next", "()Lcom/example/ramparts/ramparts/tile/Segment;"⟩ : MethodName)) (z := (⟨"com/example/ramparts/ramparts/tile/Segment", "next", "()Lcom/example/ramparts/ramparts/tile/Segment;"⟩ : MethodName)) hown (mvT hZ (hw _ (List.mem_of_getElem? (i := 29) rfl))) (mvT hZ (hw _ (List.mem_of_getElem? (i := 30) rfl))) (notFace_of_selects (args := #[]) (mvT hZ (hw _ (List.mem_of_getElem? (i := 32) rfl)))) (mvT hZ (hw _ (List.mem_of_getElem? (i := 32) rfl))) (mvT hZ (hw _ (List.mem_of_getElem? (i := 31) rfl))) (by decide) (backOf (W := 0) (rm2 l Z a0 hw [] w_N1 (0 : Int32) w_N1 w_N2 w_N3 w_E1 w_E2 w_E3 w_S1 w_S2 w_S3 w_W1 w_W2 w_W3 w_RING h87 n0 Z89 OLD89 (F_ordinal_N1.ext OLD89.2) (E_N1.ext OLD89.2) (by decide) S_RING V_RING) hZ (hw _ (List.mem_of_getElem? (i := 33) rfl)) (hw _ (List.mem_of_getElem? (i := 3) rfl)) (by decide) (by decide)) q91a q91c (g := (mkF m 179 #[.val (.int p0), .val (.ref b1), .val (.ref b39), .val (.int (0 : Int32))] [(.ref w_N1)])) rfl (by rw [hml]; rfl) (Steps.refl _) (argsL := []) (rest := []) (lenOf pd___Lcom_example_ramparts_ramparts_tile_Segment_ rfl) rfl (by show 2 * 0 + _ ≤ _; exact Nat.le_of_eq rfl) (hb hby at_179) (fun _ _ => ⟨rfl, e87, (by decide : 2 + 0 ≤ _), (by decide : 24 + 0 ≤ _)⟩)
    dsimp only [Pt.U, Pt.locs, Pt.cells, Pt.slots] at X91 l91 y91 z91 st91 hQ91
    subst l91 y91 z91
    obtain ⟨hv91, N91q, e91⟩ := hQ91
    obtain rfl : v91 = some (.ref w_N2) := hv91.trans (by simp [own_res])
    have N91 := Fr.app N89 N91q
    refine ogo (fun t k => st91.trans k) ?_
    show OwnEnds _ _ _ _ _ _ _ (T91.setTop (mkF m 182 #[.val (.int p0), .val (.ref b1), .val (.ref b39), .val (.int (0 : Int32))] [(.ref w_N2)]))
    refine ogo (fun t k => XS.aloadN X91.here hx rfl (hb hby at_182) rfl rfl k) ?_
    show OwnEnds _ _ _ _ _ _ _ (T91.setTop (mkF m 183 #[.val (.int p0), .val (.ref b1), .val (.ref b39), .val (.int (0 : Int32))] [(.ref b39), (.ref w_N2)]))
    refine ogo (fun t k => XS.iloadN X91.here hx rfl (hb hby at_183) rfl k) ?_
    show OwnEnds _ _ _ _ _ _ _ (T91.setTop (mkF m 184 #[.val (.int p0), .val (.ref b1), .val (.ref b39), .val (.int (0 : Int32))] [(.int (0 : Int32)), (.ref b39), (.ref w_N2)]))
    obtain ⟨cl92, Ar92, Aq92, As92, An92, Ah92, Ag92⟩ := id V87
    refine ogo (fun t k => X91.aaload hx (j := (0 : Int32)) (v := (.ref w_N2)) (by rw [e91]; exact Ar92.1) (State.isArrayOf_alike hZ.alike Ar92.2.1) rfl Ar92.2.2 (inb_of As92 ⟨by decide, by decide⟩) (Ah92.at (inb_of As92 ⟨by decide, by decide⟩) rfl) (g := (mkF m 184 #[.val (.int p0), .val (.ref b1), .val (.ref b39), .val (.int (0 : Int32))] [(.int (0 : Int32)), (.ref b39), (.ref w_N2)])) rfl rfl (hb hby at_184) t k) ?_
    show OwnEnds _ _ _ _ _ _ _ (T91.setTop (mkF m 185 #[.val (.int p0), .val (.ref b1), .val (.ref b39), .val (.int (0 : Int32))] [(.ref w_N2), (.ref w_N2)]))
    refine ogo (fun t k => Jvm.RoadKit.acmp (g := (mkF m 185 #[.val (.int p0), .val (.ref b1), .val (.ref b39), .val (.int (0 : Int32))] [(.ref w_N2), (.ref w_N2)])) X91 hx rfl rfl rfl (pc0 := 185) (pc' := 188) (same := true) rfl (hb hby at_185) rfl (decide_eq_true (congrArg Value.ref rfl)) (by decide) (by decide) k) ?_
    show OwnEnds _ _ _ _ _ _ _ (T91.setTop (mkF m 188 #[.val (.int p0), .val (.ref b1), .val (.ref b39), .val (.int (0 : Int32))] []))
    refine ogo (fun t k => XS.iconst X91.here hx rfl (hb hby at_188) k) ?_
    show OwnEnds _ _ _ _ _ _ _ (T91.setTop (mkF m 189 #[.val (.int p0), .val (.ref b1), .val (.ref b39), .val (.int (0 : Int32))] [(.int (1 : Int32))]))
    refine ogo (fun t k => XS.goto X91.here hx rfl (pc0 := 189) (pc' := 193) rfl (hb hby at_189) (by decide) (by decide) k) ?_
    show OwnEnds _ _ _ _ _ _ _ (T91.setTop (mkF m 193 #[.val (.int p0), .val (.ref b1), .val (.ref b39), .val (.int (0 : Int32))] [(.int (1 : Int32))]))
    refine endZ X91 hx hlk hret rfl (hb hby at_193) (by decide) (by decide) ?_
    show Q0 Z p0 w_N1 w_N2 w_N3 w_E1 w_E2 w_E3 w_S1 w_S2 w_S3 w_W1 w_W2 w_W3 w_RING h0 n0 _ T91.heap _
    rw [e91]
    exact ⟨rfl, N91⟩
  · show OwnEnds _ _ _ _ _ _ _ (T87.setTop (mkF m 175 #[.val (.int p0), .val (.ref b1), .val (.ref b39), .unset] [(.int (1 : Int32))]))
    refine ogo (fun t k => XS.istoreN X87.here hx rfl (hb hby at_175) rfl (l' := #[.val (.int p0), .val (.ref b1), .val (.ref b39), .val (.int (1 : Int32))]) rfl k) ?_
    show OwnEnds _ _ _ _ _ _ _ (T87.setTop (mkF m 176 #[.val (.int p0), .val (.ref b1), .val (.ref b39), .val (.int (1 : Int32))] []))
    refine ogo (fun t k => XS.aloadN X87.here hx rfl (hb hby at_176) rfl rfl k) ?_
    show OwnEnds _ _ _ _ _ _ _ (T87.setTop (mkF m 177 #[.val (.int p0), .val (.ref b1), .val (.ref b39), .val (.int (1 : Int32))] [(.ref b1)]))
    refine ogo (fun t k => XS.iloadN X87.here hx rfl (hb hby at_177) rfl k) ?_
    show OwnEnds _ _ _ _ _ _ _ (T87.setTop (mkF m 178 #[.val (.int p0), .val (.ref b1), .val (.ref b39), .val (.int (1 : Int32))] [(.int (1 : Int32)), (.ref b1)]))
    obtain ⟨cl93, Ar93, Aq93, As93, An93, Ah93, Ag93⟩ := id f88
    refine ogo (fun t k => X87.aaload hx (j := (1 : Int32)) (v := (.ref w_N2)) (by rw [e87]; exact Ar93.1) (State.isArrayOf_alike hZ.alike Ar93.2.1) rfl Ar93.2.2 (inb_of As93 ⟨by decide, by decide⟩) (Ah93.at (inb_of As93 ⟨by decide, by decide⟩) rfl) (g := (mkF m 178 #[.val (.int p0), .val (.ref b1), .val (.ref b39), .val (.int (1 : Int32))] [(.int (1 : Int32)), (.ref b1)])) rfl rfl (hb hby at_178) t k) ?_
    show OwnEnds _ _ _ _ _ _ _ (T87.setTop (mkF m 179 #[.val (.int p0), .val (.ref b1), .val (.ref b39), .val (.int (1 : Int32))] [(.ref w_N2)]))
    obtain ⟨cq94, kq94, q94a, q94b, q94c⟩ := isOf hZ e87 (E_N2.ext OLD89.2)
    obtain ⟨v94, _, ⟨T94, L94, k94, n94⟩, -, X94, ⟨Lc94, hQ94, l94, y94, z94⟩, st94⟩ := X87.virtualBack hx (y := (⟨"com/example/ramparts/ramparts/tile/Segment", "next", "()Lcom/example/ramparts/ramparts/tile/Segment;"⟩ : MethodName)) (z := (⟨"com/example/ramparts/ramparts/tile/Segment", "next", "()Lcom/example/ramparts/ramparts/tile/Segment;"⟩ : MethodName)) hown (mvT hZ (hw _ (List.mem_of_getElem? (i := 29) rfl))) (mvT hZ (hw _ (List.mem_of_getElem? (i := 30) rfl))) (notFace_of_selects (args := #[]) (mvT hZ (hw _ (List.mem_of_getElem? (i := 32) rfl)))) (mvT hZ (hw _ (List.mem_of_getElem? (i := 32) rfl))) (mvT hZ (hw _ (List.mem_of_getElem? (i := 31) rfl))) (by decide) (backOf (W := 0) (rm2 l Z a0 hw [] w_N2 (1 : Int32) w_N1 w_N2 w_N3 w_E1 w_E2 w_E3 w_S1 w_S2 w_S3 w_W1 w_W2 w_W3 w_RING h87 n0 Z89 OLD89 (F_ordinal_N2.ext OLD89.2) (E_N2.ext OLD89.2) (by decide) S_RING V_RING) hZ (hw _ (List.mem_of_getElem? (i := 33) rfl)) (hw _ (List.mem_of_getElem? (i := 3) rfl)) (by decide) (by decide)) q94a q94c (g := (mkF m 179 #[.val (.int p0), .val (.ref b1), .val (.ref b39), .val (.int (1 : Int32))] [(.ref w_N2)])) rfl (by rw [hml]; rfl) (Steps.refl _) (argsL := []) (rest := []) (lenOf pd___Lcom_example_ramparts_ramparts_tile_Segment_ rfl) rfl (by show 2 * 0 + _ ≤ _; exact Nat.le_of_eq rfl) (hb hby at_179) (fun _ _ => ⟨rfl, e87, (by decide : 2 + 0 ≤ _), (by decide : 24 + 0 ≤ _)⟩)
    dsimp only [Pt.U, Pt.locs, Pt.cells, Pt.slots] at X94 l94 y94 z94 st94 hQ94
    subst l94 y94 z94
    obtain ⟨hv94, N94q, e94⟩ := hQ94
    obtain rfl : v94 = some (.ref w_N3) := hv94.trans (by simp [own_res])
    have N94 := Fr.app N89 N94q
    refine ogo (fun t k => st94.trans k) ?_
    show OwnEnds _ _ _ _ _ _ _ (T94.setTop (mkF m 182 #[.val (.int p0), .val (.ref b1), .val (.ref b39), .val (.int (1 : Int32))] [(.ref w_N3)]))
    refine ogo (fun t k => XS.aloadN X94.here hx rfl (hb hby at_182) rfl rfl k) ?_
    show OwnEnds _ _ _ _ _ _ _ (T94.setTop (mkF m 183 #[.val (.int p0), .val (.ref b1), .val (.ref b39), .val (.int (1 : Int32))] [(.ref b39), (.ref w_N3)]))
    refine ogo (fun t k => XS.iloadN X94.here hx rfl (hb hby at_183) rfl k) ?_
    show OwnEnds _ _ _ _ _ _ _ (T94.setTop (mkF m 184 #[.val (.int p0), .val (.ref b1), .val (.ref b39), .val (.int (1 : Int32))] [(.int (1 : Int32)), (.ref b39), (.ref w_N3)]))
    obtain ⟨cl95, Ar95, Aq95, As95, An95, Ah95, Ag95⟩ := id V87
    refine ogo (fun t k => X94.aaload hx (j := (1 : Int32)) (v := (.ref w_N3)) (by rw [e94]; exact Ar95.1) (State.isArrayOf_alike hZ.alike Ar95.2.1) rfl Ar95.2.2 (inb_of As95 ⟨by decide, by decide⟩) (Ah95.at (inb_of As95 ⟨by decide, by decide⟩) rfl) (g := (mkF m 184 #[.val (.int p0), .val (.ref b1), .val (.ref b39), .val (.int (1 : Int32))] [(.int (1 : Int32)), (.ref b39), (.ref w_N3)])) rfl rfl (hb hby at_184) t k) ?_
    show OwnEnds _ _ _ _ _ _ _ (T94.setTop (mkF m 185 #[.val (.int p0), .val (.ref b1), .val (.ref b39), .val (.int (1 : Int32))] [(.ref w_N3), (.ref w_N3)]))
    refine ogo (fun t k => Jvm.RoadKit.acmp (g := (mkF m 185 #[.val (.int p0), .val (.ref b1), .val (.ref b39), .val (.int (1 : Int32))] [(.ref w_N3), (.ref w_N3)])) X94 hx rfl rfl rfl (pc0 := 185) (pc' := 188) (same := true) rfl (hb hby at_185) rfl (decide_eq_true (congrArg Value.ref rfl)) (by decide) (by decide) k) ?_
    show OwnEnds _ _ _ _ _ _ _ (T94.setTop (mkF m 188 #[.val (.int p0), .val (.ref b1), .val (.ref b39), .val (.int (1 : Int32))] []))
    refine ogo (fun t k => XS.iconst X94.here hx rfl (hb hby at_188) k) ?_
    show OwnEnds _ _ _ _ _ _ _ (T94.setTop (mkF m 189 #[.val (.int p0), .val (.ref b1), .val (.ref b39), .val (.int (1 : Int32))] [(.int (1 : Int32))]))
    refine ogo (fun t k => XS.goto X94.here hx rfl (pc0 := 189) (pc' := 193) rfl (hb hby at_189) (by decide) (by decide) k) ?_
    show OwnEnds _ _ _ _ _ _ _ (T94.setTop (mkF m 193 #[.val (.int p0), .val (.ref b1), .val (.ref b39), .val (.int (1 : Int32))] [(.int (1 : Int32))]))
    refine endZ X94 hx hlk hret rfl (hb hby at_193) (by decide) (by decide) ?_
    show Q0 Z p0 w_N1 w_N2 w_N3 w_E1 w_E2 w_E3 w_S1 w_S2 w_S3 w_W1 w_W2 w_W3 w_RING h0 n0 _ T94.heap _
    rw [e94]
    exact ⟨rfl, N94⟩
  · show OwnEnds _ _ _ _ _ _ _ (T87.setTop (mkF m 175 #[.val (.int p0), .val (.ref b1), .val (.ref b39), .unset] [(.int (2 : Int32))]))
    refine ogo (fun t k => XS.istoreN X87.here hx rfl (hb hby at_175) rfl (l' := #[.val (.int p0), .val (.ref b1), .val (.ref b39), .val (.int (2 : Int32))]) rfl k) ?_
    show OwnEnds _ _ _ _ _ _ _ (T87.setTop (mkF m 176 #[.val (.int p0), .val (.ref b1), .val (.ref b39), .val (.int (2 : Int32))] []))
    refine ogo (fun t k => XS.aloadN X87.here hx rfl (hb hby at_176) rfl rfl k) ?_
    show OwnEnds _ _ _ _ _ _ _ (T87.setTop (mkF m 177 #[.val (.int p0), .val (.ref b1), .val (.ref b39), .val (.int (2 : Int32))] [(.ref b1)]))
    refine ogo (fun t k => XS.iloadN X87.here hx rfl (hb hby at_177) rfl k) ?_
    show OwnEnds _ _ _ _ _ _ _ (T87.setTop (mkF m 178 #[.val (.int p0), .val (.ref b1), .val (.ref b39), .val (.int (2 : Int32))] [(.int (2 : Int32)), (.ref b1)]))
    obtain ⟨cl96, Ar96, Aq96, As96, An96, Ah96, Ag96⟩ := id f88
    refine ogo (fun t k => X87.aaload hx (j := (2 : Int32)) (v := (.ref w_N3)) (by rw [e87]; exact Ar96.1) (State.isArrayOf_alike hZ.alike Ar96.2.1) rfl Ar96.2.2 (inb_of As96 ⟨by decide, by decide⟩) (Ah96.at (inb_of As96 ⟨by decide, by decide⟩) rfl) (g := (mkF m 178 #[.val (.int p0), .val (.ref b1), .val (.ref b39), .val (.int (2 : Int32))] [(.int (2 : Int32)), (.ref b1)])) rfl rfl (hb hby at_178) t k) ?_
    show OwnEnds _ _ _ _ _ _ _ (T87.setTop (mkF m 179 #[.val (.int p0), .val (.ref b1), .val (.ref b39), .val (.int (2 : Int32))] [(.ref w_N3)]))
    obtain ⟨cq97, kq97, q97a, q97b, q97c⟩ := isOf hZ e87 (E_N3.ext OLD89.2)
    obtain ⟨v97, _, ⟨T97, L97, k97, n97⟩, -, X97, ⟨Lc97, hQ97, l97, y97, z97⟩, st97⟩ := X87.virtualBack hx (y := (⟨"com/example/ramparts/ramparts/tile/Segment", "next", "()Lcom/example/ramparts/ramparts/tile/Segment;"⟩ : MethodName)) (z := (⟨"com/example/ramparts/ramparts/tile/Segment", "next", "()Lcom/example/ramparts/ramparts/tile/Segment;"⟩ : MethodName)) hown (mvT hZ (hw _ (List.mem_of_getElem? (i := 29) rfl))) (mvT hZ (hw _ (List.mem_of_getElem? (i := 30) rfl))) (notFace_of_selects (args := #[]) (mvT hZ (hw _ (List.mem_of_getElem? (i := 32) rfl)))) (mvT hZ (hw _ (List.mem_of_getElem? (i := 32) rfl))) (mvT hZ (hw _ (List.mem_of_getElem? (i := 31) rfl))) (by decide) (backOf (W := 0) (rm2 l Z a0 hw [] w_N3 (2 : Int32) w_N1 w_N2 w_N3 w_E1 w_E2 w_E3 w_S1 w_S2 w_S3 w_W1 w_W2 w_W3 w_RING h87 n0 Z89 OLD89 (F_ordinal_N3.ext OLD89.2) (E_N3.ext OLD89.2) (by decide) S_RING V_RING) hZ (hw _ (List.mem_of_getElem? (i := 33) rfl)) (hw _ (List.mem_of_getElem? (i := 3) rfl)) (by decide) (by decide)) q97a q97c (g := (mkF m 179 #[.val (.int p0), .val (.ref b1), .val (.ref b39), .val (.int (2 : Int32))] [(.ref w_N3)])) rfl (by rw [hml]; rfl) (Steps.refl _) (argsL := []) (rest := []) (lenOf pd___Lcom_example_ramparts_ramparts_tile_Segment_ rfl) rfl (by show 2 * 0 + _ ≤ _; exact Nat.le_of_eq rfl) (hb hby at_179) (fun _ _ => ⟨rfl, e87, (by decide : 2 + 0 ≤ _), (by decide : 24 + 0 ≤ _)⟩)
    dsimp only [Pt.U, Pt.locs, Pt.cells, Pt.slots] at X97 l97 y97 z97 st97 hQ97
    subst l97 y97 z97
    obtain ⟨hv97, N97q, e97⟩ := hQ97
    obtain rfl : v97 = some (.ref w_E1) := hv97.trans (by simp [own_res])
    have N97 := Fr.app N89 N97q
    refine ogo (fun t k => st97.trans k) ?_
    show OwnEnds _ _ _ _ _ _ _ (T97.setTop (mkF m 182 #[.val (.int p0), .val (.ref b1), .val (.ref b39), .val (.int (2 : Int32))] [(.ref w_E1)]))
    refine ogo (fun t k => XS.aloadN X97.here hx rfl (hb hby at_182) rfl rfl k) ?_
    show OwnEnds _ _ _ _ _ _ _ (T97.setTop (mkF m 183 #[.val (.int p0), .val (.ref b1), .val (.ref b39), .val (.int (2 : Int32))] [(.ref b39), (.ref w_E1)]))
    refine ogo (fun t k => XS.iloadN X97.here hx rfl (hb hby at_183) rfl k) ?_
    show OwnEnds _ _ _ _ _ _ _ (T97.setTop (mkF m 184 #[.val (.int p0), .val (.ref b1), .val (.ref b39), .val (.int (2 : Int32))] [(.int (2 : Int32)), (.ref b39), (.ref w_E1)]))
    obtain ⟨cl98, Ar98, Aq98, As98, An98, Ah98, Ag98⟩ := id V87
    refine ogo (fun t k => X97.aaload hx (j := (2 : Int32)) (v := (.ref w_E1)) (by rw [e97]; exact Ar98.1) (State.isArrayOf_alike hZ.alike Ar98.2.1) rfl Ar98.2.2 (inb_of As98 ⟨by decide, by decide⟩) (Ah98.at (inb_of As98 ⟨by decide, by decide⟩) rfl) (g := (mkF m 184 #[.val (.int p0), .val (.ref b1), .val (.ref b39), .val (.int (2 : Int32))] [(.int (2 : Int32)), (.ref b39), (.ref w_E1)])) rfl rfl (hb hby at_184) t k) ?_
    show OwnEnds _ _ _ _ _ _ _ (T97.setTop (mkF m 185 #[.val (.int p0), .val (.ref b1), .val (.ref b39), .val (.int (2 : Int32))] [(.ref w_E1), (.ref w_E1)]))
    refine ogo (fun t k => Jvm.RoadKit.acmp (g := (mkF m 185 #[.val (.int p0), .val (.ref b1), .val (.ref b39), .val (.int (2 : Int32))] [(.ref w_E1), (.ref w_E1)])) X97 hx rfl rfl rfl (pc0 := 185) (pc' := 188) (same := true) rfl (hb hby at_185) rfl (decide_eq_true (congrArg Value.ref rfl)) (by decide) (by decide) k) ?_
    show OwnEnds _ _ _ _ _ _ _ (T97.setTop (mkF m 188 #[.val (.int p0), .val (.ref b1), .val (.ref b39), .val (.int (2 : Int32))] []))
    refine ogo (fun t k => XS.iconst X97.here hx rfl (hb hby at_188) k) ?_
    show OwnEnds _ _ _ _ _ _ _ (T97.setTop (mkF m 189 #[.val (.int p0), .val (.ref b1), .val (.ref b39), .val (.int (2 : Int32))] [(.int (1 : Int32))]))
    refine ogo (fun t k => XS.goto X97.here hx rfl (pc0 := 189) (pc' := 193) rfl (hb hby at_189) (by decide) (by decide) k) ?_
    show OwnEnds _ _ _ _ _ _ _ (T97.setTop (mkF m 193 #[.val (.int p0), .val (.ref b1), .val (.ref b39), .val (.int (2 : Int32))] [(.int (1 : Int32))]))
    refine endZ X97 hx hlk hret rfl (hb hby at_193) (by decide) (by decide) ?_
    show Q0 Z p0 w_N1 w_N2 w_N3 w_E1 w_E2 w_E3 w_S1 w_S2 w_S3 w_W1 w_W2 w_W3 w_RING h0 n0 _ T97.heap _
    rw [e97]
    exact ⟨rfl, N97⟩
  · show OwnEnds _ _ _ _ _ _ _ (T87.setTop (mkF m 175 #[.val (.int p0), .val (.ref b1), .val (.ref b39), .unset] [(.int (3 : Int32))]))
    refine ogo (fun t k => XS.istoreN X87.here hx rfl (hb hby at_175) rfl (l' := #[.val (.int p0), .val (.ref b1), .val (.ref b39), .val (.int (3 : Int32))]) rfl k) ?_
    show OwnEnds _ _ _ _ _ _ _ (T87.setTop (mkF m 176 #[.val (.int p0), .val (.ref b1), .val (.ref b39), .val (.int (3 : Int32))] []))
    refine ogo (fun t k => XS.aloadN X87.here hx rfl (hb hby at_176) rfl rfl k) ?_
    show OwnEnds _ _ _ _ _ _ _ (T87.setTop (mkF m 177 #[.val (.int p0), .val (.ref b1), .val (.ref b39), .val (.int (3 : Int32))] [(.ref b1)]))
    refine ogo (fun t k => XS.iloadN X87.here hx rfl (hb hby at_177) rfl k) ?_
    show OwnEnds _ _ _ _ _ _ _ (T87.setTop (mkF m 178 #[.val (.int p0), .val (.ref b1), .val (.ref b39), .val (.int (3 : Int32))] [(.int (3 : Int32)), (.ref b1)]))
    obtain ⟨cl99, Ar99, Aq99, As99, An99, Ah99, Ag99⟩ := id f88
    refine ogo (fun t k => X87.aaload hx (j := (3 : Int32)) (v := (.ref w_E1)) (by rw [e87]; exact Ar99.1) (State.isArrayOf_alike hZ.alike Ar99.2.1) rfl Ar99.2.2 (inb_of As99 ⟨by decide, by decide⟩) (Ah99.at (inb_of As99 ⟨by decide, by decide⟩) rfl) (g := (mkF m 178 #[.val (.int p0), .val (.ref b1), .val (.ref b39), .val (.int (3 : Int32))] [(.int (3 : Int32)), (.ref b1)])) rfl rfl (hb hby at_178) t k) ?_
    show OwnEnds _ _ _ _ _ _ _ (T87.setTop (mkF m 179 #[.val (.int p0), .val (.ref b1), .val (.ref b39), .val (.int (3 : Int32))] [(.ref w_E1)]))
    obtain ⟨cq100, kq100, q100a, q100b, q100c⟩ := isOf hZ e87 (E_E1.ext OLD89.2)
    obtain ⟨v100, _, ⟨T100, L100, k100, n100⟩, -, X100, ⟨Lc100, hQ100, l100, y100, z100⟩, st100⟩ := X87.virtualBack hx (y := (⟨"com/example/ramparts/ramparts/tile/Segment", "next", "()Lcom/example/ramparts/ramparts/tile/Segment;"⟩ : MethodName)) (z := (⟨"com/example/ramparts/ramparts/tile/Segment", "next", "()Lcom/example/ramparts/ramparts/tile/Segment;"⟩ : MethodName)) hown (mvT hZ (hw _ (List.mem_of_getElem? (i := 29) rfl))) (mvT hZ (hw _ (List.mem_of_getElem? (i := 30) rfl))) (notFace_of_selects (args := #[]) (mvT hZ (hw _ (List.mem_of_getElem? (i := 32) rfl)))) (mvT hZ (hw _ (List.mem_of_getElem? (i := 32) rfl))) (mvT hZ (hw _ (List.mem_of_getElem? (i := 31) rfl))) (by decide) (backOf (W := 0) (rm2 l Z a0 hw [] w_E1 (3 : Int32) w_N1 w_N2 w_N3 w_E1 w_E2 w_E3 w_S1 w_S2 w_S3 w_W1 w_W2 w_W3 w_RING h87 n0 Z89 OLD89 (F_ordinal_E1.ext OLD89.2) (E_E1.ext OLD89.2) (by decide) S_RING V_RING) hZ (hw _ (List.mem_of_getElem? (i := 33) rfl)) (hw _ (List.mem_of_getElem? (i := 3) rfl)) (by decide) (by decide)) q100a q100c (g := (mkF m 179 #[.val (.int p0), .val (.ref b1), .val (.ref b39), .val (.int (3 : Int32))] [(.ref w_E1)])) rfl (by rw [hml]; rfl) (Steps.refl _) (argsL := []) (rest := []) (lenOf pd___Lcom_example_ramparts_ramparts_tile_Segment_ rfl) rfl (by show 2 * 0 + _ ≤ _; exact Nat.le_of_eq rfl) (hb hby at_179) (fun _ _ => ⟨rfl, e87, (by decide : 2 + 0 ≤ _), (by decide : 24 + 0 ≤ _)⟩)
    dsimp only [Pt.U, Pt.locs, Pt.cells, Pt.slots] at X100 l100 y100 z100 st100 hQ100
    subst l100 y100 z100
    obtain ⟨hv100, N100q, e100⟩ := hQ100
    obtain rfl : v100 = some (.ref w_E2) := hv100.trans (by simp [own_res])
    have N100 := Fr.app N89 N100q
    refine ogo (fun t k => st100.trans k) ?_
    show OwnEnds _ _ _ _ _ _ _ (T100.setTop (mkF m 182 #[.val (.int p0), .val (.ref b1), .val (.ref b39), .val (.int (3 : Int32))] [(.ref w_E2)]))
    refine ogo (fun t k => XS.aloadN X100.here hx rfl (hb hby at_182) rfl rfl k) ?_
    show OwnEnds _ _ _ _ _ _ _ (T100.setTop (mkF m 183 #[.val (.int p0), .val (.ref b1), .val (.ref b39), .val (.int (3 : Int32))] [(.ref b39), (.ref w_E2)]))
    refine ogo (fun t k => XS.iloadN X100.here hx rfl (hb hby at_183) rfl k) ?_
    show OwnEnds _ _ _ _ _ _ _ (T100.setTop (mkF m 184 #[.val (.int p0), .val (.ref b1), .val (.ref b39), .val (.int (3 : Int32))] [(.int (3 : Int32)), (.ref b39), (.ref w_E2)]))
    obtain ⟨cl101, Ar101, Aq101, As101, An101, Ah101, Ag101⟩ := id V87
    refine ogo (fun t k => X100.aaload hx (j := (3 : Int32)) (v := (.ref w_E2)) (by rw [e100]; exact Ar101.1) (State.isArrayOf_alike hZ.alike Ar101.2.1) rfl Ar101.2.2 (inb_of As101 ⟨by decide, by decide⟩) (Ah101.at (inb_of As101 ⟨by decide, by decide⟩) rfl) (g := (mkF m 184 #[.val (.int p0), .val (.ref b1), .val (.ref b39), .val (.int (3 : Int32))] [(.int (3 : Int32)), (.ref b39), (.ref w_E2)])) rfl rfl (hb hby at_184) t k) ?_
    show OwnEnds _ _ _ _ _ _ _ (T100.setTop (mkF m 185 #[.val (.int p0), .val (.ref b1), .val (.ref b39), .val (.int (3 : Int32))] [(.ref w_E2), (.ref w_E2)]))
    refine ogo (fun t k => Jvm.RoadKit.acmp (g := (mkF m 185 #[.val (.int p0), .val (.ref b1), .val (.ref b39), .val (.int (3 : Int32))] [(.ref w_E2), (.ref w_E2)])) X100 hx rfl rfl rfl (pc0 := 185) (pc' := 188) (same := true) rfl (hb hby at_185) rfl (decide_eq_true (congrArg Value.ref rfl)) (by decide) (by decide) k) ?_
    show OwnEnds _ _ _ _ _ _ _ (T100.setTop (mkF m 188 #[.val (.int p0), .val (.ref b1), .val (.ref b39), .val (.int (3 : Int32))] []))
    refine ogo (fun t k => XS.iconst X100.here hx rfl (hb hby at_188) k) ?_
    show OwnEnds _ _ _ _ _ _ _ (T100.setTop (mkF m 189 #[.val (.int p0), .val (.ref b1), .val (.ref b39), .val (.int (3 : Int32))] [(.int (1 : Int32))]))
    refine ogo (fun t k => XS.goto X100.here hx rfl (pc0 := 189) (pc' := 193) rfl (hb hby at_189) (by decide) (by decide) k) ?_
    show OwnEnds _ _ _ _ _ _ _ (T100.setTop (mkF m 193 #[.val (.int p0), .val (.ref b1), .val (.ref b39), .val (.int (3 : Int32))] [(.int (1 : Int32))]))
    refine endZ X100 hx hlk hret rfl (hb hby at_193) (by decide) (by decide) ?_
    show Q0 Z p0 w_N1 w_N2 w_N3 w_E1 w_E2 w_E3 w_S1 w_S2 w_S3 w_W1 w_W2 w_W3 w_RING h0 n0 _ T100.heap _
    rw [e100]
    exact ⟨rfl, N100⟩
  · show OwnEnds _ _ _ _ _ _ _ (T87.setTop (mkF m 175 #[.val (.int p0), .val (.ref b1), .val (.ref b39), .unset] [(.int (4 : Int32))]))
    refine ogo (fun t k => XS.istoreN X87.here hx rfl (hb hby at_175) rfl (l' := #[.val (.int p0), .val (.ref b1), .val (.ref b39), .val (.int (4 : Int32))]) rfl k) ?_
    show OwnEnds _ _ _ _ _ _ _ (T87.setTop (mkF m 176 #[.val (.int p0), .val (.ref b1), .val (.ref b39), .val (.int (4 : Int32))] []))
    refine ogo (fun t k => XS.aloadN X87.here hx rfl (hb hby at_176) rfl rfl k) ?_
    show OwnEnds _ _ _ _ _ _ _ (T87.setTop (mkF m 177 #[.val (.int p0), .val (.ref b1), .val (.ref b39), .val (.int (4 : Int32))] [(.ref b1)]))
    refine ogo (fun t k => XS.iloadN X87.here hx rfl (hb hby at_177) rfl k) ?_
    show OwnEnds _ _ _ _ _ _ _ (T87.setTop (mkF m 178 #[.val (.int p0), .val (.ref b1), .val (.ref b39), .val (.int (4 : Int32))] [(.int (4 : Int32)), (.ref b1)]))
    obtain ⟨cl102, Ar102, Aq102, As102, An102, Ah102, Ag102⟩ := id f88
    refine ogo (fun t k => X87.aaload hx (j := (4 : Int32)) (v := (.ref w_E2)) (by rw [e87]; exact Ar102.1) (State.isArrayOf_alike hZ.alike Ar102.2.1) rfl Ar102.2.2 (inb_of As102 ⟨by decide, by decide⟩) (Ah102.at (inb_of As102 ⟨by decide, by decide⟩) rfl) (g := (mkF m 178 #[.val (.int p0), .val (.ref b1), .val (.ref b39), .val (.int (4 : Int32))] [(.int (4 : Int32)), (.ref b1)])) rfl rfl (hb hby at_178) t k) ?_
    show OwnEnds _ _ _ _ _ _ _ (T87.setTop (mkF m 179 #[.val (.int p0), .val (.ref b1), .val (.ref b39), .val (.int (4 : Int32))] [(.ref w_E2)]))
    obtain ⟨cq103, kq103, q103a, q103b, q103c⟩ := isOf hZ e87 (E_E2.ext OLD89.2)
    obtain ⟨v103, _, ⟨T103, L103, k103, n103⟩, -, X103, ⟨Lc103, hQ103, l103, y103, z103⟩, st103⟩ := X87.virtualBack hx (y := (⟨"com/example/ramparts/ramparts/tile/Segment", "next", "()Lcom/example/ramparts/ramparts/tile/Segment;"⟩ : MethodName)) (z := (⟨"com/example/ramparts/ramparts/tile/Segment", "next", "()Lcom/example/ramparts/ramparts/tile/Segment;"⟩ : MethodName)) hown (mvT hZ (hw _ (List.mem_of_getElem? (i := 29) rfl))) (mvT hZ (hw _ (List.mem_of_getElem? (i := 30) rfl))) (notFace_of_selects (args := #[]) (mvT hZ (hw _ (List.mem_of_getElem? (i := 32) rfl)))) (mvT hZ (hw _ (List.mem_of_getElem? (i := 32) rfl))) (mvT hZ (hw _ (List.mem_of_getElem? (i := 31) rfl))) (by decide) (backOf (W := 0) (rm2 l Z a0 hw [] w_E2 (4 : Int32) w_N1 w_N2 w_N3 w_E1 w_E2 w_E3 w_S1 w_S2 w_S3 w_W1 w_W2 w_W3 w_RING h87 n0 Z89 OLD89 (F_ordinal_E2.ext OLD89.2) (E_E2.ext OLD89.2) (by decide) S_RING V_RING) hZ (hw _ (List.mem_of_getElem? (i := 33) rfl)) (hw _ (List.mem_of_getElem? (i := 3) rfl)) (by decide) (by decide)) q103a q103c (g := (mkF m 179 #[.val (.int p0), .val (.ref b1), .val (.ref b39), .val (.int (4 : Int32))] [(.ref w_E2)])) rfl (by rw [hml]; rfl) (Steps.refl _) (argsL := []) (rest := []) (lenOf pd___Lcom_example_ramparts_ramparts_tile_Segment_ rfl) rfl (by show 2 * 0 + _ ≤ _; exact Nat.le_of_eq rfl) (hb hby at_179) (fun _ _ => ⟨rfl, e87, (by decide : 2 + 0 ≤ _), (by decide : 24 + 0 ≤ _)⟩)
    dsimp only [Pt.U, Pt.locs, Pt.cells, Pt.slots] at X103 l103 y103 z103 st103 hQ103
    subst l103 y103 z103
    obtain ⟨hv103, N103q, e103⟩ := hQ103
    obtain rfl : v103 = some (.ref w_E3) := hv103.trans (by simp [own_res])
    have N103 := Fr.app N89 N103q
    refine ogo (fun t k => st103.trans k) ?_
    show OwnEnds _ _ _ _ _ _ _ (T103.setTop (mkF m 182 #[.val (.int p0), .val (.ref b1), .val (.ref b39), .val (.int (4 : Int32))] [(.ref w_E3)]))
    refine ogo (fun t k => XS.aloadN X103.here hx rfl (hb hby at_182) rfl rfl k) ?_
    show OwnEnds _ _ _ _ _ _ _ (T103.setTop (mkF m 183 #[.val (.int p0), .val (.ref b1), .val (.ref b39), .val (.int (4 : Int32))] [(.ref b39), (.ref w_E3)]))
    refine ogo (fun t k => XS.iloadN X103.here hx rfl (hb hby at_183) rfl k) ?_
    show OwnEnds _ _ _ _ _ _ _ (T103.setTop (mkF m 184 #[.val (.int p0), .val (.ref b1), .val (.ref b39), .val (.int (4 : Int32))] [(.int (4 : Int32)), (.ref b39), (.ref w_E3)]))
    obtain ⟨cl104, Ar104, Aq104, As104, An104, Ah104, Ag104⟩ := id V87
    refine ogo (fun t k => X103.aaload hx (j := (4 : Int32)) (v := (.ref w_E3)) (by rw [e103]; exact Ar104.1) (State.isArrayOf_alike hZ.alike Ar104.2.1) rfl Ar104.2.2 (inb_of As104 ⟨by decide, by decide⟩) (Ah104.at (inb_of As104 ⟨by decide, by decide⟩) rfl) (g := (mkF m 184 #[.val (.int p0), .val (.ref b1), .val (.ref b39), .val (.int (4 : Int32))] [(.int (4 : Int32)), (.ref b39), (.ref w_E3)])) rfl rfl (hb hby at_184) t k) ?_
    show OwnEnds _ _ _ _ _ _ _ (T103.setTop (mkF m 185 #[.val (.int p0), .val (.ref b1), .val (.ref b39), .val (.int (4 : Int32))] [(.ref w_E3), (.ref w_E3)]))
    refine ogo (fun t k => Jvm.RoadKit.acmp (g := (mkF m 185 #[.val (.int p0), .val (.ref b1), .val (.ref b39), .val (.int (4 : Int32))] [(.ref w_E3), (.ref w_E3)])) X103 hx rfl rfl rfl (pc0 := 185) (pc' := 188) (same := true) rfl (hb hby at_185) rfl (decide_eq_true (congrArg Value.ref rfl)) (by decide) (by decide) k) ?_
    show OwnEnds _ _ _ _ _ _ _ (T103.setTop (mkF m 188 #[.val (.int p0), .val (.ref b1), .val (.ref b39), .val (.int (4 : Int32))] []))
    refine ogo (fun t k => XS.iconst X103.here hx rfl (hb hby at_188) k) ?_
    show OwnEnds _ _ _ _ _ _ _ (T103.setTop (mkF m 189 #[.val (.int p0), .val (.ref b1), .val (.ref b39), .val (.int (4 : Int32))] [(.int (1 : Int32))]))
    refine ogo (fun t k => XS.goto X103.here hx rfl (pc0 := 189) (pc' := 193) rfl (hb hby at_189) (by decide) (by decide) k) ?_
    show OwnEnds _ _ _ _ _ _ _ (T103.setTop (mkF m 193 #[.val (.int p0), .val (.ref b1), .val (.ref b39), .val (.int (4 : Int32))] [(.int (1 : Int32))]))
    refine endZ X103 hx hlk hret rfl (hb hby at_193) (by decide) (by decide) ?_
    show Q0 Z p0 w_N1 w_N2 w_N3 w_E1 w_E2 w_E3 w_S1 w_S2 w_S3 w_W1 w_W2 w_W3 w_RING h0 n0 _ T103.heap _
    rw [e103]
    exact ⟨rfl, N103⟩
  · show OwnEnds _ _ _ _ _ _ _ (T87.setTop (mkF m 175 #[.val (.int p0), .val (.ref b1), .val (.ref b39), .unset] [(.int (5 : Int32))]))
    refine ogo (fun t k => XS.istoreN X87.here hx rfl (hb hby at_175) rfl (l' := #[.val (.int p0), .val (.ref b1), .val (.ref b39), .val (.int (5 : Int32))]) rfl k) ?_
    show OwnEnds _ _ _ _ _ _ _ (T87.setTop (mkF m 176 #[.val (.int p0), .val (.ref b1), .val (.ref b39), .val (.int (5 : Int32))] []))
    refine ogo (fun t k => XS.aloadN X87.here hx rfl (hb hby at_176) rfl rfl k) ?_
    show OwnEnds _ _ _ _ _ _ _ (T87.setTop (mkF m 177 #[.val (.int p0), .val (.ref b1), .val (.ref b39), .val (.int (5 : Int32))] [(.ref b1)]))
    refine ogo (fun t k => XS.iloadN X87.here hx rfl (hb hby at_177) rfl k) ?_
    show OwnEnds _ _ _ _ _ _ _ (T87.setTop (mkF m 178 #[.val (.int p0), .val (.ref b1), .val (.ref b39), .val (.int (5 : Int32))] [(.int (5 : Int32)), (.ref b1)]))
    obtain ⟨cl105, Ar105, Aq105, As105, An105, Ah105, Ag105⟩ := id f88
    refine ogo (fun t k => X87.aaload hx (j := (5 : Int32)) (v := (.ref w_E3)) (by rw [e87]; exact Ar105.1) (State.isArrayOf_alike hZ.alike Ar105.2.1) rfl Ar105.2.2 (inb_of As105 ⟨by decide, by decide⟩) (Ah105.at (inb_of As105 ⟨by decide, by decide⟩) rfl) (g := (mkF m 178 #[.val (.int p0), .val (.ref b1), .val (.ref b39), .val (.int (5 : Int32))] [(.int (5 : Int32)), (.ref b1)])) rfl rfl (hb hby at_178) t k) ?_
    show OwnEnds _ _ _ _ _ _ _ (T87.setTop (mkF m 179 #[.val (.int p0), .val (.ref b1), .val (.ref b39), .val (.int (5 : Int32))] [(.ref w_E3)]))
    obtain ⟨cq106, kq106, q106a, q106b, q106c⟩ := isOf hZ e87 (E_E3.ext OLD89.2)
    obtain ⟨v106, _, ⟨T106, L106, k106, n106⟩, -, X106, ⟨Lc106, hQ106, l106, y106, z106⟩, st106⟩ := X87.virtualBack hx (y := (⟨"com/example/ramparts/ramparts/tile/Segment", "next", "()Lcom/example/ramparts/ramparts/tile/Segment;"⟩ : MethodName)) (z := (⟨"com/example/ramparts/ramparts/tile/Segment", "next", "()Lcom/example/ramparts/ramparts/tile/Segment;"⟩ : MethodName)) hown (mvT hZ (hw _ (List.mem_of_getElem? (i := 29) rfl))) (mvT hZ (hw _ (List.mem_of_getElem? (i := 30) rfl))) (notFace_of_selects (args := #[]) (mvT hZ (hw _ (List.mem_of_getElem? (i := 32) rfl)))) (mvT hZ (hw _ (List.mem_of_getElem? (i := 32) rfl))) (mvT hZ (hw _ (List.mem_of_getElem? (i := 31) rfl))) (by decide) (backOf (W := 0) (rm2 l Z a0 hw [] w_E3 (5 : Int32) w_N1 w_N2 w_N3 w_E1 w_E2 w_E3 w_S1 w_S2 w_S3 w_W1 w_W2 w_W3 w_RING h87 n0 Z89 OLD89 (F_ordinal_E3.ext OLD89.2) (E_E3.ext OLD89.2) (by decide) S_RING V_RING) hZ (hw _ (List.mem_of_getElem? (i := 33) rfl)) (hw _ (List.mem_of_getElem? (i := 3) rfl)) (by decide) (by decide)) q106a q106c (g := (mkF m 179 #[.val (.int p0), .val (.ref b1), .val (.ref b39), .val (.int (5 : Int32))] [(.ref w_E3)])) rfl (by rw [hml]; rfl) (Steps.refl _) (argsL := []) (rest := []) (lenOf pd___Lcom_example_ramparts_ramparts_tile_Segment_ rfl) rfl (by show 2 * 0 + _ ≤ _; exact Nat.le_of_eq rfl) (hb hby at_179) (fun _ _ => ⟨rfl, e87, (by decide : 2 + 0 ≤ _), (by decide : 24 + 0 ≤ _)⟩)
    dsimp only [Pt.U, Pt.locs, Pt.cells, Pt.slots] at X106 l106 y106 z106 st106 hQ106
    subst l106 y106 z106
    obtain ⟨hv106, N106q, e106⟩ := hQ106
    obtain rfl : v106 = some (.ref w_S1) := hv106.trans (by simp [own_res])
    have N106 := Fr.app N89 N106q
    refine ogo (fun t k => st106.trans k) ?_
    show OwnEnds _ _ _ _ _ _ _ (T106.setTop (mkF m 182 #[.val (.int p0), .val (.ref b1), .val (.ref b39), .val (.int (5 : Int32))] [(.ref w_S1)]))
    refine ogo (fun t k => XS.aloadN X106.here hx rfl (hb hby at_182) rfl rfl k) ?_
    show OwnEnds _ _ _ _ _ _ _ (T106.setTop (mkF m 183 #[.val (.int p0), .val (.ref b1), .val (.ref b39), .val (.int (5 : Int32))] [(.ref b39), (.ref w_S1)]))
    refine ogo (fun t k => XS.iloadN X106.here hx rfl (hb hby at_183) rfl k) ?_
    show OwnEnds _ _ _ _ _ _ _ (T106.setTop (mkF m 184 #[.val (.int p0), .val (.ref b1), .val (.ref b39), .val (.int (5 : Int32))] [(.int (5 : Int32)), (.ref b39), (.ref w_S1)]))
    obtain ⟨cl107, Ar107, Aq107, As107, An107, Ah107, Ag107⟩ := id V87
    refine ogo (fun t k => X106.aaload hx (j := (5 : Int32)) (v := (.ref w_S1)) (by rw [e106]; exact Ar107.1) (State.isArrayOf_alike hZ.alike Ar107.2.1) rfl Ar107.2.2 (inb_of As107 ⟨by decide, by decide⟩) (Ah107.at (inb_of As107 ⟨by decide, by decide⟩) rfl) (g := (mkF m 184 #[.val (.int p0), .val (.ref b1), .val (.ref b39), .val (.int (5 : Int32))] [(.int (5 : Int32)), (.ref b39), (.ref w_S1)])) rfl rfl (hb hby at_184) t k) ?_
    show OwnEnds _ _ _ _ _ _ _ (T106.setTop (mkF m 185 #[.val (.int p0), .val (.ref b1), .val (.ref b39), .val (.int (5 : Int32))] [(.ref w_S1), (.ref w_S1)]))
    refine ogo (fun t k => Jvm.RoadKit.acmp (g := (mkF m 185 #[.val (.int p0), .val (.ref b1), .val (.ref b39), .val (.int (5 : Int32))] [(.ref w_S1), (.ref w_S1)])) X106 hx rfl rfl rfl (pc0 := 185) (pc' := 188) (same := true) rfl (hb hby at_185) rfl (decide_eq_true (congrArg Value.ref rfl)) (by decide) (by decide) k) ?_
    show OwnEnds _ _ _ _ _ _ _ (T106.setTop (mkF m 188 #[.val (.int p0), .val (.ref b1), .val (.ref b39), .val (.int (5 : Int32))] []))
    refine ogo (fun t k => XS.iconst X106.here hx rfl (hb hby at_188) k) ?_
    show OwnEnds _ _ _ _ _ _ _ (T106.setTop (mkF m 189 #[.val (.int p0), .val (.ref b1), .val (.ref b39), .val (.int (5 : Int32))] [(.int (1 : Int32))]))
    refine ogo (fun t k => XS.goto X106.here hx rfl (pc0 := 189) (pc' := 193) rfl (hb hby at_189) (by decide) (by decide) k) ?_
    show OwnEnds _ _ _ _ _ _ _ (T106.setTop (mkF m 193 #[.val (.int p0), .val (.ref b1), .val (.ref b39), .val (.int (5 : Int32))] [(.int (1 : Int32))]))
    refine endZ X106 hx hlk hret rfl (hb hby at_193) (by decide) (by decide) ?_
    show Q0 Z p0 w_N1 w_N2 w_N3 w_E1 w_E2 w_E3 w_S1 w_S2 w_S3 w_W1 w_W2 w_W3 w_RING h0 n0 _ T106.heap _
    rw [e106]
    exact ⟨rfl, N106⟩
  · show OwnEnds _ _ _ _ _ _ _ (T87.setTop (mkF m 175 #[.val (.int p0), .val (.ref b1), .val (.ref b39), .unset] [(.int (6 : Int32))]))
    refine ogo (fun t k => XS.istoreN X87.here hx rfl (hb hby at_175) rfl (l' := #[.val (.int p0), .val (.ref b1), .val (.ref b39), .val (.int (6 : Int32))]) rfl k) ?_
    show OwnEnds _ _ _ _ _ _ _ (T87.setTop (mkF m 176 #[.val (.int p0), .val (.ref b1), .val (.ref b39), .val (.int (6 : Int32))] []))
    refine ogo (fun t k => XS.aloadN X87.here hx rfl (hb hby at_176) rfl rfl k) ?_
    show OwnEnds _ _ _ _ _ _ _ (T87.setTop (mkF m 177 #[.val (.int p0), .val (.ref b1), .val (.ref b39), .val (.int (6 : Int32))] [(.ref b1)]))
    refine ogo (fun t k => XS.iloadN X87.here hx rfl (hb hby at_177) rfl k) ?_
    show OwnEnds _ _ _ _ _ _ _ (T87.setTop (mkF m 178 #[.val (.int p0), .val (.ref b1), .val (.ref b39), .val (.int (6 : Int32))] [(.int (6 : Int32)), (.ref b1)]))
    obtain ⟨cl108, Ar108, Aq108, As108, An108, Ah108, Ag108⟩ := id f88
    refine ogo (fun t k => X87.aaload hx (j := (6 : Int32)) (v := (.ref w_S1)) (by rw [e87]; exact Ar108.1) (State.isArrayOf_alike hZ.alike Ar108.2.1) rfl Ar108.2.2 (inb_of As108 ⟨by decide, by decide⟩) (Ah108.at (inb_of As108 ⟨by decide, by decide⟩) rfl) (g := (mkF m 178 #[.val (.int p0), .val (.ref b1), .val (.ref b39), .val (.int (6 : Int32))] [(.int (6 : Int32)), (.ref b1)])) rfl rfl (hb hby at_178) t k) ?_
    show OwnEnds _ _ _ _ _ _ _ (T87.setTop (mkF m 179 #[.val (.int p0), .val (.ref b1), .val (.ref b39), .val (.int (6 : Int32))] [(.ref w_S1)]))
    obtain ⟨cq109, kq109, q109a, q109b, q109c⟩ := isOf hZ e87 (E_S1.ext OLD89.2)
    obtain ⟨v109, _, ⟨T109, L109, k109, n109⟩, -, X109, ⟨Lc109, hQ109, l109, y109, z109⟩, st109⟩ := X87.virtualBack hx (y := (⟨"com/example/ramparts/ramparts/tile/Segment", "next", "()Lcom/example/ramparts/ramparts/tile/Segment;"⟩ : MethodName)) (z := (⟨"com/example/ramparts/ramparts/tile/Segment", "next", "()Lcom/example/ramparts/ramparts/tile/Segment;"⟩ : MethodName)) hown (mvT hZ (hw _ (List.mem_of_getElem? (i := 29) rfl))) (mvT hZ (hw _ (List.mem_of_getElem? (i := 30) rfl))) (notFace_of_selects (args := #[]) (mvT hZ (hw _ (List.mem_of_getElem? (i := 32) rfl)))) (mvT hZ (hw _ (List.mem_of_getElem? (i := 32) rfl))) (mvT hZ (hw _ (List.mem_of_getElem? (i := 31) rfl))) (by decide) (backOf (W := 0) (rm2 l Z a0 hw [] w_S1 (6 : Int32) w_N1 w_N2 w_N3 w_E1 w_E2 w_E3 w_S1 w_S2 w_S3 w_W1 w_W2 w_W3 w_RING h87 n0 Z89 OLD89 (F_ordinal_S1.ext OLD89.2) (E_S1.ext OLD89.2) (by decide) S_RING V_RING) hZ (hw _ (List.mem_of_getElem? (i := 33) rfl)) (hw _ (List.mem_of_getElem? (i := 3) rfl)) (by decide) (by decide)) q109a q109c (g := (mkF m 179 #[.val (.int p0), .val (.ref b1), .val (.ref b39), .val (.int (6 : Int32))] [(.ref w_S1)])) rfl (by rw [hml]; rfl) (Steps.refl _) (argsL := []) (rest := []) (lenOf pd___Lcom_example_ramparts_ramparts_tile_Segment_ rfl) rfl (by show 2 * 0 + _ ≤ _; exact Nat.le_of_eq rfl) (hb hby at_179) (fun _ _ => ⟨rfl, e87, (by decide : 2 + 0 ≤ _), (by decide : 24 + 0 ≤ _)⟩)
    dsimp only [Pt.U, Pt.locs, Pt.cells, Pt.slots] at X109 l109 y109 z109 st109 hQ109
    subst l109 y109 z109
    obtain ⟨hv109, N109q, e109⟩ := hQ109
    obtain rfl : v109 = some (.ref w_S2) := hv109.trans (by simp [own_res])
    have N109 := Fr.app N89 N109q
    refine ogo (fun t k => st109.trans k) ?_
    show OwnEnds _ _ _ _ _ _ _ (T109.setTop (mkF m 182 #[.val (.int p0), .val (.ref b1), .val (.ref b39), .val (.int (6 : Int32))] [(.ref w_S2)]))
    refine ogo (fun t k => XS.aloadN X109.here hx rfl (hb hby at_182) rfl rfl k) ?_
    show OwnEnds _ _ _ _ _ _ _ (T109.setTop (mkF m 183 #[.val (.int p0), .val (.ref b1), .val (.ref b39), .val (.int (6 : Int32))] [(.ref b39), (.ref w_S2)]))
    refine ogo (fun t k => XS.iloadN X109.here hx rfl (hb hby at_183) rfl k) ?_
    show OwnEnds _ _ _ _ _ _ _ (T109.setTop (mkF m 184 #[.val (.int p0), .val (.ref b1), .val (.ref b39), .val (.int (6 : Int32))] [(.int (6 : Int32)), (.ref b39), (.ref w_S2)]))
    obtain ⟨cl110, Ar110, Aq110, As110, An110, Ah110, Ag110⟩ := id V87
    refine ogo (fun t k => X109.aaload hx (j := (6 : Int32)) (v := (.ref w_S2)) (by rw [e109]; exact Ar110.1) (State.isArrayOf_alike hZ.alike Ar110.2.1) rfl Ar110.2.2 (inb_of As110 ⟨by decide, by decide⟩) (Ah110.at (inb_of As110 ⟨by decide, by decide⟩) rfl) (g := (mkF m 184 #[.val (.int p0), .val (.ref b1), .val (.ref b39), .val (.int (6 : Int32))] [(.int (6 : Int32)), (.ref b39), (.ref w_S2)])) rfl rfl (hb hby at_184) t k) ?_
    show OwnEnds _ _ _ _ _ _ _ (T109.setTop (mkF m 185 #[.val (.int p0), .val (.ref b1), .val (.ref b39), .val (.int (6 : Int32))] [(.ref w_S2), (.ref w_S2)]))
    refine ogo (fun t k => Jvm.RoadKit.acmp (g := (mkF m 185 #[.val (.int p0), .val (.ref b1), .val (.ref b39), .val (.int (6 : Int32))] [(.ref w_S2), (.ref w_S2)])) X109 hx rfl rfl rfl (pc0 := 185) (pc' := 188) (same := true) rfl (hb hby at_185) rfl (decide_eq_true (congrArg Value.ref rfl)) (by decide) (by decide) k) ?_
    show OwnEnds _ _ _ _ _ _ _ (T109.setTop (mkF m 188 #[.val (.int p0), .val (.ref b1), .val (.ref b39), .val (.int (6 : Int32))] []))
    refine ogo (fun t k => XS.iconst X109.here hx rfl (hb hby at_188) k) ?_
    show OwnEnds _ _ _ _ _ _ _ (T109.setTop (mkF m 189 #[.val (.int p0), .val (.ref b1), .val (.ref b39), .val (.int (6 : Int32))] [(.int (1 : Int32))]))
    refine ogo (fun t k => XS.goto X109.here hx rfl (pc0 := 189) (pc' := 193) rfl (hb hby at_189) (by decide) (by decide) k) ?_
    show OwnEnds _ _ _ _ _ _ _ (T109.setTop (mkF m 193 #[.val (.int p0), .val (.ref b1), .val (.ref b39), .val (.int (6 : Int32))] [(.int (1 : Int32))]))
    refine endZ X109 hx hlk hret rfl (hb hby at_193) (by decide) (by decide) ?_
    show Q0 Z p0 w_N1 w_N2 w_N3 w_E1 w_E2 w_E3 w_S1 w_S2 w_S3 w_W1 w_W2 w_W3 w_RING h0 n0 _ T109.heap _
    rw [e109]
    exact ⟨rfl, N109⟩
  · show OwnEnds _ _ _ _ _ _ _ (T87.setTop (mkF m 175 #[.val (.int p0), .val (.ref b1), .val (.ref b39), .unset] [(.int (7 : Int32))]))
    refine ogo (fun t k => XS.istoreN X87.here hx rfl (hb hby at_175) rfl (l' := #[.val (.int p0), .val (.ref b1), .val (.ref b39), .val (.int (7 : Int32))]) rfl k) ?_
    show OwnEnds _ _ _ _ _ _ _ (T87.setTop (mkF m 176 #[.val (.int p0), .val (.ref b1), .val (.ref b39), .val (.int (7 : Int32))] []))
    refine ogo (fun t k => XS.aloadN X87.here hx rfl (hb hby at_176) rfl rfl k) ?_
    show OwnEnds _ _ _ _ _ _ _ (T87.setTop (mkF m 177 #[.val (.int p0), .val (.ref b1), .val (.ref b39), .val (.int (7 : Int32))] [(.ref b1)]))
    refine ogo (fun t k => XS.iloadN X87.here hx rfl (hb hby at_177) rfl k) ?_
    show OwnEnds _ _ _ _ _ _ _ (T87.setTop (mkF m 178 #[.val (.int p0), .val (.ref b1), .val (.ref b39), .val (.int (7 : Int32))] [(.int (7 : Int32)), (.ref b1)]))
    obtain ⟨cl111, Ar111, Aq111, As111, An111, Ah111, Ag111⟩ := id f88
    refine ogo (fun t k => X87.aaload hx (j := (7 : Int32)) (v := (.ref w_S2)) (by rw [e87]; exact Ar111.1) (State.isArrayOf_alike hZ.alike Ar111.2.1) rfl Ar111.2.2 (inb_of As111 ⟨by decide, by decide⟩) (Ah111.at (inb_of As111 ⟨by decide, by decide⟩) rfl) (g := (mkF m 178 #[.val (.int p0), .val (.ref b1), .val (.ref b39), .val (.int (7 : Int32))] [(.int (7 : Int32)), (.ref b1)])) rfl rfl (hb hby at_178) t k) ?_
    show OwnEnds _ _ _ _ _ _ _ (T87.setTop (mkF m 179 #[.val (.int p0), .val (.ref b1), .val (.ref b39), .val (.int (7 : Int32))] [(.ref w_S2)]))
    obtain ⟨cq112, kq112, q112a, q112b, q112c⟩ := isOf hZ e87 (E_S2.ext OLD89.2)
    obtain ⟨v112, _, ⟨T112, L112, k112, n112⟩, -, X112, ⟨Lc112, hQ112, l112, y112, z112⟩, st112⟩ := X87.virtualBack hx (y := (⟨"com/example/ramparts/ramparts/tile/Segment", "next", "()Lcom/example/ramparts/ramparts/tile/Segment;"⟩ : MethodName)) (z := (⟨"com/example/ramparts/ramparts/tile/Segment", "next", "()Lcom/example/ramparts/ramparts/tile/Segment;"⟩ : MethodName)) hown (mvT hZ (hw _ (List.mem_of_getElem? (i := 29) rfl))) (mvT hZ (hw _ (List.mem_of_getElem? (i := 30) rfl))) (notFace_of_selects (args := #[]) (mvT hZ (hw _ (List.mem_of_getElem? (i := 32) rfl)))) (mvT hZ (hw _ (List.mem_of_getElem? (i := 32) rfl))) (mvT hZ (hw _ (List.mem_of_getElem? (i := 31) rfl))) (by decide) (backOf (W := 0) (rm2 l Z a0 hw [] w_S2 (7 : Int32) w_N1 w_N2 w_N3 w_E1 w_E2 w_E3 w_S1 w_S2 w_S3 w_W1 w_W2 w_W3 w_RING h87 n0 Z89 OLD89 (F_ordinal_S2.ext OLD89.2) (E_S2.ext OLD89.2) (by decide) S_RING V_RING) hZ (hw _ (List.mem_of_getElem? (i := 33) rfl)) (hw _ (List.mem_of_getElem? (i := 3) rfl)) (by decide) (by decide)) q112a q112c (g := (mkF m 179 #[.val (.int p0), .val (.ref b1), .val (.ref b39), .val (.int (7 : Int32))] [(.ref w_S2)])) rfl (by rw [hml]; rfl) (Steps.refl _) (argsL := []) (rest := []) (lenOf pd___Lcom_example_ramparts_ramparts_tile_Segment_ rfl) rfl (by show 2 * 0 + _ ≤ _; exact Nat.le_of_eq rfl) (hb hby at_179) (fun _ _ => ⟨rfl, e87, (by decide : 2 + 0 ≤ _), (by decide : 24 + 0 ≤ _)⟩)
    dsimp only [Pt.U, Pt.locs, Pt.cells, Pt.slots] at X112 l112 y112 z112 st112 hQ112
    subst l112 y112 z112
    obtain ⟨hv112, N112q, e112⟩ := hQ112
    obtain rfl : v112 = some (.ref w_S3) := hv112.trans (by simp [own_res])
    have N112 := Fr.app N89 N112q
    refine ogo (fun t k => st112.trans k) ?_
    show OwnEnds _ _ _ _ _ _ _ (T112.setTop (mkF m 182 #[.val (.int p0), .val (.ref b1), .val (.ref b39), .val (.int (7 : Int32))] [(.ref w_S3)]))
    refine ogo (fun t k => XS.aloadN X112.here hx rfl (hb hby at_182) rfl rfl k) ?_
    show OwnEnds _ _ _ _ _ _ _ (T112.setTop (mkF m 183 #[.val (.int p0), .val (.ref b1), .val (.ref b39), .val (.int (7 : Int32))] [(.ref b39), (.ref w_S3)]))
    refine ogo (fun t k => XS.iloadN X112.here hx rfl (hb hby at_183) rfl k) ?_
    show OwnEnds _ _ _ _ _ _ _ (T112.setTop (mkF m 184 #[.val (.int p0), .val (.ref b1), .val (.ref b39), .val (.int (7 : Int32))] [(.int (7 : Int32)), (.ref b39), (.ref w_S3)]))
    obtain ⟨cl113, Ar113, Aq113, As113, An113, Ah113, Ag113⟩ := id V87
    refine ogo (fun t k => X112.aaload hx (j := (7 : Int32)) (v := (.ref w_S3)) (by rw [e112]; exact Ar113.1) (State.isArrayOf_alike hZ.alike Ar113.2.1) rfl Ar113.2.2 (inb_of As113 ⟨by decide, by decide⟩) (Ah113.at (inb_of As113 ⟨by decide, by decide⟩) rfl) (g := (mkF m 184 #[.val (.int p0), .val (.ref b1), .val (.ref b39), .val (.int (7 : Int32))] [(.int (7 : Int32)), (.ref b39), (.ref w_S3)])) rfl rfl (hb hby at_184) t k) ?_
    show OwnEnds _ _ _ _ _ _ _ (T112.setTop (mkF m 185 #[.val (.int p0), .val (.ref b1), .val (.ref b39), .val (.int (7 : Int32))] [(.ref w_S3), (.ref w_S3)]))
    refine ogo (fun t k => Jvm.RoadKit.acmp (g := (mkF m 185 #[.val (.int p0), .val (.ref b1), .val (.ref b39), .val (.int (7 : Int32))] [(.ref w_S3), (.ref w_S3)])) X112 hx rfl rfl rfl (pc0 := 185) (pc' := 188) (same := true) rfl (hb hby at_185) rfl (decide_eq_true (congrArg Value.ref rfl)) (by decide) (by decide) k) ?_
    show OwnEnds _ _ _ _ _ _ _ (T112.setTop (mkF m 188 #[.val (.int p0), .val (.ref b1), .val (.ref b39), .val (.int (7 : Int32))] []))
    refine ogo (fun t k => XS.iconst X112.here hx rfl (hb hby at_188) k) ?_
    show OwnEnds _ _ _ _ _ _ _ (T112.setTop (mkF m 189 #[.val (.int p0), .val (.ref b1), .val (.ref b39), .val (.int (7 : Int32))] [(.int (1 : Int32))]))
    refine ogo (fun t k => XS.goto X112.here hx rfl (pc0 := 189) (pc' := 193) rfl (hb hby at_189) (by decide) (by decide) k) ?_
    show OwnEnds _ _ _ _ _ _ _ (T112.setTop (mkF m 193 #[.val (.int p0), .val (.ref b1), .val (.ref b39), .val (.int (7 : Int32))] [(.int (1 : Int32))]))
    refine endZ X112 hx hlk hret rfl (hb hby at_193) (by decide) (by decide) ?_
    show Q0 Z p0 w_N1 w_N2 w_N3 w_E1 w_E2 w_E3 w_S1 w_S2 w_S3 w_W1 w_W2 w_W3 w_RING h0 n0 _ T112.heap _
    rw [e112]
    exact ⟨rfl, N112⟩
  · show OwnEnds _ _ _ _ _ _ _ (T87.setTop (mkF m 175 #[.val (.int p0), .val (.ref b1), .val (.ref b39), .unset] [(.int (8 : Int32))]))
    refine ogo (fun t k => XS.istoreN X87.here hx rfl (hb hby at_175) rfl (l' := #[.val (.int p0), .val (.ref b1), .val (.ref b39), .val (.int (8 : Int32))]) rfl k) ?_
    show OwnEnds _ _ _ _ _ _ _ (T87.setTop (mkF m 176 #[.val (.int p0), .val (.ref b1), .val (.ref b39), .val (.int (8 : Int32))] []))
    refine ogo (fun t k => XS.aloadN X87.here hx rfl (hb hby at_176) rfl rfl k) ?_
    show OwnEnds _ _ _ _ _ _ _ (T87.setTop (mkF m 177 #[.val (.int p0), .val (.ref b1), .val (.ref b39), .val (.int (8 : Int32))] [(.ref b1)]))
    refine ogo (fun t k => XS.iloadN X87.here hx rfl (hb hby at_177) rfl k) ?_
    show OwnEnds _ _ _ _ _ _ _ (T87.setTop (mkF m 178 #[.val (.int p0), .val (.ref b1), .val (.ref b39), .val (.int (8 : Int32))] [(.int (8 : Int32)), (.ref b1)]))
    obtain ⟨cl114, Ar114, Aq114, As114, An114, Ah114, Ag114⟩ := id f88
    refine ogo (fun t k => X87.aaload hx (j := (8 : Int32)) (v := (.ref w_S3)) (by rw [e87]; exact Ar114.1) (State.isArrayOf_alike hZ.alike Ar114.2.1) rfl Ar114.2.2 (inb_of As114 ⟨by decide, by decide⟩) (Ah114.at (inb_of As114 ⟨by decide, by decide⟩) rfl) (g := (mkF m 178 #[.val (.int p0), .val (.ref b1), .val (.ref b39), .val (.int (8 : Int32))] [(.int (8 : Int32)), (.ref b1)])) rfl rfl (hb hby at_178) t k) ?_
    show OwnEnds _ _ _ _ _ _ _ (T87.setTop (mkF m 179 #[.val (.int p0), .val (.ref b1), .val (.ref b39), .val (.int (8 : Int32))] [(.ref w_S3)]))
    obtain ⟨cq115, kq115, q115a, q115b, q115c⟩ := isOf hZ e87 (E_S3.ext OLD89.2)
    obtain ⟨v115, _, ⟨T115, L115, k115, n115⟩, -, X115, ⟨Lc115, hQ115, l115, y115, z115⟩, st115⟩ := X87.virtualBack hx (y := (⟨"com/example/ramparts/ramparts/tile/Segment", "next", "()Lcom/example/ramparts/ramparts/tile/Segment;"⟩ : MethodName)) (z := (⟨"com/example/ramparts/ramparts/tile/Segment", "next", "()Lcom/example/ramparts/ramparts/tile/Segment;"⟩ : MethodName)) hown (mvT hZ (hw _ (List.mem_of_getElem? (i := 29) rfl))) (mvT hZ (hw _ (List.mem_of_getElem? (i := 30) rfl))) (notFace_of_selects (args := #[]) (mvT hZ (hw _ (List.mem_of_getElem? (i := 32) rfl)))) (mvT hZ (hw _ (List.mem_of_getElem? (i := 32) rfl))) (mvT hZ (hw _ (List.mem_of_getElem? (i := 31) rfl))) (by decide) (backOf (W := 0) (rm2 l Z a0 hw [] w_S3 (8 : Int32) w_N1 w_N2 w_N3 w_E1 w_E2 w_E3 w_S1 w_S2 w_S3 w_W1 w_W2 w_W3 w_RING h87 n0 Z89 OLD89 (F_ordinal_S3.ext OLD89.2) (E_S3.ext OLD89.2) (by decide) S_RING V_RING) hZ (hw _ (List.mem_of_getElem? (i := 33) rfl)) (hw _ (List.mem_of_getElem? (i := 3) rfl)) (by decide) (by decide)) q115a q115c (g := (mkF m 179 #[.val (.int p0), .val (.ref b1), .val (.ref b39), .val (.int (8 : Int32))] [(.ref w_S3)])) rfl (by rw [hml]; rfl) (Steps.refl _) (argsL := []) (rest := []) (lenOf pd___Lcom_example_ramparts_ramparts_tile_Segment_ rfl) rfl (by show 2 * 0 + _ ≤ _; exact Nat.le_of_eq rfl) (hb hby at_179) (fun _ _ => ⟨rfl, e87, (by decide : 2 + 0 ≤ _), (by decide : 24 + 0 ≤ _)⟩)
    dsimp only [Pt.U, Pt.locs, Pt.cells, Pt.slots] at X115 l115 y115 z115 st115 hQ115
    subst l115 y115 z115
    obtain ⟨hv115, N115q, e115⟩ := hQ115
    obtain rfl : v115 = some (.ref w_W1) := hv115.trans (by simp [own_res])
    have N115 := Fr.app N89 N115q
    refine ogo (fun t k => st115.trans k) ?_
    show OwnEnds _ _ _ _ _ _ _ (T115.setTop (mkF m 182 #[.val (.int p0), .val (.ref b1), .val (.ref b39), .val (.int (8 : Int32))] [(.ref w_W1)]))
    refine ogo (fun t k => XS.aloadN X115.here hx rfl (hb hby at_182) rfl rfl k) ?_
    show OwnEnds _ _ _ _ _ _ _ (T115.setTop (mkF m 183 #[.val (.int p0), .val (.ref b1), .val (.ref b39), .val (.int (8 : Int32))] [(.ref b39), (.ref w_W1)]))
    refine ogo (fun t k => XS.iloadN X115.here hx rfl (hb hby at_183) rfl k) ?_
    show OwnEnds _ _ _ _ _ _ _ (T115.setTop (mkF m 184 #[.val (.int p0), .val (.ref b1), .val (.ref b39), .val (.int (8 : Int32))] [(.int (8 : Int32)), (.ref b39), (.ref w_W1)]))
    obtain ⟨cl116, Ar116, Aq116, As116, An116, Ah116, Ag116⟩ := id V87
    refine ogo (fun t k => X115.aaload hx (j := (8 : Int32)) (v := (.ref w_W1)) (by rw [e115]; exact Ar116.1) (State.isArrayOf_alike hZ.alike Ar116.2.1) rfl Ar116.2.2 (inb_of As116 ⟨by decide, by decide⟩) (Ah116.at (inb_of As116 ⟨by decide, by decide⟩) rfl) (g := (mkF m 184 #[.val (.int p0), .val (.ref b1), .val (.ref b39), .val (.int (8 : Int32))] [(.int (8 : Int32)), (.ref b39), (.ref w_W1)])) rfl rfl (hb hby at_184) t k) ?_
    show OwnEnds _ _ _ _ _ _ _ (T115.setTop (mkF m 185 #[.val (.int p0), .val (.ref b1), .val (.ref b39), .val (.int (8 : Int32))] [(.ref w_W1), (.ref w_W1)]))
    refine ogo (fun t k => Jvm.RoadKit.acmp (g := (mkF m 185 #[.val (.int p0), .val (.ref b1), .val (.ref b39), .val (.int (8 : Int32))] [(.ref w_W1), (.ref w_W1)])) X115 hx rfl rfl rfl (pc0 := 185) (pc' := 188) (same := true) rfl (hb hby at_185) rfl (decide_eq_true (congrArg Value.ref rfl)) (by decide) (by decide) k) ?_
    show OwnEnds _ _ _ _ _ _ _ (T115.setTop (mkF m 188 #[.val (.int p0), .val (.ref b1), .val (.ref b39), .val (.int (8 : Int32))] []))
    refine ogo (fun t k => XS.iconst X115.here hx rfl (hb hby at_188) k) ?_
    show OwnEnds _ _ _ _ _ _ _ (T115.setTop (mkF m 189 #[.val (.int p0), .val (.ref b1), .val (.ref b39), .val (.int (8 : Int32))] [(.int (1 : Int32))]))
    refine ogo (fun t k => XS.goto X115.here hx rfl (pc0 := 189) (pc' := 193) rfl (hb hby at_189) (by decide) (by decide) k) ?_
    show OwnEnds _ _ _ _ _ _ _ (T115.setTop (mkF m 193 #[.val (.int p0), .val (.ref b1), .val (.ref b39), .val (.int (8 : Int32))] [(.int (1 : Int32))]))
    refine endZ X115 hx hlk hret rfl (hb hby at_193) (by decide) (by decide) ?_
    show Q0 Z p0 w_N1 w_N2 w_N3 w_E1 w_E2 w_E3 w_S1 w_S2 w_S3 w_W1 w_W2 w_W3 w_RING h0 n0 _ T115.heap _
    rw [e115]
    exact ⟨rfl, N115⟩
  · show OwnEnds _ _ _ _ _ _ _ (T87.setTop (mkF m 175 #[.val (.int p0), .val (.ref b1), .val (.ref b39), .unset] [(.int (9 : Int32))]))
    refine ogo (fun t k => XS.istoreN X87.here hx rfl (hb hby at_175) rfl (l' := #[.val (.int p0), .val (.ref b1), .val (.ref b39), .val (.int (9 : Int32))]) rfl k) ?_
    show OwnEnds _ _ _ _ _ _ _ (T87.setTop (mkF m 176 #[.val (.int p0), .val (.ref b1), .val (.ref b39), .val (.int (9 : Int32))] []))
    refine ogo (fun t k => XS.aloadN X87.here hx rfl (hb hby at_176) rfl rfl k) ?_
    show OwnEnds _ _ _ _ _ _ _ (T87.setTop (mkF m 177 #[.val (.int p0), .val (.ref b1), .val (.ref b39), .val (.int (9 : Int32))] [(.ref b1)]))
    refine ogo (fun t k => XS.iloadN X87.here hx rfl (hb hby at_177) rfl k) ?_
    show OwnEnds _ _ _ _ _ _ _ (T87.setTop (mkF m 178 #[.val (.int p0), .val (.ref b1), .val (.ref b39), .val (.int (9 : Int32))] [(.int (9 : Int32)), (.ref b1)]))
    obtain ⟨cl117, Ar117, Aq117, As117, An117, Ah117, Ag117⟩ := id f88
    refine ogo (fun t k => X87.aaload hx (j := (9 : Int32)) (v := (.ref w_W1)) (by rw [e87]; exact Ar117.1) (State.isArrayOf_alike hZ.alike Ar117.2.1) rfl Ar117.2.2 (inb_of As117 ⟨by decide, by decide⟩) (Ah117.at (inb_of As117 ⟨by decide, by decide⟩) rfl) (g := (mkF m 178 #[.val (.int p0), .val (.ref b1), .val (.ref b39), .val (.int (9 : Int32))] [(.int (9 : Int32)), (.ref b1)])) rfl rfl (hb hby at_178) t k) ?_
    show OwnEnds _ _ _ _ _ _ _ (T87.setTop (mkF m 179 #[.val (.int p0), .val (.ref b1), .val (.ref b39), .val (.int (9 : Int32))] [(.ref w_W1)]))
    obtain ⟨cq118, kq118, q118a, q118b, q118c⟩ := isOf hZ e87 (E_W1.ext OLD89.2)
    obtain ⟨v118, _, ⟨T118, L118, k118, n118⟩, -, X118, ⟨Lc118, hQ118, l118, y118, z118⟩, st118⟩ := X87.virtualBack hx (y := (⟨"com/example/ramparts/ramparts/tile/Segment", "next", "()Lcom/example/ramparts/ramparts/tile/Segment;"⟩ : MethodName)) (z := (⟨"com/example/ramparts/ramparts/tile/Segment", "next", "()Lcom/example/ramparts/ramparts/tile/Segment;"⟩ : MethodName)) hown (mvT hZ (hw _ (List.mem_of_getElem? (i := 29) rfl))) (mvT hZ (hw _ (List.mem_of_getElem? (i := 30) rfl))) (notFace_of_selects (args := #[]) (mvT hZ (hw _ (List.mem_of_getElem? (i := 32) rfl)))) (mvT hZ (hw _ (List.mem_of_getElem? (i := 32) rfl))) (mvT hZ (hw _ (List.mem_of_getElem? (i := 31) rfl))) (by decide) (backOf (W := 0) (rm2 l Z a0 hw [] w_W1 (9 : Int32) w_N1 w_N2 w_N3 w_E1 w_E2 w_E3 w_S1 w_S2 w_S3 w_W1 w_W2 w_W3 w_RING h87 n0 Z89 OLD89 (F_ordinal_W1.ext OLD89.2) (E_W1.ext OLD89.2) (by decide) S_RING V_RING) hZ (hw _ (List.mem_of_getElem? (i := 33) rfl)) (hw _ (List.mem_of_getElem? (i := 3) rfl)) (by decide) (by decide)) q118a q118c (g := (mkF m 179 #[.val (.int p0), .val (.ref b1), .val (.ref b39), .val (.int (9 : Int32))] [(.ref w_W1)])) rfl (by rw [hml]; rfl) (Steps.refl _) (argsL := []) (rest := []) (lenOf pd___Lcom_example_ramparts_ramparts_tile_Segment_ rfl) rfl (by show 2 * 0 + _ ≤ _; exact Nat.le_of_eq rfl) (hb hby at_179) (fun _ _ => ⟨rfl, e87, (by decide : 2 + 0 ≤ _), (by decide : 24 + 0 ≤ _)⟩)
    dsimp only [Pt.U, Pt.locs, Pt.cells, Pt.slots] at X118 l118 y118 z118 st118 hQ118
    subst l118 y118 z118
    obtain ⟨hv118, N118q, e118⟩ := hQ118
    obtain rfl : v118 = some (.ref w_W2) := hv118.trans (by simp [own_res])
    have N118 := Fr.app N89 N118q
    refine ogo (fun t k => st118.trans k) ?_
    show OwnEnds _ _ _ _ _ _ _ (T118.setTop (mkF m 182 #[.val (.int p0), .val (.ref b1), .val (.ref b39), .val (.int (9 : Int32))] [(.ref w_W2)]))
    refine ogo (fun t k => XS.aloadN X118.here hx rfl (hb hby at_182) rfl rfl k) ?_
    show OwnEnds _ _ _ _ _ _ _ (T118.setTop (mkF m 183 #[.val (.int p0), .val (.ref b1), .val (.ref b39), .val (.int (9 : Int32))] [(.ref b39), (.ref w_W2)]))
    refine ogo (fun t k => XS.iloadN X118.here hx rfl (hb hby at_183) rfl k) ?_
    show OwnEnds _ _ _ _ _ _ _ (T118.setTop (mkF m 184 #[.val (.int p0), .val (.ref b1), .val (.ref b39), .val (.int (9 : Int32))] [(.int (9 : Int32)), (.ref b39), (.ref w_W2)]))
    obtain ⟨cl119, Ar119, Aq119, As119, An119, Ah119, Ag119⟩ := id V87
    refine ogo (fun t k => X118.aaload hx (j := (9 : Int32)) (v := (.ref w_W2)) (by rw [e118]; exact Ar119.1) (State.isArrayOf_alike hZ.alike Ar119.2.1) rfl Ar119.2.2 (inb_of As119 ⟨by decide, by decide⟩) (Ah119.at (inb_of As119 ⟨by decide, by decide⟩) rfl) (g := (mkF m 184 #[.val (.int p0), .val (.ref b1), .val (.ref b39), .val (.int (9 : Int32))] [(.int (9 : Int32)), (.ref b39), (.ref w_W2)])) rfl rfl (hb hby at_184) t k) ?_
    show OwnEnds _ _ _ _ _ _ _ (T118.setTop (mkF m 185 #[.val (.int p0), .val (.ref b1), .val (.ref b39), .val (.int (9 : Int32))] [(.ref w_W2), (.ref w_W2)]))
    refine ogo (fun t k => Jvm.RoadKit.acmp (g := (mkF m 185 #[.val (.int p0), .val (.ref b1), .val (.ref b39), .val (.int (9 : Int32))] [(.ref w_W2), (.ref w_W2)])) X118 hx rfl rfl rfl (pc0 := 185) (pc' := 188) (same := true) rfl (hb hby at_185) rfl (decide_eq_true (congrArg Value.ref rfl)) (by decide) (by decide) k) ?_
    show OwnEnds _ _ _ _ _ _ _ (T118.setTop (mkF m 188 #[.val (.int p0), .val (.ref b1), .val (.ref b39), .val (.int (9 : Int32))] []))
    refine ogo (fun t k => XS.iconst X118.here hx rfl (hb hby at_188) k) ?_
    show OwnEnds _ _ _ _ _ _ _ (T118.setTop (mkF m 189 #[.val (.int p0), .val (.ref b1), .val (.ref b39), .val (.int (9 : Int32))] [(.int (1 : Int32))]))
    refine ogo (fun t k => XS.goto X118.here hx rfl (pc0 := 189) (pc' := 193) rfl (hb hby at_189) (by decide) (by decide) k) ?_
    show OwnEnds _ _ _ _ _ _ _ (T118.setTop (mkF m 193 #[.val (.int p0), .val (.ref b1), .val (.ref b39), .val (.int (9 : Int32))] [(.int (1 : Int32))]))
    refine endZ X118 hx hlk hret rfl (hb hby at_193) (by decide) (by decide) ?_
    show Q0 Z p0 w_N1 w_N2 w_N3 w_E1 w_E2 w_E3 w_S1 w_S2 w_S3 w_W1 w_W2 w_W3 w_RING h0 n0 _ T118.heap _
    rw [e118]
    exact ⟨rfl, N118⟩
  · show OwnEnds _ _ _ _ _ _ _ (T87.setTop (mkF m 175 #[.val (.int p0), .val (.ref b1), .val (.ref b39), .unset] [(.int (10 : Int32))]))
    refine ogo (fun t k => XS.istoreN X87.here hx rfl (hb hby at_175) rfl (l' := #[.val (.int p0), .val (.ref b1), .val (.ref b39), .val (.int (10 : Int32))]) rfl k) ?_
    show OwnEnds _ _ _ _ _ _ _ (T87.setTop (mkF m 176 #[.val (.int p0), .val (.ref b1), .val (.ref b39), .val (.int (10 : Int32))] []))
    refine ogo (fun t k => XS.aloadN X87.here hx rfl (hb hby at_176) rfl rfl k) ?_
    show OwnEnds _ _ _ _ _ _ _ (T87.setTop (mkF m 177 #[.val (.int p0), .val (.ref b1), .val (.ref b39), .val (.int (10 : Int32))] [(.ref b1)]))
    refine ogo (fun t k => XS.iloadN X87.here hx rfl (hb hby at_177) rfl k) ?_
    show OwnEnds _ _ _ _ _ _ _ (T87.setTop (mkF m 178 #[.val (.int p0), .val (.ref b1), .val (.ref b39), .val (.int (10 : Int32))] [(.int (10 : Int32)), (.ref b1)]))
    obtain ⟨cl120, Ar120, Aq120, As120, An120, Ah120, Ag120⟩ := id f88
    refine ogo (fun t k => X87.aaload hx (j := (10 : Int32)) (v := (.ref w_W2)) (by rw [e87]; exact Ar120.1) (State.isArrayOf_alike hZ.alike Ar120.2.1) rfl Ar120.2.2 (inb_of As120 ⟨by decide, by decide⟩) (Ah120.at (inb_of As120 ⟨by decide, by decide⟩) rfl) (g := (mkF m 178 #[.val (.int p0), .val (.ref b1), .val (.ref b39), .val (.int (10 : Int32))] [(.int (10 : Int32)), (.ref b1)])) rfl rfl (hb hby at_178) t k) ?_
    show OwnEnds _ _ _ _ _ _ _ (T87.setTop (mkF m 179 #[.val (.int p0), .val (.ref b1), .val (.ref b39), .val (.int (10 : Int32))] [(.ref w_W2)]))
    obtain ⟨cq121, kq121, q121a, q121b, q121c⟩ := isOf hZ e87 (E_W2.ext OLD89.2)
    obtain ⟨v121, _, ⟨T121, L121, k121, n121⟩, -, X121, ⟨Lc121, hQ121, l121, y121, z121⟩, st121⟩ := X87.virtualBack hx (y := (⟨"com/example/ramparts/ramparts/tile/Segment", "next", "()Lcom/example/ramparts/ramparts/tile/Segment;"⟩ : MethodName)) (z := (⟨"com/example/ramparts/ramparts/tile/Segment", "next", "()Lcom/example/ramparts/ramparts/tile/Segment;"⟩ : MethodName)) hown (mvT hZ (hw _ (List.mem_of_getElem? (i := 29) rfl))) (mvT hZ (hw _ (List.mem_of_getElem? (i := 30) rfl))) (notFace_of_selects (args := #[]) (mvT hZ (hw _ (List.mem_of_getElem? (i := 32) rfl)))) (mvT hZ (hw _ (List.mem_of_getElem? (i := 32) rfl))) (mvT hZ (hw _ (List.mem_of_getElem? (i := 31) rfl))) (by decide) (backOf (W := 0) (rm2 l Z a0 hw [] w_W2 (10 : Int32) w_N1 w_N2 w_N3 w_E1 w_E2 w_E3 w_S1 w_S2 w_S3 w_W1 w_W2 w_W3 w_RING h87 n0 Z89 OLD89 (F_ordinal_W2.ext OLD89.2) (E_W2.ext OLD89.2) (by decide) S_RING V_RING) hZ (hw _ (List.mem_of_getElem? (i := 33) rfl)) (hw _ (List.mem_of_getElem? (i := 3) rfl)) (by decide) (by decide)) q121a q121c (g := (mkF m 179 #[.val (.int p0), .val (.ref b1), .val (.ref b39), .val (.int (10 : Int32))] [(.ref w_W2)])) rfl (by rw [hml]; rfl) (Steps.refl _) (argsL := []) (rest := []) (lenOf pd___Lcom_example_ramparts_ramparts_tile_Segment_ rfl) rfl (by show 2 * 0 + _ ≤ _; exact Nat.le_of_eq rfl) (hb hby at_179) (fun _ _ => ⟨rfl, e87, (by decide : 2 + 0 ≤ _), (by decide : 24 + 0 ≤ _)⟩)
    dsimp only [Pt.U, Pt.locs, Pt.cells, Pt.slots] at X121 l121 y121 z121 st121 hQ121
    subst l121 y121 z121
    obtain ⟨hv121, N121q, e121⟩ := hQ121
    obtain rfl : v121 = some (.ref w_W3) := hv121.trans (by simp [own_res])
    have N121 := Fr.app N89 N121q
    refine ogo (fun t k => st121.trans k) ?_
    show OwnEnds _ _ _ _ _ _ _ (T121.setTop (mkF m 182 #[.val (.int p0), .val (.ref b1), .val (.ref b39), .val (.int (10 : Int32))] [(.ref w_W3)]))
    refine ogo (fun t k => XS.aloadN X121.here hx rfl (hb hby at_182) rfl rfl k) ?_
    show OwnEnds _ _ _ _ _ _ _ (T121.setTop (mkF m 183 #[.val (.int p0), .val (.ref b1), .val (.ref b39), .val (.int (10 : Int32))] [(.ref b39), (.ref w_W3)]))
    refine ogo (fun t k => XS.iloadN X121.here hx rfl (hb hby at_183) rfl k) ?_
    show OwnEnds _ _ _ _ _ _ _ (T121.setTop (mkF m 184 #[.val (.int p0), .val (.ref b1), .val (.ref b39), .val (.int (10 : Int32))] [(.int (10 : Int32)), (.ref b39), (.ref w_W3)]))
    obtain ⟨cl122, Ar122, Aq122, As122, An122, Ah122, Ag122⟩ := id V87
    refine ogo (fun t k => X121.aaload hx (j := (10 : Int32)) (v := (.ref w_W3)) (by rw [e121]; exact Ar122.1) (State.isArrayOf_alike hZ.alike Ar122.2.1) rfl Ar122.2.2 (inb_of As122 ⟨by decide, by decide⟩) (Ah122.at (inb_of As122 ⟨by decide, by decide⟩) rfl) (g := (mkF m 184 #[.val (.int p0), .val (.ref b1), .val (.ref b39), .val (.int (10 : Int32))] [(.int (10 : Int32)), (.ref b39), (.ref w_W3)])) rfl rfl (hb hby at_184) t k) ?_
    show OwnEnds _ _ _ _ _ _ _ (T121.setTop (mkF m 185 #[.val (.int p0), .val (.ref b1), .val (.ref b39), .val (.int (10 : Int32))] [(.ref w_W3), (.ref w_W3)]))
    refine ogo (fun t k => Jvm.RoadKit.acmp (g := (mkF m 185 #[.val (.int p0), .val (.ref b1), .val (.ref b39), .val (.int (10 : Int32))] [(.ref w_W3), (.ref w_W3)])) X121 hx rfl rfl rfl (pc0 := 185) (pc' := 188) (same := true) rfl (hb hby at_185) rfl (decide_eq_true (congrArg Value.ref rfl)) (by decide) (by decide) k) ?_
    show OwnEnds _ _ _ _ _ _ _ (T121.setTop (mkF m 188 #[.val (.int p0), .val (.ref b1), .val (.ref b39), .val (.int (10 : Int32))] []))
    refine ogo (fun t k => XS.iconst X121.here hx rfl (hb hby at_188) k) ?_
    show OwnEnds _ _ _ _ _ _ _ (T121.setTop (mkF m 189 #[.val (.int p0), .val (.ref b1), .val (.ref b39), .val (.int (10 : Int32))] [(.int (1 : Int32))]))
    refine ogo (fun t k => XS.goto X121.here hx rfl (pc0 := 189) (pc' := 193) rfl (hb hby at_189) (by decide) (by decide) k) ?_
    show OwnEnds _ _ _ _ _ _ _ (T121.setTop (mkF m 193 #[.val (.int p0), .val (.ref b1), .val (.ref b39), .val (.int (10 : Int32))] [(.int (1 : Int32))]))
    refine endZ X121 hx hlk hret rfl (hb hby at_193) (by decide) (by decide) ?_
    show Q0 Z p0 w_N1 w_N2 w_N3 w_E1 w_E2 w_E3 w_S1 w_S2 w_S3 w_W1 w_W2 w_W3 w_RING h0 n0 _ T121.heap _
    rw [e121]
    exact ⟨rfl, N121⟩
  · show OwnEnds _ _ _ _ _ _ _ (T87.setTop (mkF m 175 #[.val (.int p0), .val (.ref b1), .val (.ref b39), .unset] [(.int (11 : Int32))]))
    refine ogo (fun t k => XS.istoreN X87.here hx rfl (hb hby at_175) rfl (l' := #[.val (.int p0), .val (.ref b1), .val (.ref b39), .val (.int (11 : Int32))]) rfl k) ?_
    show OwnEnds _ _ _ _ _ _ _ (T87.setTop (mkF m 176 #[.val (.int p0), .val (.ref b1), .val (.ref b39), .val (.int (11 : Int32))] []))
    refine ogo (fun t k => XS.aloadN X87.here hx rfl (hb hby at_176) rfl rfl k) ?_
    show OwnEnds _ _ _ _ _ _ _ (T87.setTop (mkF m 177 #[.val (.int p0), .val (.ref b1), .val (.ref b39), .val (.int (11 : Int32))] [(.ref b1)]))
    refine ogo (fun t k => XS.iloadN X87.here hx rfl (hb hby at_177) rfl k) ?_
    show OwnEnds _ _ _ _ _ _ _ (T87.setTop (mkF m 178 #[.val (.int p0), .val (.ref b1), .val (.ref b39), .val (.int (11 : Int32))] [(.int (11 : Int32)), (.ref b1)]))
    obtain ⟨cl123, Ar123, Aq123, As123, An123, Ah123, Ag123⟩ := id f88
    refine ogo (fun t k => X87.aaload hx (j := (11 : Int32)) (v := (.ref w_W3)) (by rw [e87]; exact Ar123.1) (State.isArrayOf_alike hZ.alike Ar123.2.1) rfl Ar123.2.2 (inb_of As123 ⟨by decide, by decide⟩) (Ah123.at (inb_of As123 ⟨by decide, by decide⟩) rfl) (g := (mkF m 178 #[.val (.int p0), .val (.ref b1), .val (.ref b39), .val (.int (11 : Int32))] [(.int (11 : Int32)), (.ref b1)])) rfl rfl (hb hby at_178) t k) ?_
    show OwnEnds _ _ _ _ _ _ _ (T87.setTop (mkF m 179 #[.val (.int p0), .val (.ref b1), .val (.ref b39), .val (.int (11 : Int32))] [(.ref w_W3)]))
    obtain ⟨cq124, kq124, q124a, q124b, q124c⟩ := isOf hZ e87 (E_W3.ext OLD89.2)
    obtain ⟨v124, _, ⟨T124, L124, k124, n124⟩, -, X124, ⟨Lc124, hQ124, l124, y124, z124⟩, st124⟩ := X87.virtualBack hx (y := (⟨"com/example/ramparts/ramparts/tile/Segment", "next", "()Lcom/example/ramparts/ramparts/tile/Segment;"⟩ : MethodName)) (z := (⟨"com/example/ramparts/ramparts/tile/Segment", "next", "()Lcom/example/ramparts/ramparts/tile/Segment;"⟩ : MethodName)) hown (mvT hZ (hw _ (List.mem_of_getElem? (i := 29) rfl))) (mvT hZ (hw _ (List.mem_of_getElem? (i := 30) rfl))) (notFace_of_selects (args := #[]) (mvT hZ (hw _ (List.mem_of_getElem? (i := 32) rfl)))) (mvT hZ (hw _ (List.mem_of_getElem? (i := 32) rfl))) (mvT hZ (hw _ (List.mem_of_getElem? (i := 31) rfl))) (by decide) (backOf (W := 0) (rm2 l Z a0 hw [] w_W3 (11 : Int32) w_N1 w_N2 w_N3 w_E1 w_E2 w_E3 w_S1 w_S2 w_S3 w_W1 w_W2 w_W3 w_RING h87 n0 Z89 OLD89 (F_ordinal_W3.ext OLD89.2) (E_W3.ext OLD89.2) (by decide) S_RING V_RING) hZ (hw _ (List.mem_of_getElem? (i := 33) rfl)) (hw _ (List.mem_of_getElem? (i := 3) rfl)) (by decide) (by decide)) q124a q124c (g := (mkF m 179 #[.val (.int p0), .val (.ref b1), .val (.ref b39), .val (.int (11 : Int32))] [(.ref w_W3)])) rfl (by rw [hml]; rfl) (Steps.refl _) (argsL := []) (rest := []) (lenOf pd___Lcom_example_ramparts_ramparts_tile_Segment_ rfl) rfl (by show 2 * 0 + _ ≤ _; exact Nat.le_of_eq rfl) (hb hby at_179) (fun _ _ => ⟨rfl, e87, (by decide : 2 + 0 ≤ _), (by decide : 24 + 0 ≤ _)⟩)
    dsimp only [Pt.U, Pt.locs, Pt.cells, Pt.slots] at X124 l124 y124 z124 st124 hQ124
    subst l124 y124 z124
    obtain ⟨hv124, N124q, e124⟩ := hQ124
    obtain rfl : v124 = some (.ref w_N1) := hv124.trans (by simp [own_res])
    have N124 := Fr.app N89 N124q
    refine ogo (fun t k => st124.trans k) ?_
    show OwnEnds _ _ _ _ _ _ _ (T124.setTop (mkF m 182 #[.val (.int p0), .val (.ref b1), .val (.ref b39), .val (.int (11 : Int32))] [(.ref w_N1)]))
    refine ogo (fun t k => XS.aloadN X124.here hx rfl (hb hby at_182) rfl rfl k) ?_
    show OwnEnds _ _ _ _ _ _ _ (T124.setTop (mkF m 183 #[.val (.int p0), .val (.ref b1), .val (.ref b39), .val (.int (11 : Int32))] [(.ref b39), (.ref w_N1)]))
    refine ogo (fun t k => XS.iloadN X124.here hx rfl (hb hby at_183) rfl k) ?_
    show OwnEnds _ _ _ _ _ _ _ (T124.setTop (mkF m 184 #[.val (.int p0), .val (.ref b1), .val (.ref b39), .val (.int (11 : Int32))] [(.int (11 : Int32)), (.ref b39), (.ref w_N1)]))
    obtain ⟨cl125, Ar125, Aq125, As125, An125, Ah125, Ag125⟩ := id V87
    refine ogo (fun t k => X124.aaload hx (j := (11 : Int32)) (v := (.ref w_N1)) (by rw [e124]; exact Ar125.1) (State.isArrayOf_alike hZ.alike Ar125.2.1) rfl Ar125.2.2 (inb_of As125 ⟨by decide, by decide⟩) (Ah125.at (inb_of As125 ⟨by decide, by decide⟩) rfl) (g := (mkF m 184 #[.val (.int p0), .val (.ref b1), .val (.ref b39), .val (.int (11 : Int32))] [(.int (11 : Int32)), (.ref b39), (.ref w_N1)])) rfl rfl (hb hby at_184) t k) ?_
    show OwnEnds _ _ _ _ _ _ _ (T124.setTop (mkF m 185 #[.val (.int p0), .val (.ref b1), .val (.ref b39), .val (.int (11 : Int32))] [(.ref w_N1), (.ref w_N1)]))
    refine ogo (fun t k => Jvm.RoadKit.acmp (g := (mkF m 185 #[.val (.int p0), .val (.ref b1), .val (.ref b39), .val (.int (11 : Int32))] [(.ref w_N1), (.ref w_N1)])) X124 hx rfl rfl rfl (pc0 := 185) (pc' := 188) (same := true) rfl (hb hby at_185) rfl (decide_eq_true (congrArg Value.ref rfl)) (by decide) (by decide) k) ?_
    show OwnEnds _ _ _ _ _ _ _ (T124.setTop (mkF m 188 #[.val (.int p0), .val (.ref b1), .val (.ref b39), .val (.int (11 : Int32))] []))
    refine ogo (fun t k => XS.iconst X124.here hx rfl (hb hby at_188) k) ?_
    show OwnEnds _ _ _ _ _ _ _ (T124.setTop (mkF m 189 #[.val (.int p0), .val (.ref b1), .val (.ref b39), .val (.int (11 : Int32))] [(.int (1 : Int32))]))
    refine ogo (fun t k => XS.goto X124.here hx rfl (pc0 := 189) (pc' := 193) rfl (hb hby at_189) (by decide) (by decide) k) ?_
    show OwnEnds _ _ _ _ _ _ _ (T124.setTop (mkF m 193 #[.val (.int p0), .val (.ref b1), .val (.ref b39), .val (.int (11 : Int32))] [(.int (1 : Int32))]))
    refine endZ X124 hx hlk hret rfl (hb hby at_193) (by decide) (by decide) ?_
    show Q0 Z p0 w_N1 w_N2 w_N3 w_E1 w_E2 w_E3 w_S1 w_S2 w_S3 w_W1 w_W2 w_W3 w_RING h0 n0 _ T124.heap _
    rw [e124]
    exact ⟨rfl, N124⟩
set_option maxRecDepth 65536 in
set_option maxHeartbeats 40000000 in
theorem rm0 (l : Launch) (Z : State) (a0 : Array Value) (hw : ∀ d ∈ tables_1, d.before a0 Z = true) (ws : List Jvm.Cond) (p0 : Int32) (w_N1 w_N2 w_N3 w_E1 w_E2 w_E3 w_S1 w_S2 w_S3 w_W1 w_W2 w_W3 w_RING : Addr) (h0 : Heap) (n0 : Nat) (Z0 : n0 ≤ h0.size) (OLD : Old Z n0 h0) (S_N1 : Sta Z Z.heap "com/example/ramparts/ramparts/tile/Segment" "N1" "Lcom/example/ramparts/ramparts/tile/Segment;" (.ref w_N1)) (E_N1 : Exa Z Z.heap w_N1 "com/example/ramparts/ramparts/tile/Segment") (F_ordinal_N1 : Fld Z Z.heap w_N1 "java/lang/Enum" "ordinal" "I" (.int (0 : Int32))) (S_N2 : Sta Z Z.heap "com/example/ramparts/ramparts/tile/Segment" "N2" "Lcom/example/ramparts/ramparts/tile/Segment;" (.ref w_N2)) (E_N2 : Exa Z Z.heap w_N2 "com/example/ramparts/ramparts/tile/Segment") (F_ordinal_N2 : Fld Z Z.heap w_N2 "java/lang/Enum" "ordinal" "I" (.int (1 : Int32))) (S_N3 : Sta Z Z.heap "com/example/ramparts/ramparts/tile/Segment" "N3" "Lcom/example/ramparts/ramparts/tile/Segment;" (.ref w_N3)) (E_N3 : Exa Z Z.heap w_N3 "com/example/ramparts/ramparts/tile/Segment") (F_ordinal_N3 : Fld Z Z.heap w_N3 "java/lang/Enum" "ordinal" "I" (.int (2 : Int32))) (S_E1 : Sta Z Z.heap "com/example/ramparts/ramparts/tile/Segment" "E1" "Lcom/example/ramparts/ramparts/tile/Segment;" (.ref w_E1)) (E_E1 : Exa Z Z.heap w_E1 "com/example/ramparts/ramparts/tile/Segment") (F_ordinal_E1 : Fld Z Z.heap w_E1 "java/lang/Enum" "ordinal" "I" (.int (3 : Int32))) (S_E2 : Sta Z Z.heap "com/example/ramparts/ramparts/tile/Segment" "E2" "Lcom/example/ramparts/ramparts/tile/Segment;" (.ref w_E2)) (E_E2 : Exa Z Z.heap w_E2 "com/example/ramparts/ramparts/tile/Segment") (F_ordinal_E2 : Fld Z Z.heap w_E2 "java/lang/Enum" "ordinal" "I" (.int (4 : Int32))) (S_E3 : Sta Z Z.heap "com/example/ramparts/ramparts/tile/Segment" "E3" "Lcom/example/ramparts/ramparts/tile/Segment;" (.ref w_E3)) (E_E3 : Exa Z Z.heap w_E3 "com/example/ramparts/ramparts/tile/Segment") (F_ordinal_E3 : Fld Z Z.heap w_E3 "java/lang/Enum" "ordinal" "I" (.int (5 : Int32))) (S_S1 : Sta Z Z.heap "com/example/ramparts/ramparts/tile/Segment" "S1" "Lcom/example/ramparts/ramparts/tile/Segment;" (.ref w_S1)) (E_S1 : Exa Z Z.heap w_S1 "com/example/ramparts/ramparts/tile/Segment") (F_ordinal_S1 : Fld Z Z.heap w_S1 "java/lang/Enum" "ordinal" "I" (.int (6 : Int32))) (S_S2 : Sta Z Z.heap "com/example/ramparts/ramparts/tile/Segment" "S2" "Lcom/example/ramparts/ramparts/tile/Segment;" (.ref w_S2)) (E_S2 : Exa Z Z.heap w_S2 "com/example/ramparts/ramparts/tile/Segment") (F_ordinal_S2 : Fld Z Z.heap w_S2 "java/lang/Enum" "ordinal" "I" (.int (7 : Int32))) (S_S3 : Sta Z Z.heap "com/example/ramparts/ramparts/tile/Segment" "S3" "Lcom/example/ramparts/ramparts/tile/Segment;" (.ref w_S3)) (E_S3 : Exa Z Z.heap w_S3 "com/example/ramparts/ramparts/tile/Segment") (F_ordinal_S3 : Fld Z Z.heap w_S3 "java/lang/Enum" "ordinal" "I" (.int (8 : Int32))) (S_W1 : Sta Z Z.heap "com/example/ramparts/ramparts/tile/Segment" "W1" "Lcom/example/ramparts/ramparts/tile/Segment;" (.ref w_W1)) (E_W1 : Exa Z Z.heap w_W1 "com/example/ramparts/ramparts/tile/Segment") (F_ordinal_W1 : Fld Z Z.heap w_W1 "java/lang/Enum" "ordinal" "I" (.int (9 : Int32))) (S_W2 : Sta Z Z.heap "com/example/ramparts/ramparts/tile/Segment" "W2" "Lcom/example/ramparts/ramparts/tile/Segment;" (.ref w_W2)) (E_W2 : Exa Z Z.heap w_W2 "com/example/ramparts/ramparts/tile/Segment") (F_ordinal_W2 : Fld Z Z.heap w_W2 "java/lang/Enum" "ordinal" "I" (.int (10 : Int32))) (S_W3 : Sta Z Z.heap "com/example/ramparts/ramparts/tile/Segment" "W3" "Lcom/example/ramparts/ramparts/tile/Segment;" (.ref w_W3)) (E_W3 : Exa Z Z.heap w_W3 "com/example/ramparts/ramparts/tile/Segment") (F_ordinal_W3 : Fld Z Z.heap w_W3 "java/lang/Enum" "ordinal" "I" (.int (11 : Int32))) (S_RING : Sta Z Z.heap "com/example/ramparts/ramparts/tile/Segment" "RING" "[Lcom/example/ramparts/ramparts/tile/Segment;" (.ref w_RING)) (V_RING : ∃ k, Arv Z Z.heap w_RING k (.object "com/example/ramparts/ramparts/tile/Segment") (12 : Int32) [(.ref w_N1), (.ref w_N2), (.ref w_N3), (.ref w_E1), (.ref w_E2), (.ref w_E3), (.ref w_S1), (.ref w_S2), (.ref w_S3), (.ref w_W1), (.ref w_W2), (.ref w_W3)] .null) :
    MetFree l x (head1 (Jvm.Cond.code x code maxLocals ret :: ws) room_1) (fun a U => a = #[(.int p0)] ∧ Z.Warmed39 U.vm ∧ U.heap = h0) (fun _ _ _ _ _ => True) (fun _ U o U' => ∃ v L, o = .returned v ∧ Q0 Z p0 w_N1 w_N2 w_N3 w_E1 w_E2 w_E3 w_S1 w_S2 w_S3 w_W1 w_W2 w_W3 w_RING h0 n0 v U'.heap L ∧ FrameEnd U o U' L 16 128) := by
  refine MetFree.of_bodySF (plainFor_of_name pn_SegmentNextPinLaw) hisR ?_
  intro p e s m args below meth c s₁ Bd hml0 hP hK
  obtain ⟨rfl, hZ, hh⟩ := hP
  have hx := Bd.exec
  have hby := Bd.bytes
  have hml : c.maxLocals = 4 := hml0
  have hown : s.vm.findClass "com/example/ramparts/ramparts/tile/SegmentNextPinLaw" = some m.cls := findClass_of_methodNamed Bd.named
  have hnm := (name_of_methodNamed Bd.named Bd.method).1
  have hlk : meth.locks = false := BodyLoose.notSynchronized Bd
  have hret := Bd.returns
  have X0 : Stand p l e room_1 s m #[(.int p0)] below meth c s₁ [] 0 0 := Stand.of_body Bd
  have e0 : s₁.heap = h0 := by rw [← hh, Bd.state]; rfl
  have N0 := Fr.nil n0
  refine ogo (U' := s₁.setTop (mkF m 0 #[.val (.int p0), .unset, .unset, .unset] [])) (Q := Q0 Z p0 w_N1 w_N2 w_N3 w_E1 w_E2 w_E3 w_S1 w_S2 w_S3 w_W1 w_W2 w_W3 w_RING h0 n0) (K := 16) (N := 128) (fun t k => castTop (ef_0 m p0) k) ?_
  show OwnEnds _ _ _ _ _ _ _ (s₁.setTop (mkF m 0 #[.val (.int p0), .unset, .unset, .unset] []))
  refine ogo (fun t k => XS.bipush X0.here hx rfl (hb hby at_0) k) ?_
  show OwnEnds _ _ _ _ _ _ _ (s₁.setTop (mkF m 2 #[.val (.int p0), .unset, .unset, .unset] [(.int (12 : Int32))]))
  obtain ⟨T1, h1, k1, X1, e1, E1, A1, O1, st1⟩ := newR X0 hx hZ hown (hw _ (List.mem_of_getElem? (i := 0) rfl)) (hw _ (List.mem_of_getElem? (i := 1) rfl)) e0 (g := (mkF m 2 #[.val (.int p0), .unset, .unset, .unset] [(.int (12 : Int32))])) rfl (hb hby at_2) rfl (by decide) (cap := 12) (by decide) (by decide) (by decide) (by decide)
  obtain ⟨b1, g1⟩ : ∃ z, z = h0.size := ⟨_, rfl⟩
  rw [← g1] at A1 st1
  have q_b1 : n0 ≤ b1 := Nat.le_trans Z0 (Nat.le_of_eq g1.symm)
  have sz_b1 : h0.size ≤ b1 := Nat.le_trans (Keep.refl h0 []).1 (Nat.le_of_eq g1.symm)
  have OLD2 := OLD.ext E1
  have K2 := (Keep.refl h0 []).ext E1
  have Z2 := Nat.le_trans Z0 E1.1
  have V1 : Arv Z h1 b1 k1 (.object "com/example/ramparts/ramparts/tile/Segment") (12 : Int32) [.null, .null, .null, .null, .null, .null, .null, .null, .null, .null, .null, .null] .null := (Arv.new A1 (by decide)).pad (pad_rep [] .null 12)
  refine ogo st1 ?_
  show OwnEnds _ _ _ _ _ _ _ (T1.setTop (mkF m 5 #[.val (.int p0), .unset, .unset, .unset] [(.ref b1)]))
  refine ogo (fun t k => XS.dup X1.here hx rfl (hb hby at_5) rfl rfl k) ?_
  show OwnEnds _ _ _ _ _ _ _ (T1.setTop (mkF m 6 #[.val (.int p0), .unset, .unset, .unset] [(.ref b1), (.ref b1)]))
  refine ogo (fun t k => XS.iconst X1.here hx rfl (hb hby at_6) k) ?_
  show OwnEnds _ _ _ _ _ _ _ (T1.setTop (mkF m 7 #[.val (.int p0), .unset, .unset, .unset] [(.int (0 : Int32)), (.ref b1), (.ref b1)]))
  obtain ⟨T3, X3, e3, st3⟩ := getS2 X1 hx hZ hown (host := "") (Or.inl (hw _ (List.mem_of_getElem? (i := 2) rfl))) Via.refl e1 (S_N1.ext OLD2.2) (g := (mkF m 7 #[.val (.int p0), .unset, .unset, .unset] [(.int (0 : Int32)), (.ref b1), (.ref b1)])) rfl (hb hby at_7)
  refine ogo st3 ?_
  show OwnEnds _ _ _ _ _ _ _ (T3.setTop (mkF m 10 #[.val (.int p0), .unset, .unset, .unset] [(.ref w_N1), (.int (0 : Int32)), (.ref b1), (.ref b1)]))
  obtain ⟨cl4, Ar4, Aq4, As4, An4, Ah4, Ag4⟩ := id V1
  obtain ⟨T4, h4, X4, e4, W4, st4⟩ := stR X3 hx hZ e3 Ar4 (j := (0 : Int32)) (inb_of As4 ⟨by decide, by decide⟩) rfl (Sto.ofV Ar4 Aq4 O1 (Ins.self (E_N1.ext OLD2.2))) (g := (mkF m 10 #[.val (.int p0), .unset, .unset, .unset] [(.ref w_N1), (.int (0 : Int32)), (.ref b1), (.ref b1)])) rfl rfl (hb hby at_10)
  have V4 : Arv Z h4 b1 k1 (.object "com/example/ramparts/ramparts/tile/Segment") (12 : Int32) [(.ref w_N1), .null, .null, .null, .null, .null, .null, .null, .null, .null, .null, .null] .null := Arv.set Ar4 Aq4 As4 An4 Ah4 Ag4 rfl W4 0 rfl (Nat.le_of_ble_eq_true rfl)
  have N5 := Fr.snoc X4 N0 q_b1
  have OLD5 := OLD2.wr W4 q_b1
  have K5 := K2.wr W4 (Or.inr sz_b1)
  have Z5 := Nat.le_trans Z2 (Nat.le_of_eq W4.size.symm)
  refine ogo st4 ?_
  show OwnEnds _ _ _ _ _ _ _ (T4.setTop (mkF m 11 #[.val (.int p0), .unset, .unset, .unset] [(.ref b1)]))
  refine ogo (fun t k => XS.dup X4.here hx rfl (hb hby at_11) rfl rfl k) ?_
  show OwnEnds _ _ _ _ _ _ _ (T4.setTop (mkF m 12 #[.val (.int p0), .unset, .unset, .unset] [(.ref b1), (.ref b1)]))
  refine ogo (fun t k => XS.iconst X4.here hx rfl (hb hby at_12) k) ?_
  show OwnEnds _ _ _ _ _ _ _ (T4.setTop (mkF m 13 #[.val (.int p0), .unset, .unset, .unset] [(.int (1 : Int32)), (.ref b1), (.ref b1)]))
  obtain ⟨T6, X6, e6, st6⟩ := getS2 X4 hx hZ hown (host := "") (Or.inl (hw _ (List.mem_of_getElem? (i := 6) rfl))) Via.refl e4 (S_N2.ext OLD5.2) (g := (mkF m 13 #[.val (.int p0), .unset, .unset, .unset] [(.int (1 : Int32)), (.ref b1), (.ref b1)])) rfl (hb hby at_13)
  refine ogo st6 ?_
  show OwnEnds _ _ _ _ _ _ _ (T6.setTop (mkF m 16 #[.val (.int p0), .unset, .unset, .unset] [(.ref w_N2), (.int (1 : Int32)), (.ref b1), (.ref b1)]))
  obtain ⟨cl7, Ar7, Aq7, As7, An7, Ah7, Ag7⟩ := id V4
  obtain ⟨T7, h7, X7, e7, W7, st7⟩ := stR X6 hx hZ e6 Ar7 (j := (1 : Int32)) (inb_of As7 ⟨by decide, by decide⟩) rfl (Sto.ofV Ar7 Aq7 O1 (Ins.self (E_N2.ext OLD5.2))) (g := (mkF m 16 #[.val (.int p0), .unset, .unset, .unset] [(.ref w_N2), (.int (1 : Int32)), (.ref b1), (.ref b1)])) rfl rfl (hb hby at_16)
  have V7 : Arv Z h7 b1 k1 (.object "com/example/ramparts/ramparts/tile/Segment") (12 : Int32) [(.ref w_N1), (.ref w_N2), .null, .null, .null, .null, .null, .null, .null, .null, .null, .null] .null := Arv.set Ar7 Aq7 As7 An7 Ah7 Ag7 rfl W7 1 rfl (Nat.le_of_ble_eq_true rfl)
  have N8 := Fr.snoc X7 N5 q_b1
  have OLD8 := OLD5.wr W7 q_b1
  have K8 := K5.wr W7 (Or.inr sz_b1)
  have Z8 := Nat.le_trans Z5 (Nat.le_of_eq W7.size.symm)
  refine ogo st7 ?_
  show OwnEnds _ _ _ _ _ _ _ (T7.setTop (mkF m 17 #[.val (.int p0), .unset, .unset, .unset] [(.ref b1)]))
  refine ogo (fun t k => XS.dup X7.here hx rfl (hb hby at_17) rfl rfl k) ?_
  show OwnEnds _ _ _ _ _ _ _ (T7.setTop (mkF m 18 #[.val (.int p0), .unset, .unset, .unset] [(.ref b1), (.ref b1)]))
  refine ogo (fun t k => XS.iconst X7.here hx rfl (hb hby at_18) k) ?_
  show OwnEnds _ _ _ _ _ _ _ (T7.setTop (mkF m 19 #[.val (.int p0), .unset, .unset, .unset] [(.int (2 : Int32)), (.ref b1), (.ref b1)]))
  obtain ⟨T9, X9, e9, st9⟩ := getS2 X7 hx hZ hown (host := "") (Or.inl (hw _ (List.mem_of_getElem? (i := 8) rfl))) Via.refl e7 (S_N3.ext OLD8.2) (g := (mkF m 19 #[.val (.int p0), .unset, .unset, .unset] [(.int (2 : Int32)), (.ref b1), (.ref b1)])) rfl (hb hby at_19)
  refine ogo st9 ?_
  show OwnEnds _ _ _ _ _ _ _ (T9.setTop (mkF m 22 #[.val (.int p0), .unset, .unset, .unset] [(.ref w_N3), (.int (2 : Int32)), (.ref b1), (.ref b1)]))
  obtain ⟨cl10, Ar10, Aq10, As10, An10, Ah10, Ag10⟩ := id V7
  obtain ⟨T10, h10, X10, e10, W10, st10⟩ := stR X9 hx hZ e9 Ar10 (j := (2 : Int32)) (inb_of As10 ⟨by decide, by decide⟩) rfl (Sto.ofV Ar10 Aq10 O1 (Ins.self (E_N3.ext OLD8.2))) (g := (mkF m 22 #[.val (.int p0), .unset, .unset, .unset] [(.ref w_N3), (.int (2 : Int32)), (.ref b1), (.ref b1)])) rfl rfl (hb hby at_22)
  have V10 : Arv Z h10 b1 k1 (.object "com/example/ramparts/ramparts/tile/Segment") (12 : Int32) [(.ref w_N1), (.ref w_N2), (.ref w_N3), .null, .null, .null, .null, .null, .null, .null, .null, .null] .null := Arv.set Ar10 Aq10 As10 An10 Ah10 Ag10 rfl W10 2 rfl (Nat.le_of_ble_eq_true rfl)
  have N11 := Fr.snoc X10 N8 q_b1
  have OLD11 := OLD8.wr W10 q_b1
  have K11 := K8.wr W10 (Or.inr sz_b1)
  have Z11 := Nat.le_trans Z8 (Nat.le_of_eq W10.size.symm)
  refine ogo st10 ?_
  show OwnEnds _ _ _ _ _ _ _ (T10.setTop (mkF m 23 #[.val (.int p0), .unset, .unset, .unset] [(.ref b1)]))
  refine ogo (fun t k => XS.dup X10.here hx rfl (hb hby at_23) rfl rfl k) ?_
  show OwnEnds _ _ _ _ _ _ _ (T10.setTop (mkF m 24 #[.val (.int p0), .unset, .unset, .unset] [(.ref b1), (.ref b1)]))
  refine ogo (fun t k => XS.iconst X10.here hx rfl (hb hby at_24) k) ?_
  show OwnEnds _ _ _ _ _ _ _ (T10.setTop (mkF m 25 #[.val (.int p0), .unset, .unset, .unset] [(.int (3 : Int32)), (.ref b1), (.ref b1)]))
  obtain ⟨T12, X12, e12, st12⟩ := getS2 X10 hx hZ hown (host := "") (Or.inl (hw _ (List.mem_of_getElem? (i := 10) rfl))) Via.refl e10 (S_E1.ext OLD11.2) (g := (mkF m 25 #[.val (.int p0), .unset, .unset, .unset] [(.int (3 : Int32)), (.ref b1), (.ref b1)])) rfl (hb hby at_25)
  refine ogo st12 ?_
  show OwnEnds _ _ _ _ _ _ _ (T12.setTop (mkF m 28 #[.val (.int p0), .unset, .unset, .unset] [(.ref w_E1), (.int (3 : Int32)), (.ref b1), (.ref b1)]))
  obtain ⟨cl13, Ar13, Aq13, As13, An13, Ah13, Ag13⟩ := id V10
  obtain ⟨T13, h13, X13, e13, W13, st13⟩ := stR X12 hx hZ e12 Ar13 (j := (3 : Int32)) (inb_of As13 ⟨by decide, by decide⟩) rfl (Sto.ofV Ar13 Aq13 O1 (Ins.self (E_E1.ext OLD11.2))) (g := (mkF m 28 #[.val (.int p0), .unset, .unset, .unset] [(.ref w_E1), (.int (3 : Int32)), (.ref b1), (.ref b1)])) rfl rfl (hb hby at_28)
  have V13 : Arv Z h13 b1 k1 (.object "com/example/ramparts/ramparts/tile/Segment") (12 : Int32) [(.ref w_N1), (.ref w_N2), (.ref w_N3), (.ref w_E1), .null, .null, .null, .null, .null, .null, .null, .null] .null := Arv.set Ar13 Aq13 As13 An13 Ah13 Ag13 rfl W13 3 rfl (Nat.le_of_ble_eq_true rfl)
  have N14 := Fr.snoc X13 N11 q_b1
  have OLD14 := OLD11.wr W13 q_b1
  have K14 := K11.wr W13 (Or.inr sz_b1)
  have Z14 := Nat.le_trans Z11 (Nat.le_of_eq W13.size.symm)
  refine ogo st13 ?_
  show OwnEnds _ _ _ _ _ _ _ (T13.setTop (mkF m 29 #[.val (.int p0), .unset, .unset, .unset] [(.ref b1)]))
  refine ogo (fun t k => XS.dup X13.here hx rfl (hb hby at_29) rfl rfl k) ?_
  show OwnEnds _ _ _ _ _ _ _ (T13.setTop (mkF m 30 #[.val (.int p0), .unset, .unset, .unset] [(.ref b1), (.ref b1)]))
  refine ogo (fun t k => XS.iconst X13.here hx rfl (hb hby at_30) k) ?_
  show OwnEnds _ _ _ _ _ _ _ (T13.setTop (mkF m 31 #[.val (.int p0), .unset, .unset, .unset] [(.int (4 : Int32)), (.ref b1), (.ref b1)]))
  obtain ⟨T15, X15, e15, st15⟩ := getS2 X13 hx hZ hown (host := "") (Or.inl (hw _ (List.mem_of_getElem? (i := 12) rfl))) Via.refl e13 (S_E2.ext OLD14.2) (g := (mkF m 31 #[.val (.int p0), .unset, .unset, .unset] [(.int (4 : Int32)), (.ref b1), (.ref b1)])) rfl (hb hby at_31)
  refine ogo st15 ?_
  show OwnEnds _ _ _ _ _ _ _ (T15.setTop (mkF m 34 #[.val (.int p0), .unset, .unset, .unset] [(.ref w_E2), (.int (4 : Int32)), (.ref b1), (.ref b1)]))
  obtain ⟨cl16, Ar16, Aq16, As16, An16, Ah16, Ag16⟩ := id V13
  obtain ⟨T16, h16, X16, e16, W16, st16⟩ := stR X15 hx hZ e15 Ar16 (j := (4 : Int32)) (inb_of As16 ⟨by decide, by decide⟩) rfl (Sto.ofV Ar16 Aq16 O1 (Ins.self (E_E2.ext OLD14.2))) (g := (mkF m 34 #[.val (.int p0), .unset, .unset, .unset] [(.ref w_E2), (.int (4 : Int32)), (.ref b1), (.ref b1)])) rfl rfl (hb hby at_34)
  have V16 : Arv Z h16 b1 k1 (.object "com/example/ramparts/ramparts/tile/Segment") (12 : Int32) [(.ref w_N1), (.ref w_N2), (.ref w_N3), (.ref w_E1), (.ref w_E2), .null, .null, .null, .null, .null, .null, .null] .null := Arv.set Ar16 Aq16 As16 An16 Ah16 Ag16 rfl W16 4 rfl (Nat.le_of_ble_eq_true rfl)
  have N17 := Fr.snoc X16 N14 q_b1
  have OLD17 := OLD14.wr W16 q_b1
  have K17 := K14.wr W16 (Or.inr sz_b1)
  have Z17 := Nat.le_trans Z14 (Nat.le_of_eq W16.size.symm)
  refine ogo st16 ?_
  show OwnEnds _ _ _ _ _ _ _ (T16.setTop (mkF m 35 #[.val (.int p0), .unset, .unset, .unset] [(.ref b1)]))
  refine ogo (fun t k => XS.dup X16.here hx rfl (hb hby at_35) rfl rfl k) ?_
  show OwnEnds _ _ _ _ _ _ _ (T16.setTop (mkF m 36 #[.val (.int p0), .unset, .unset, .unset] [(.ref b1), (.ref b1)]))
  refine ogo (fun t k => XS.iconst X16.here hx rfl (hb hby at_36) k) ?_
  show OwnEnds _ _ _ _ _ _ _ (T16.setTop (mkF m 37 #[.val (.int p0), .unset, .unset, .unset] [(.int (5 : Int32)), (.ref b1), (.ref b1)]))
  obtain ⟨T18, X18, e18, st18⟩ := getS2 X16 hx hZ hown (host := "") (Or.inl (hw _ (List.mem_of_getElem? (i := 14) rfl))) Via.refl e16 (S_E3.ext OLD17.2) (g := (mkF m 37 #[.val (.int p0), .unset, .unset, .unset] [(.int (5 : Int32)), (.ref b1), (.ref b1)])) rfl (hb hby at_37)
  refine ogo st18 ?_
  show OwnEnds _ _ _ _ _ _ _ (T18.setTop (mkF m 40 #[.val (.int p0), .unset, .unset, .unset] [(.ref w_E3), (.int (5 : Int32)), (.ref b1), (.ref b1)]))
  obtain ⟨cl19, Ar19, Aq19, As19, An19, Ah19, Ag19⟩ := id V16
  obtain ⟨T19, h19, X19, e19, W19, st19⟩ := stR X18 hx hZ e18 Ar19 (j := (5 : Int32)) (inb_of As19 ⟨by decide, by decide⟩) rfl (Sto.ofV Ar19 Aq19 O1 (Ins.self (E_E3.ext OLD17.2))) (g := (mkF m 40 #[.val (.int p0), .unset, .unset, .unset] [(.ref w_E3), (.int (5 : Int32)), (.ref b1), (.ref b1)])) rfl rfl (hb hby at_40)
  have V19 : Arv Z h19 b1 k1 (.object "com/example/ramparts/ramparts/tile/Segment") (12 : Int32) [(.ref w_N1), (.ref w_N2), (.ref w_N3), (.ref w_E1), (.ref w_E2), (.ref w_E3), .null, .null, .null, .null, .null, .null] .null := Arv.set Ar19 Aq19 As19 An19 Ah19 Ag19 rfl W19 5 rfl (Nat.le_of_ble_eq_true rfl)
  have N20 := Fr.snoc X19 N17 q_b1
  have OLD20 := OLD17.wr W19 q_b1
  have K20 := K17.wr W19 (Or.inr sz_b1)
  have Z20 := Nat.le_trans Z17 (Nat.le_of_eq W19.size.symm)
  refine ogo st19 ?_
  show OwnEnds _ _ _ _ _ _ _ (T19.setTop (mkF m 41 #[.val (.int p0), .unset, .unset, .unset] [(.ref b1)]))
  refine ogo (fun t k => XS.dup X19.here hx rfl (hb hby at_41) rfl rfl k) ?_
  show OwnEnds _ _ _ _ _ _ _ (T19.setTop (mkF m 42 #[.val (.int p0), .unset, .unset, .unset] [(.ref b1), (.ref b1)]))
  refine ogo (fun t k => XS.bipush X19.here hx rfl (hb hby at_42) k) ?_
  show OwnEnds _ _ _ _ _ _ _ (T19.setTop (mkF m 44 #[.val (.int p0), .unset, .unset, .unset] [(.int (6 : Int32)), (.ref b1), (.ref b1)]))
  obtain ⟨T21, X21, e21, st21⟩ := getS2 X19 hx hZ hown (host := "") (Or.inl (hw _ (List.mem_of_getElem? (i := 16) rfl))) Via.refl e19 (S_S1.ext OLD20.2) (g := (mkF m 44 #[.val (.int p0), .unset, .unset, .unset] [(.int (6 : Int32)), (.ref b1), (.ref b1)])) rfl (hb hby at_44)
  refine ogo st21 ?_
  show OwnEnds _ _ _ _ _ _ _ (T21.setTop (mkF m 47 #[.val (.int p0), .unset, .unset, .unset] [(.ref w_S1), (.int (6 : Int32)), (.ref b1), (.ref b1)]))
  obtain ⟨cl22, Ar22, Aq22, As22, An22, Ah22, Ag22⟩ := id V19
  obtain ⟨T22, h22, X22, e22, W22, st22⟩ := stR X21 hx hZ e21 Ar22 (j := (6 : Int32)) (inb_of As22 ⟨by decide, by decide⟩) rfl (Sto.ofV Ar22 Aq22 O1 (Ins.self (E_S1.ext OLD20.2))) (g := (mkF m 47 #[.val (.int p0), .unset, .unset, .unset] [(.ref w_S1), (.int (6 : Int32)), (.ref b1), (.ref b1)])) rfl rfl (hb hby at_47)
  have V22 : Arv Z h22 b1 k1 (.object "com/example/ramparts/ramparts/tile/Segment") (12 : Int32) [(.ref w_N1), (.ref w_N2), (.ref w_N3), (.ref w_E1), (.ref w_E2), (.ref w_E3), (.ref w_S1), .null, .null, .null, .null, .null] .null := Arv.set Ar22 Aq22 As22 An22 Ah22 Ag22 rfl W22 6 rfl (Nat.le_of_ble_eq_true rfl)
  have N23 := Fr.snoc X22 N20 q_b1
  have OLD23 := OLD20.wr W22 q_b1
  have K23 := K20.wr W22 (Or.inr sz_b1)
  have Z23 := Nat.le_trans Z20 (Nat.le_of_eq W22.size.symm)
  refine ogo st22 ?_
  show OwnEnds _ _ _ _ _ _ _ (T22.setTop (mkF m 48 #[.val (.int p0), .unset, .unset, .unset] [(.ref b1)]))
  refine ogo (fun t k => XS.dup X22.here hx rfl (hb hby at_48) rfl rfl k) ?_
  show OwnEnds _ _ _ _ _ _ _ (T22.setTop (mkF m 49 #[.val (.int p0), .unset, .unset, .unset] [(.ref b1), (.ref b1)]))
  refine ogo (fun t k => XS.bipush X22.here hx rfl (hb hby at_49) k) ?_
  show OwnEnds _ _ _ _ _ _ _ (T22.setTop (mkF m 51 #[.val (.int p0), .unset, .unset, .unset] [(.int (7 : Int32)), (.ref b1), (.ref b1)]))
  obtain ⟨T24, X24, e24, st24⟩ := getS2 X22 hx hZ hown (host := "") (Or.inl (hw _ (List.mem_of_getElem? (i := 18) rfl))) Via.refl e22 (S_S2.ext OLD23.2) (g := (mkF m 51 #[.val (.int p0), .unset, .unset, .unset] [(.int (7 : Int32)), (.ref b1), (.ref b1)])) rfl (hb hby at_51)
  refine ogo st24 ?_
  show OwnEnds _ _ _ _ _ _ _ (T24.setTop (mkF m 54 #[.val (.int p0), .unset, .unset, .unset] [(.ref w_S2), (.int (7 : Int32)), (.ref b1), (.ref b1)]))
  obtain ⟨cl25, Ar25, Aq25, As25, An25, Ah25, Ag25⟩ := id V22
  obtain ⟨T25, h25, X25, e25, W25, st25⟩ := stR X24 hx hZ e24 Ar25 (j := (7 : Int32)) (inb_of As25 ⟨by decide, by decide⟩) rfl (Sto.ofV Ar25 Aq25 O1 (Ins.self (E_S2.ext OLD23.2))) (g := (mkF m 54 #[.val (.int p0), .unset, .unset, .unset] [(.ref w_S2), (.int (7 : Int32)), (.ref b1), (.ref b1)])) rfl rfl (hb hby at_54)
  have V25 : Arv Z h25 b1 k1 (.object "com/example/ramparts/ramparts/tile/Segment") (12 : Int32) [(.ref w_N1), (.ref w_N2), (.ref w_N3), (.ref w_E1), (.ref w_E2), (.ref w_E3), (.ref w_S1), (.ref w_S2), .null, .null, .null, .null] .null := Arv.set Ar25 Aq25 As25 An25 Ah25 Ag25 rfl W25 7 rfl (Nat.le_of_ble_eq_true rfl)
  have N26 := Fr.snoc X25 N23 q_b1
  have OLD26 := OLD23.wr W25 q_b1
  have K26 := K23.wr W25 (Or.inr sz_b1)
  have Z26 := Nat.le_trans Z23 (Nat.le_of_eq W25.size.symm)
  refine ogo st25 ?_
  show OwnEnds _ _ _ _ _ _ _ (T25.setTop (mkF m 55 #[.val (.int p0), .unset, .unset, .unset] [(.ref b1)]))
  refine ogo (fun t k => XS.dup X25.here hx rfl (hb hby at_55) rfl rfl k) ?_
  show OwnEnds _ _ _ _ _ _ _ (T25.setTop (mkF m 56 #[.val (.int p0), .unset, .unset, .unset] [(.ref b1), (.ref b1)]))
  refine ogo (fun t k => XS.bipush X25.here hx rfl (hb hby at_56) k) ?_
  show OwnEnds _ _ _ _ _ _ _ (T25.setTop (mkF m 58 #[.val (.int p0), .unset, .unset, .unset] [(.int (8 : Int32)), (.ref b1), (.ref b1)]))
  obtain ⟨T27, X27, e27, st27⟩ := getS2 X25 hx hZ hown (host := "") (Or.inl (hw _ (List.mem_of_getElem? (i := 20) rfl))) Via.refl e25 (S_S3.ext OLD26.2) (g := (mkF m 58 #[.val (.int p0), .unset, .unset, .unset] [(.int (8 : Int32)), (.ref b1), (.ref b1)])) rfl (hb hby at_58)
  refine ogo st27 ?_
  show OwnEnds _ _ _ _ _ _ _ (T27.setTop (mkF m 61 #[.val (.int p0), .unset, .unset, .unset] [(.ref w_S3), (.int (8 : Int32)), (.ref b1), (.ref b1)]))
  obtain ⟨cl28, Ar28, Aq28, As28, An28, Ah28, Ag28⟩ := id V25
  obtain ⟨T28, h28, X28, e28, W28, st28⟩ := stR X27 hx hZ e27 Ar28 (j := (8 : Int32)) (inb_of As28 ⟨by decide, by decide⟩) rfl (Sto.ofV Ar28 Aq28 O1 (Ins.self (E_S3.ext OLD26.2))) (g := (mkF m 61 #[.val (.int p0), .unset, .unset, .unset] [(.ref w_S3), (.int (8 : Int32)), (.ref b1), (.ref b1)])) rfl rfl (hb hby at_61)
  have V28 : Arv Z h28 b1 k1 (.object "com/example/ramparts/ramparts/tile/Segment") (12 : Int32) [(.ref w_N1), (.ref w_N2), (.ref w_N3), (.ref w_E1), (.ref w_E2), (.ref w_E3), (.ref w_S1), (.ref w_S2), (.ref w_S3), .null, .null, .null] .null := Arv.set Ar28 Aq28 As28 An28 Ah28 Ag28 rfl W28 8 rfl (Nat.le_of_ble_eq_true rfl)
  have N29 := Fr.snoc X28 N26 q_b1
  have OLD29 := OLD26.wr W28 q_b1
  have K29 := K26.wr W28 (Or.inr sz_b1)
  have Z29 := Nat.le_trans Z26 (Nat.le_of_eq W28.size.symm)
  refine ogo st28 ?_
  show OwnEnds _ _ _ _ _ _ _ (T28.setTop (mkF m 62 #[.val (.int p0), .unset, .unset, .unset] [(.ref b1)]))
  refine ogo (fun t k => XS.dup X28.here hx rfl (hb hby at_62) rfl rfl k) ?_
  show OwnEnds _ _ _ _ _ _ _ (T28.setTop (mkF m 63 #[.val (.int p0), .unset, .unset, .unset] [(.ref b1), (.ref b1)]))
  refine ogo (fun t k => XS.bipush X28.here hx rfl (hb hby at_63) k) ?_
  show OwnEnds _ _ _ _ _ _ _ (T28.setTop (mkF m 65 #[.val (.int p0), .unset, .unset, .unset] [(.int (9 : Int32)), (.ref b1), (.ref b1)]))
  obtain ⟨T30, X30, e30, st30⟩ := getS2 X28 hx hZ hown (host := "") (Or.inl (hw _ (List.mem_of_getElem? (i := 22) rfl))) Via.refl e28 (S_W1.ext OLD29.2) (g := (mkF m 65 #[.val (.int p0), .unset, .unset, .unset] [(.int (9 : Int32)), (.ref b1), (.ref b1)])) rfl (hb hby at_65)
  refine ogo st30 ?_
  show OwnEnds _ _ _ _ _ _ _ (T30.setTop (mkF m 68 #[.val (.int p0), .unset, .unset, .unset] [(.ref w_W1), (.int (9 : Int32)), (.ref b1), (.ref b1)]))
  obtain ⟨cl31, Ar31, Aq31, As31, An31, Ah31, Ag31⟩ := id V28
  obtain ⟨T31, h31, X31, e31, W31, st31⟩ := stR X30 hx hZ e30 Ar31 (j := (9 : Int32)) (inb_of As31 ⟨by decide, by decide⟩) rfl (Sto.ofV Ar31 Aq31 O1 (Ins.self (E_W1.ext OLD29.2))) (g := (mkF m 68 #[.val (.int p0), .unset, .unset, .unset] [(.ref w_W1), (.int (9 : Int32)), (.ref b1), (.ref b1)])) rfl rfl (hb hby at_68)
  have V31 : Arv Z h31 b1 k1 (.object "com/example/ramparts/ramparts/tile/Segment") (12 : Int32) [(.ref w_N1), (.ref w_N2), (.ref w_N3), (.ref w_E1), (.ref w_E2), (.ref w_E3), (.ref w_S1), (.ref w_S2), (.ref w_S3), (.ref w_W1), .null, .null] .null := Arv.set Ar31 Aq31 As31 An31 Ah31 Ag31 rfl W31 9 rfl (Nat.le_of_ble_eq_true rfl)
  have N32 := Fr.snoc X31 N29 q_b1
  have OLD32 := OLD29.wr W31 q_b1
  have K32 := K29.wr W31 (Or.inr sz_b1)
  have Z32 := Nat.le_trans Z29 (Nat.le_of_eq W31.size.symm)
  refine ogo st31 ?_
  show OwnEnds _ _ _ _ _ _ _ (T31.setTop (mkF m 69 #[.val (.int p0), .unset, .unset, .unset] [(.ref b1)]))
  refine ogo (fun t k => XS.dup X31.here hx rfl (hb hby at_69) rfl rfl k) ?_
  show OwnEnds _ _ _ _ _ _ _ (T31.setTop (mkF m 70 #[.val (.int p0), .unset, .unset, .unset] [(.ref b1), (.ref b1)]))
  refine ogo (fun t k => XS.bipush X31.here hx rfl (hb hby at_70) k) ?_
  show OwnEnds _ _ _ _ _ _ _ (T31.setTop (mkF m 72 #[.val (.int p0), .unset, .unset, .unset] [(.int (10 : Int32)), (.ref b1), (.ref b1)]))
  obtain ⟨T33, X33, e33, st33⟩ := getS2 X31 hx hZ hown (host := "") (Or.inl (hw _ (List.mem_of_getElem? (i := 24) rfl))) Via.refl e31 (S_W2.ext OLD32.2) (g := (mkF m 72 #[.val (.int p0), .unset, .unset, .unset] [(.int (10 : Int32)), (.ref b1), (.ref b1)])) rfl (hb hby at_72)
  refine ogo st33 ?_
  show OwnEnds _ _ _ _ _ _ _ (T33.setTop (mkF m 75 #[.val (.int p0), .unset, .unset, .unset] [(.ref w_W2), (.int (10 : Int32)), (.ref b1), (.ref b1)]))
  obtain ⟨cl34, Ar34, Aq34, As34, An34, Ah34, Ag34⟩ := id V31
  obtain ⟨T34, h34, X34, e34, W34, st34⟩ := stR X33 hx hZ e33 Ar34 (j := (10 : Int32)) (inb_of As34 ⟨by decide, by decide⟩) rfl (Sto.ofV Ar34 Aq34 O1 (Ins.self (E_W2.ext OLD32.2))) (g := (mkF m 75 #[.val (.int p0), .unset, .unset, .unset] [(.ref w_W2), (.int (10 : Int32)), (.ref b1), (.ref b1)])) rfl rfl (hb hby at_75)
  have V34 : Arv Z h34 b1 k1 (.object "com/example/ramparts/ramparts/tile/Segment") (12 : Int32) [(.ref w_N1), (.ref w_N2), (.ref w_N3), (.ref w_E1), (.ref w_E2), (.ref w_E3), (.ref w_S1), (.ref w_S2), (.ref w_S3), (.ref w_W1), (.ref w_W2), .null] .null := Arv.set Ar34 Aq34 As34 An34 Ah34 Ag34 rfl W34 10 rfl (Nat.le_of_ble_eq_true rfl)
  have N35 := Fr.snoc X34 N32 q_b1
  have OLD35 := OLD32.wr W34 q_b1
  have K35 := K32.wr W34 (Or.inr sz_b1)
  have Z35 := Nat.le_trans Z32 (Nat.le_of_eq W34.size.symm)
  refine ogo st34 ?_
  show OwnEnds _ _ _ _ _ _ _ (T34.setTop (mkF m 76 #[.val (.int p0), .unset, .unset, .unset] [(.ref b1)]))
  refine ogo (fun t k => XS.dup X34.here hx rfl (hb hby at_76) rfl rfl k) ?_
  show OwnEnds _ _ _ _ _ _ _ (T34.setTop (mkF m 77 #[.val (.int p0), .unset, .unset, .unset] [(.ref b1), (.ref b1)]))
  refine ogo (fun t k => XS.bipush X34.here hx rfl (hb hby at_77) k) ?_
  show OwnEnds _ _ _ _ _ _ _ (T34.setTop (mkF m 79 #[.val (.int p0), .unset, .unset, .unset] [(.int (11 : Int32)), (.ref b1), (.ref b1)]))
  obtain ⟨T36, X36, e36, st36⟩ := getS2 X34 hx hZ hown (host := "") (Or.inl (hw _ (List.mem_of_getElem? (i := 26) rfl))) Via.refl e34 (S_W3.ext OLD35.2) (g := (mkF m 79 #[.val (.int p0), .unset, .unset, .unset] [(.int (11 : Int32)), (.ref b1), (.ref b1)])) rfl (hb hby at_79)
  refine ogo st36 ?_
  show OwnEnds _ _ _ _ _ _ _ (T36.setTop (mkF m 82 #[.val (.int p0), .unset, .unset, .unset] [(.ref w_W3), (.int (11 : Int32)), (.ref b1), (.ref b1)]))
  obtain ⟨cl37, Ar37, Aq37, As37, An37, Ah37, Ag37⟩ := id V34
  obtain ⟨T37, h37, X37, e37, W37, st37⟩ := stR X36 hx hZ e36 Ar37 (j := (11 : Int32)) (inb_of As37 ⟨by decide, by decide⟩) rfl (Sto.ofV Ar37 Aq37 O1 (Ins.self (E_W3.ext OLD35.2))) (g := (mkF m 82 #[.val (.int p0), .unset, .unset, .unset] [(.ref w_W3), (.int (11 : Int32)), (.ref b1), (.ref b1)])) rfl rfl (hb hby at_82)
  have V37 : Arv Z h37 b1 k1 (.object "com/example/ramparts/ramparts/tile/Segment") (12 : Int32) [(.ref w_N1), (.ref w_N2), (.ref w_N3), (.ref w_E1), (.ref w_E2), (.ref w_E3), (.ref w_S1), (.ref w_S2), (.ref w_S3), (.ref w_W1), (.ref w_W2), (.ref w_W3)] .null := Arv.set Ar37 Aq37 As37 An37 Ah37 Ag37 rfl W37 11 rfl (Nat.le_of_ble_eq_true rfl)
  have N38 := Fr.snoc X37 N35 q_b1
  have OLD38 := OLD35.wr W37 q_b1
  have K38 := K35.wr W37 (Or.inr sz_b1)
  have Z38 := Nat.le_trans Z35 (Nat.le_of_eq W37.size.symm)
  refine ogo st37 ?_
  show OwnEnds _ _ _ _ _ _ _ (T37.setTop (mkF m 83 #[.val (.int p0), .unset, .unset, .unset] [(.ref b1)]))
  refine ogo (fun t k => XS.astoreN X37.here hx rfl (hb hby at_83) rfl rfl (l' := #[.val (.int p0), .val (.ref b1), .unset, .unset]) rfl k) ?_
  show OwnEnds _ _ _ _ _ _ _ (T37.setTop (mkF m 84 #[.val (.int p0), .val (.ref b1), .unset, .unset] []))
  refine ogo (fun t k => XS.bipush X37.here hx rfl (hb hby at_84) k) ?_
  show OwnEnds _ _ _ _ _ _ _ (T37.setTop (mkF m 86 #[.val (.int p0), .val (.ref b1), .unset, .unset] [(.int (12 : Int32))]))
  obtain ⟨T39, h39, k39, X39, e39, E39, A39, O39, st39⟩ := newR X37 hx hZ hown (hw _ (List.mem_of_getElem? (i := 0) rfl)) (hw _ (List.mem_of_getElem? (i := 1) rfl)) e37 (g := (mkF m 86 #[.val (.int p0), .val (.ref b1), .unset, .unset] [(.int (12 : Int32))])) rfl (hb hby at_86) rfl (by decide) (cap := 12) (by decide) (by decide) (by decide) (by decide)
  obtain ⟨b39, g39⟩ : ∃ z, z = h37.size := ⟨_, rfl⟩
  rw [← g39] at A39 st39
  have ne_b1_b39 : b1 ≠ b39 := Nat.ne_of_lt (Nat.lt_of_lt_of_le (V37).lt (Nat.le_of_eq g39.symm))
  have q_b39 : n0 ≤ b39 := Nat.le_trans Z38 (Nat.le_of_eq g39.symm)
  have sz_b39 : h0.size ≤ b39 := Nat.le_trans K38.1 (Nat.le_of_eq g39.symm)
  have f40 := V37.ext E39
  have OLD41 := OLD38.ext E39
  have K41 := K38.ext E39
  have Z41 := Nat.le_trans Z38 E39.1
  have V39 : Arv Z h39 b39 k39 (.object "com/example/ramparts/ramparts/tile/Segment") (12 : Int32) [.null, .null, .null, .null, .null, .null, .null, .null, .null, .null, .null, .null] .null := (Arv.new A39 (by decide)).pad (pad_rep [] .null 12)
  refine ogo st39 ?_
  show OwnEnds _ _ _ _ _ _ _ (T39.setTop (mkF m 89 #[.val (.int p0), .val (.ref b1), .unset, .unset] [(.ref b39)]))
  refine ogo (fun t k => XS.dup X39.here hx rfl (hb hby at_89) rfl rfl k) ?_
  show OwnEnds _ _ _ _ _ _ _ (T39.setTop (mkF m 90 #[.val (.int p0), .val (.ref b1), .unset, .unset] [(.ref b39), (.ref b39)]))
  refine ogo (fun t k => XS.iconst X39.here hx rfl (hb hby at_90) k) ?_
  show OwnEnds _ _ _ _ _ _ _ (T39.setTop (mkF m 91 #[.val (.int p0), .val (.ref b1), .unset, .unset] [(.int (0 : Int32)), (.ref b39), (.ref b39)]))
  obtain ⟨T42, X42, e42, st42⟩ := getS2 X39 hx hZ hown (host := "") (Or.inl (hw _ (List.mem_of_getElem? (i := 6) rfl))) Via.refl e39 (S_N2.ext OLD41.2) (g := (mkF m 91 #[.val (.int p0), .val (.ref b1), .unset, .unset] [(.int (0 : Int32)), (.ref b39), (.ref b39)])) rfl (hb hby at_91)
  refine ogo st42 ?_
  show OwnEnds _ _ _ _ _ _ _ (T42.setTop (mkF m 94 #[.val (.int p0), .val (.ref b1), .unset, .unset] [(.ref w_N2), (.int (0 : Int32)), (.ref b39), (.ref b39)]))
  obtain ⟨cl43, Ar43, Aq43, As43, An43, Ah43, Ag43⟩ := id V39
  obtain ⟨T43, h43, X43, e43, W43, st43⟩ := stR X42 hx hZ e42 Ar43 (j := (0 : Int32)) (inb_of As43 ⟨by decide, by decide⟩) rfl (Sto.ofV Ar43 Aq43 O39 (Ins.self (E_N2.ext OLD41.2))) (g := (mkF m 94 #[.val (.int p0), .val (.ref b1), .unset, .unset] [(.ref w_N2), (.int (0 : Int32)), (.ref b39), (.ref b39)])) rfl rfl (hb hby at_94)
  have V43 : Arv Z h43 b39 k39 (.object "com/example/ramparts/ramparts/tile/Segment") (12 : Int32) [(.ref w_N2), .null, .null, .null, .null, .null, .null, .null, .null, .null, .null, .null] .null := Arv.set Ar43 Aq43 As43 An43 Ah43 Ag43 rfl W43 0 rfl (Nat.le_of_ble_eq_true rfl)
  have f44 := f40.other W43 ne_b1_b39
  have N45 := Fr.snoc X43 N38 q_b39
  have OLD45 := OLD41.wr W43 q_b39
  have K45 := K41.wr W43 (Or.inr sz_b39)
  have Z45 := Nat.le_trans Z41 (Nat.le_of_eq W43.size.symm)
  refine ogo st43 ?_
  show OwnEnds _ _ _ _ _ _ _ (T43.setTop (mkF m 95 #[.val (.int p0), .val (.ref b1), .unset, .unset] [(.ref b39)]))
  refine ogo (fun t k => XS.dup X43.here hx rfl (hb hby at_95) rfl rfl k) ?_
  show OwnEnds _ _ _ _ _ _ _ (T43.setTop (mkF m 96 #[.val (.int p0), .val (.ref b1), .unset, .unset] [(.ref b39), (.ref b39)]))
  refine ogo (fun t k => XS.iconst X43.here hx rfl (hb hby at_96) k) ?_
  show OwnEnds _ _ _ _ _ _ _ (T43.setTop (mkF m 97 #[.val (.int p0), .val (.ref b1), .unset, .unset] [(.int (1 : Int32)), (.ref b39), (.ref b39)]))
  obtain ⟨T46, X46, e46, st46⟩ := getS2 X43 hx hZ hown (host := "") (Or.inl (hw _ (List.mem_of_getElem? (i := 8) rfl))) Via.refl e43 (S_N3.ext OLD45.2) (g := (mkF m 97 #[.val (.int p0), .val (.ref b1), .unset, .unset] [(.int (1 : Int32)), (.ref b39), (.ref b39)])) rfl (hb hby at_97)
  refine ogo st46 ?_
  show OwnEnds _ _ _ _ _ _ _ (T46.setTop (mkF m 100 #[.val (.int p0), .val (.ref b1), .unset, .unset] [(.ref w_N3), (.int (1 : Int32)), (.ref b39), (.ref b39)]))
  obtain ⟨cl47, Ar47, Aq47, As47, An47, Ah47, Ag47⟩ := id V43
  obtain ⟨T47, h47, X47, e47, W47, st47⟩ := stR X46 hx hZ e46 Ar47 (j := (1 : Int32)) (inb_of As47 ⟨by decide, by decide⟩) rfl (Sto.ofV Ar47 Aq47 O39 (Ins.self (E_N3.ext OLD45.2))) (g := (mkF m 100 #[.val (.int p0), .val (.ref b1), .unset, .unset] [(.ref w_N3), (.int (1 : Int32)), (.ref b39), (.ref b39)])) rfl rfl (hb hby at_100)
  have V47 : Arv Z h47 b39 k39 (.object "com/example/ramparts/ramparts/tile/Segment") (12 : Int32) [(.ref w_N2), (.ref w_N3), .null, .null, .null, .null, .null, .null, .null, .null, .null, .null] .null := Arv.set Ar47 Aq47 As47 An47 Ah47 Ag47 rfl W47 1 rfl (Nat.le_of_ble_eq_true rfl)
  have f48 := f44.other W47 ne_b1_b39
  have N49 := Fr.snoc X47 N45 q_b39
  have OLD49 := OLD45.wr W47 q_b39
  have K49 := K45.wr W47 (Or.inr sz_b39)
  have Z49 := Nat.le_trans Z45 (Nat.le_of_eq W47.size.symm)
  refine ogo st47 ?_
  show OwnEnds _ _ _ _ _ _ _ (T47.setTop (mkF m 101 #[.val (.int p0), .val (.ref b1), .unset, .unset] [(.ref b39)]))
  refine ogo (fun t k => XS.dup X47.here hx rfl (hb hby at_101) rfl rfl k) ?_
  show OwnEnds _ _ _ _ _ _ _ (T47.setTop (mkF m 102 #[.val (.int p0), .val (.ref b1), .unset, .unset] [(.ref b39), (.ref b39)]))
  refine ogo (fun t k => XS.iconst X47.here hx rfl (hb hby at_102) k) ?_
  show OwnEnds _ _ _ _ _ _ _ (T47.setTop (mkF m 103 #[.val (.int p0), .val (.ref b1), .unset, .unset] [(.int (2 : Int32)), (.ref b39), (.ref b39)]))
  obtain ⟨T50, X50, e50, st50⟩ := getS2 X47 hx hZ hown (host := "") (Or.inl (hw _ (List.mem_of_getElem? (i := 10) rfl))) Via.refl e47 (S_E1.ext OLD49.2) (g := (mkF m 103 #[.val (.int p0), .val (.ref b1), .unset, .unset] [(.int (2 : Int32)), (.ref b39), (.ref b39)])) rfl (hb hby at_103)
  refine ogo st50 ?_
  show OwnEnds _ _ _ _ _ _ _ (T50.setTop (mkF m 106 #[.val (.int p0), .val (.ref b1), .unset, .unset] [(.ref w_E1), (.int (2 : Int32)), (.ref b39), (.ref b39)]))
  obtain ⟨cl51, Ar51, Aq51, As51, An51, Ah51, Ag51⟩ := id V47
  obtain ⟨T51, h51, X51, e51, W51, st51⟩ := stR X50 hx hZ e50 Ar51 (j := (2 : Int32)) (inb_of As51 ⟨by decide, by decide⟩) rfl (Sto.ofV Ar51 Aq51 O39 (Ins.self (E_E1.ext OLD49.2))) (g := (mkF m 106 #[.val (.int p0), .val (.ref b1), .unset, .unset] [(.ref w_E1), (.int (2 : Int32)), (.ref b39), (.ref b39)])) rfl rfl (hb hby at_106)
  have V51 : Arv Z h51 b39 k39 (.object "com/example/ramparts/ramparts/tile/Segment") (12 : Int32) [(.ref w_N2), (.ref w_N3), (.ref w_E1), .null, .null, .null, .null, .null, .null, .null, .null, .null] .null := Arv.set Ar51 Aq51 As51 An51 Ah51 Ag51 rfl W51 2 rfl (Nat.le_of_ble_eq_true rfl)
  have f52 := f48.other W51 ne_b1_b39
  have N53 := Fr.snoc X51 N49 q_b39
  have OLD53 := OLD49.wr W51 q_b39
  have K53 := K49.wr W51 (Or.inr sz_b39)
  have Z53 := Nat.le_trans Z49 (Nat.le_of_eq W51.size.symm)
  refine ogo st51 ?_
  show OwnEnds _ _ _ _ _ _ _ (T51.setTop (mkF m 107 #[.val (.int p0), .val (.ref b1), .unset, .unset] [(.ref b39)]))
  refine ogo (fun t k => XS.dup X51.here hx rfl (hb hby at_107) rfl rfl k) ?_
  show OwnEnds _ _ _ _ _ _ _ (T51.setTop (mkF m 108 #[.val (.int p0), .val (.ref b1), .unset, .unset] [(.ref b39), (.ref b39)]))
  refine ogo (fun t k => XS.iconst X51.here hx rfl (hb hby at_108) k) ?_
  show OwnEnds _ _ _ _ _ _ _ (T51.setTop (mkF m 109 #[.val (.int p0), .val (.ref b1), .unset, .unset] [(.int (3 : Int32)), (.ref b39), (.ref b39)]))
  obtain ⟨T54, X54, e54, st54⟩ := getS2 X51 hx hZ hown (host := "") (Or.inl (hw _ (List.mem_of_getElem? (i := 12) rfl))) Via.refl e51 (S_E2.ext OLD53.2) (g := (mkF m 109 #[.val (.int p0), .val (.ref b1), .unset, .unset] [(.int (3 : Int32)), (.ref b39), (.ref b39)])) rfl (hb hby at_109)
  refine ogo st54 ?_
  show OwnEnds _ _ _ _ _ _ _ (T54.setTop (mkF m 112 #[.val (.int p0), .val (.ref b1), .unset, .unset] [(.ref w_E2), (.int (3 : Int32)), (.ref b39), (.ref b39)]))
  obtain ⟨cl55, Ar55, Aq55, As55, An55, Ah55, Ag55⟩ := id V51
  obtain ⟨T55, h55, X55, e55, W55, st55⟩ := stR X54 hx hZ e54 Ar55 (j := (3 : Int32)) (inb_of As55 ⟨by decide, by decide⟩) rfl (Sto.ofV Ar55 Aq55 O39 (Ins.self (E_E2.ext OLD53.2))) (g := (mkF m 112 #[.val (.int p0), .val (.ref b1), .unset, .unset] [(.ref w_E2), (.int (3 : Int32)), (.ref b39), (.ref b39)])) rfl rfl (hb hby at_112)
  have V55 : Arv Z h55 b39 k39 (.object "com/example/ramparts/ramparts/tile/Segment") (12 : Int32) [(.ref w_N2), (.ref w_N3), (.ref w_E1), (.ref w_E2), .null, .null, .null, .null, .null, .null, .null, .null] .null := Arv.set Ar55 Aq55 As55 An55 Ah55 Ag55 rfl W55 3 rfl (Nat.le_of_ble_eq_true rfl)
  have f56 := f52.other W55 ne_b1_b39
  have N57 := Fr.snoc X55 N53 q_b39
  have OLD57 := OLD53.wr W55 q_b39
  have K57 := K53.wr W55 (Or.inr sz_b39)
  have Z57 := Nat.le_trans Z53 (Nat.le_of_eq W55.size.symm)
  refine ogo st55 ?_
  show OwnEnds _ _ _ _ _ _ _ (T55.setTop (mkF m 113 #[.val (.int p0), .val (.ref b1), .unset, .unset] [(.ref b39)]))
  refine ogo (fun t k => XS.dup X55.here hx rfl (hb hby at_113) rfl rfl k) ?_
  show OwnEnds _ _ _ _ _ _ _ (T55.setTop (mkF m 114 #[.val (.int p0), .val (.ref b1), .unset, .unset] [(.ref b39), (.ref b39)]))
  refine ogo (fun t k => XS.iconst X55.here hx rfl (hb hby at_114) k) ?_
  show OwnEnds _ _ _ _ _ _ _ (T55.setTop (mkF m 115 #[.val (.int p0), .val (.ref b1), .unset, .unset] [(.int (4 : Int32)), (.ref b39), (.ref b39)]))
  obtain ⟨T58, X58, e58, st58⟩ := getS2 X55 hx hZ hown (host := "") (Or.inl (hw _ (List.mem_of_getElem? (i := 14) rfl))) Via.refl e55 (S_E3.ext OLD57.2) (g := (mkF m 115 #[.val (.int p0), .val (.ref b1), .unset, .unset] [(.int (4 : Int32)), (.ref b39), (.ref b39)])) rfl (hb hby at_115)
  refine ogo st58 ?_
  show OwnEnds _ _ _ _ _ _ _ (T58.setTop (mkF m 118 #[.val (.int p0), .val (.ref b1), .unset, .unset] [(.ref w_E3), (.int (4 : Int32)), (.ref b39), (.ref b39)]))
  obtain ⟨cl59, Ar59, Aq59, As59, An59, Ah59, Ag59⟩ := id V55
  obtain ⟨T59, h59, X59, e59, W59, st59⟩ := stR X58 hx hZ e58 Ar59 (j := (4 : Int32)) (inb_of As59 ⟨by decide, by decide⟩) rfl (Sto.ofV Ar59 Aq59 O39 (Ins.self (E_E3.ext OLD57.2))) (g := (mkF m 118 #[.val (.int p0), .val (.ref b1), .unset, .unset] [(.ref w_E3), (.int (4 : Int32)), (.ref b39), (.ref b39)])) rfl rfl (hb hby at_118)
  have V59 : Arv Z h59 b39 k39 (.object "com/example/ramparts/ramparts/tile/Segment") (12 : Int32) [(.ref w_N2), (.ref w_N3), (.ref w_E1), (.ref w_E2), (.ref w_E3), .null, .null, .null, .null, .null, .null, .null] .null := Arv.set Ar59 Aq59 As59 An59 Ah59 Ag59 rfl W59 4 rfl (Nat.le_of_ble_eq_true rfl)
  have f60 := f56.other W59 ne_b1_b39
  have N61 := Fr.snoc X59 N57 q_b39
  have OLD61 := OLD57.wr W59 q_b39
  have K61 := K57.wr W59 (Or.inr sz_b39)
  have Z61 := Nat.le_trans Z57 (Nat.le_of_eq W59.size.symm)
  refine ogo st59 ?_
  show OwnEnds _ _ _ _ _ _ _ (T59.setTop (mkF m 119 #[.val (.int p0), .val (.ref b1), .unset, .unset] [(.ref b39)]))
  refine ogo (fun t k => XS.dup X59.here hx rfl (hb hby at_119) rfl rfl k) ?_
  show OwnEnds _ _ _ _ _ _ _ (T59.setTop (mkF m 120 #[.val (.int p0), .val (.ref b1), .unset, .unset] [(.ref b39), (.ref b39)]))
  refine ogo (fun t k => XS.iconst X59.here hx rfl (hb hby at_120) k) ?_
  show OwnEnds _ _ _ _ _ _ _ (T59.setTop (mkF m 121 #[.val (.int p0), .val (.ref b1), .unset, .unset] [(.int (5 : Int32)), (.ref b39), (.ref b39)]))
  obtain ⟨T62, X62, e62, st62⟩ := getS2 X59 hx hZ hown (host := "") (Or.inl (hw _ (List.mem_of_getElem? (i := 16) rfl))) Via.refl e59 (S_S1.ext OLD61.2) (g := (mkF m 121 #[.val (.int p0), .val (.ref b1), .unset, .unset] [(.int (5 : Int32)), (.ref b39), (.ref b39)])) rfl (hb hby at_121)
  refine ogo st62 ?_
  show OwnEnds _ _ _ _ _ _ _ (T62.setTop (mkF m 124 #[.val (.int p0), .val (.ref b1), .unset, .unset] [(.ref w_S1), (.int (5 : Int32)), (.ref b39), (.ref b39)]))
  obtain ⟨cl63, Ar63, Aq63, As63, An63, Ah63, Ag63⟩ := id V59
  obtain ⟨T63, h63, X63, e63, W63, st63⟩ := stR X62 hx hZ e62 Ar63 (j := (5 : Int32)) (inb_of As63 ⟨by decide, by decide⟩) rfl (Sto.ofV Ar63 Aq63 O39 (Ins.self (E_S1.ext OLD61.2))) (g := (mkF m 124 #[.val (.int p0), .val (.ref b1), .unset, .unset] [(.ref w_S1), (.int (5 : Int32)), (.ref b39), (.ref b39)])) rfl rfl (hb hby at_124)
  have V63 : Arv Z h63 b39 k39 (.object "com/example/ramparts/ramparts/tile/Segment") (12 : Int32) [(.ref w_N2), (.ref w_N3), (.ref w_E1), (.ref w_E2), (.ref w_E3), (.ref w_S1), .null, .null, .null, .null, .null, .null] .null := Arv.set Ar63 Aq63 As63 An63 Ah63 Ag63 rfl W63 5 rfl (Nat.le_of_ble_eq_true rfl)
  have f64 := f60.other W63 ne_b1_b39
  have N65 := Fr.snoc X63 N61 q_b39
  have OLD65 := OLD61.wr W63 q_b39
  have K65 := K61.wr W63 (Or.inr sz_b39)
  have Z65 := Nat.le_trans Z61 (Nat.le_of_eq W63.size.symm)
  refine ogo st63 ?_
  show OwnEnds _ _ _ _ _ _ _ (T63.setTop (mkF m 125 #[.val (.int p0), .val (.ref b1), .unset, .unset] [(.ref b39)]))
  refine ogo (fun t k => XS.dup X63.here hx rfl (hb hby at_125) rfl rfl k) ?_
  show OwnEnds _ _ _ _ _ _ _ (T63.setTop (mkF m 126 #[.val (.int p0), .val (.ref b1), .unset, .unset] [(.ref b39), (.ref b39)]))
  refine ogo (fun t k => XS.bipush X63.here hx rfl (hb hby at_126) k) ?_
  show OwnEnds _ _ _ _ _ _ _ (T63.setTop (mkF m 128 #[.val (.int p0), .val (.ref b1), .unset, .unset] [(.int (6 : Int32)), (.ref b39), (.ref b39)]))
  obtain ⟨T66, X66, e66, st66⟩ := getS2 X63 hx hZ hown (host := "") (Or.inl (hw _ (List.mem_of_getElem? (i := 18) rfl))) Via.refl e63 (S_S2.ext OLD65.2) (g := (mkF m 128 #[.val (.int p0), .val (.ref b1), .unset, .unset] [(.int (6 : Int32)), (.ref b39), (.ref b39)])) rfl (hb hby at_128)
  refine ogo st66 ?_
  show OwnEnds _ _ _ _ _ _ _ (T66.setTop (mkF m 131 #[.val (.int p0), .val (.ref b1), .unset, .unset] [(.ref w_S2), (.int (6 : Int32)), (.ref b39), (.ref b39)]))
  obtain ⟨cl67, Ar67, Aq67, As67, An67, Ah67, Ag67⟩ := id V63
  obtain ⟨T67, h67, X67, e67, W67, st67⟩ := stR X66 hx hZ e66 Ar67 (j := (6 : Int32)) (inb_of As67 ⟨by decide, by decide⟩) rfl (Sto.ofV Ar67 Aq67 O39 (Ins.self (E_S2.ext OLD65.2))) (g := (mkF m 131 #[.val (.int p0), .val (.ref b1), .unset, .unset] [(.ref w_S2), (.int (6 : Int32)), (.ref b39), (.ref b39)])) rfl rfl (hb hby at_131)
  have V67 : Arv Z h67 b39 k39 (.object "com/example/ramparts/ramparts/tile/Segment") (12 : Int32) [(.ref w_N2), (.ref w_N3), (.ref w_E1), (.ref w_E2), (.ref w_E3), (.ref w_S1), (.ref w_S2), .null, .null, .null, .null, .null] .null := Arv.set Ar67 Aq67 As67 An67 Ah67 Ag67 rfl W67 6 rfl (Nat.le_of_ble_eq_true rfl)
  have f68 := f64.other W67 ne_b1_b39
  have N69 := Fr.snoc X67 N65 q_b39
  have OLD69 := OLD65.wr W67 q_b39
  have K69 := K65.wr W67 (Or.inr sz_b39)
  have Z69 := Nat.le_trans Z65 (Nat.le_of_eq W67.size.symm)
  refine ogo st67 ?_
  show OwnEnds _ _ _ _ _ _ _ (T67.setTop (mkF m 132 #[.val (.int p0), .val (.ref b1), .unset, .unset] [(.ref b39)]))
  refine ogo (fun t k => XS.dup X67.here hx rfl (hb hby at_132) rfl rfl k) ?_
  show OwnEnds _ _ _ _ _ _ _ (T67.setTop (mkF m 133 #[.val (.int p0), .val (.ref b1), .unset, .unset] [(.ref b39), (.ref b39)]))
  refine ogo (fun t k => XS.bipush X67.here hx rfl (hb hby at_133) k) ?_
  show OwnEnds _ _ _ _ _ _ _ (T67.setTop (mkF m 135 #[.val (.int p0), .val (.ref b1), .unset, .unset] [(.int (7 : Int32)), (.ref b39), (.ref b39)]))
  obtain ⟨T70, X70, e70, st70⟩ := getS2 X67 hx hZ hown (host := "") (Or.inl (hw _ (List.mem_of_getElem? (i := 20) rfl))) Via.refl e67 (S_S3.ext OLD69.2) (g := (mkF m 135 #[.val (.int p0), .val (.ref b1), .unset, .unset] [(.int (7 : Int32)), (.ref b39), (.ref b39)])) rfl (hb hby at_135)
  refine ogo st70 ?_
  show OwnEnds _ _ _ _ _ _ _ (T70.setTop (mkF m 138 #[.val (.int p0), .val (.ref b1), .unset, .unset] [(.ref w_S3), (.int (7 : Int32)), (.ref b39), (.ref b39)]))
  obtain ⟨cl71, Ar71, Aq71, As71, An71, Ah71, Ag71⟩ := id V67
  obtain ⟨T71, h71, X71, e71, W71, st71⟩ := stR X70 hx hZ e70 Ar71 (j := (7 : Int32)) (inb_of As71 ⟨by decide, by decide⟩) rfl (Sto.ofV Ar71 Aq71 O39 (Ins.self (E_S3.ext OLD69.2))) (g := (mkF m 138 #[.val (.int p0), .val (.ref b1), .unset, .unset] [(.ref w_S3), (.int (7 : Int32)), (.ref b39), (.ref b39)])) rfl rfl (hb hby at_138)
  have V71 : Arv Z h71 b39 k39 (.object "com/example/ramparts/ramparts/tile/Segment") (12 : Int32) [(.ref w_N2), (.ref w_N3), (.ref w_E1), (.ref w_E2), (.ref w_E3), (.ref w_S1), (.ref w_S2), (.ref w_S3), .null, .null, .null, .null] .null := Arv.set Ar71 Aq71 As71 An71 Ah71 Ag71 rfl W71 7 rfl (Nat.le_of_ble_eq_true rfl)
  have f72 := f68.other W71 ne_b1_b39
  have N73 := Fr.snoc X71 N69 q_b39
  have OLD73 := OLD69.wr W71 q_b39
  have K73 := K69.wr W71 (Or.inr sz_b39)
  have Z73 := Nat.le_trans Z69 (Nat.le_of_eq W71.size.symm)
  refine ogo st71 ?_
  show OwnEnds _ _ _ _ _ _ _ (T71.setTop (mkF m 139 #[.val (.int p0), .val (.ref b1), .unset, .unset] [(.ref b39)]))
  refine ogo (fun t k => XS.dup X71.here hx rfl (hb hby at_139) rfl rfl k) ?_
  show OwnEnds _ _ _ _ _ _ _ (T71.setTop (mkF m 140 #[.val (.int p0), .val (.ref b1), .unset, .unset] [(.ref b39), (.ref b39)]))
  refine ogo (fun t k => XS.bipush X71.here hx rfl (hb hby at_140) k) ?_
  show OwnEnds _ _ _ _ _ _ _ (T71.setTop (mkF m 142 #[.val (.int p0), .val (.ref b1), .unset, .unset] [(.int (8 : Int32)), (.ref b39), (.ref b39)]))
  obtain ⟨T74, X74, e74, st74⟩ := getS2 X71 hx hZ hown (host := "") (Or.inl (hw _ (List.mem_of_getElem? (i := 22) rfl))) Via.refl e71 (S_W1.ext OLD73.2) (g := (mkF m 142 #[.val (.int p0), .val (.ref b1), .unset, .unset] [(.int (8 : Int32)), (.ref b39), (.ref b39)])) rfl (hb hby at_142)
  refine ogo st74 ?_
  show OwnEnds _ _ _ _ _ _ _ (T74.setTop (mkF m 145 #[.val (.int p0), .val (.ref b1), .unset, .unset] [(.ref w_W1), (.int (8 : Int32)), (.ref b39), (.ref b39)]))
  obtain ⟨cl75, Ar75, Aq75, As75, An75, Ah75, Ag75⟩ := id V71
  obtain ⟨T75, h75, X75, e75, W75, st75⟩ := stR X74 hx hZ e74 Ar75 (j := (8 : Int32)) (inb_of As75 ⟨by decide, by decide⟩) rfl (Sto.ofV Ar75 Aq75 O39 (Ins.self (E_W1.ext OLD73.2))) (g := (mkF m 145 #[.val (.int p0), .val (.ref b1), .unset, .unset] [(.ref w_W1), (.int (8 : Int32)), (.ref b39), (.ref b39)])) rfl rfl (hb hby at_145)
  have V75 : Arv Z h75 b39 k39 (.object "com/example/ramparts/ramparts/tile/Segment") (12 : Int32) [(.ref w_N2), (.ref w_N3), (.ref w_E1), (.ref w_E2), (.ref w_E3), (.ref w_S1), (.ref w_S2), (.ref w_S3), (.ref w_W1), .null, .null, .null] .null := Arv.set Ar75 Aq75 As75 An75 Ah75 Ag75 rfl W75 8 rfl (Nat.le_of_ble_eq_true rfl)
  have f76 := f72.other W75 ne_b1_b39
  have N77 := Fr.snoc X75 N73 q_b39
  have OLD77 := OLD73.wr W75 q_b39
  have K77 := K73.wr W75 (Or.inr sz_b39)
  have Z77 := Nat.le_trans Z73 (Nat.le_of_eq W75.size.symm)
  refine ogo st75 ?_
  show OwnEnds _ _ _ _ _ _ _ (T75.setTop (mkF m 146 #[.val (.int p0), .val (.ref b1), .unset, .unset] [(.ref b39)]))
  refine ogo (fun t k => XS.dup X75.here hx rfl (hb hby at_146) rfl rfl k) ?_
  show OwnEnds _ _ _ _ _ _ _ (T75.setTop (mkF m 147 #[.val (.int p0), .val (.ref b1), .unset, .unset] [(.ref b39), (.ref b39)]))
  refine ogo (fun t k => XS.bipush X75.here hx rfl (hb hby at_147) k) ?_
  show OwnEnds _ _ _ _ _ _ _ (T75.setTop (mkF m 149 #[.val (.int p0), .val (.ref b1), .unset, .unset] [(.int (9 : Int32)), (.ref b39), (.ref b39)]))
  obtain ⟨T78, X78, e78, st78⟩ := getS2 X75 hx hZ hown (host := "") (Or.inl (hw _ (List.mem_of_getElem? (i := 24) rfl))) Via.refl e75 (S_W2.ext OLD77.2) (g := (mkF m 149 #[.val (.int p0), .val (.ref b1), .unset, .unset] [(.int (9 : Int32)), (.ref b39), (.ref b39)])) rfl (hb hby at_149)
  refine ogo st78 ?_
  show OwnEnds _ _ _ _ _ _ _ (T78.setTop (mkF m 152 #[.val (.int p0), .val (.ref b1), .unset, .unset] [(.ref w_W2), (.int (9 : Int32)), (.ref b39), (.ref b39)]))
  obtain ⟨cl79, Ar79, Aq79, As79, An79, Ah79, Ag79⟩ := id V75
  obtain ⟨T79, h79, X79, e79, W79, st79⟩ := stR X78 hx hZ e78 Ar79 (j := (9 : Int32)) (inb_of As79 ⟨by decide, by decide⟩) rfl (Sto.ofV Ar79 Aq79 O39 (Ins.self (E_W2.ext OLD77.2))) (g := (mkF m 152 #[.val (.int p0), .val (.ref b1), .unset, .unset] [(.ref w_W2), (.int (9 : Int32)), (.ref b39), (.ref b39)])) rfl rfl (hb hby at_152)
  have V79 : Arv Z h79 b39 k39 (.object "com/example/ramparts/ramparts/tile/Segment") (12 : Int32) [(.ref w_N2), (.ref w_N3), (.ref w_E1), (.ref w_E2), (.ref w_E3), (.ref w_S1), (.ref w_S2), (.ref w_S3), (.ref w_W1), (.ref w_W2), .null, .null] .null := Arv.set Ar79 Aq79 As79 An79 Ah79 Ag79 rfl W79 9 rfl (Nat.le_of_ble_eq_true rfl)
  have f80 := f76.other W79 ne_b1_b39
  have N81 := Fr.snoc X79 N77 q_b39
  have OLD81 := OLD77.wr W79 q_b39
  have K81 := K77.wr W79 (Or.inr sz_b39)
  have Z81 := Nat.le_trans Z77 (Nat.le_of_eq W79.size.symm)
  refine ogo st79 ?_
  show OwnEnds _ _ _ _ _ _ _ (T79.setTop (mkF m 153 #[.val (.int p0), .val (.ref b1), .unset, .unset] [(.ref b39)]))
  refine ogo (fun t k => XS.dup X79.here hx rfl (hb hby at_153) rfl rfl k) ?_
  show OwnEnds _ _ _ _ _ _ _ (T79.setTop (mkF m 154 #[.val (.int p0), .val (.ref b1), .unset, .unset] [(.ref b39), (.ref b39)]))
  refine ogo (fun t k => XS.bipush X79.here hx rfl (hb hby at_154) k) ?_
  show OwnEnds _ _ _ _ _ _ _ (T79.setTop (mkF m 156 #[.val (.int p0), .val (.ref b1), .unset, .unset] [(.int (10 : Int32)), (.ref b39), (.ref b39)]))
  obtain ⟨T82, X82, e82, st82⟩ := getS2 X79 hx hZ hown (host := "") (Or.inl (hw _ (List.mem_of_getElem? (i := 26) rfl))) Via.refl e79 (S_W3.ext OLD81.2) (g := (mkF m 156 #[.val (.int p0), .val (.ref b1), .unset, .unset] [(.int (10 : Int32)), (.ref b39), (.ref b39)])) rfl (hb hby at_156)
  refine ogo st82 ?_
  show OwnEnds _ _ _ _ _ _ _ (T82.setTop (mkF m 159 #[.val (.int p0), .val (.ref b1), .unset, .unset] [(.ref w_W3), (.int (10 : Int32)), (.ref b39), (.ref b39)]))
  obtain ⟨cl83, Ar83, Aq83, As83, An83, Ah83, Ag83⟩ := id V79
  obtain ⟨T83, h83, X83, e83, W83, st83⟩ := stR X82 hx hZ e82 Ar83 (j := (10 : Int32)) (inb_of As83 ⟨by decide, by decide⟩) rfl (Sto.ofV Ar83 Aq83 O39 (Ins.self (E_W3.ext OLD81.2))) (g := (mkF m 159 #[.val (.int p0), .val (.ref b1), .unset, .unset] [(.ref w_W3), (.int (10 : Int32)), (.ref b39), (.ref b39)])) rfl rfl (hb hby at_159)
  have V83 : Arv Z h83 b39 k39 (.object "com/example/ramparts/ramparts/tile/Segment") (12 : Int32) [(.ref w_N2), (.ref w_N3), (.ref w_E1), (.ref w_E2), (.ref w_E3), (.ref w_S1), (.ref w_S2), (.ref w_S3), (.ref w_W1), (.ref w_W2), (.ref w_W3), .null] .null := Arv.set Ar83 Aq83 As83 An83 Ah83 Ag83 rfl W83 10 rfl (Nat.le_of_ble_eq_true rfl)
  have f84 := f80.other W83 ne_b1_b39
  have N85 := Fr.snoc X83 N81 q_b39
  have OLD85 := OLD81.wr W83 q_b39
  have K85 := K81.wr W83 (Or.inr sz_b39)
  have Z85 := Nat.le_trans Z81 (Nat.le_of_eq W83.size.symm)
  refine ogo st83 ?_
  show OwnEnds _ _ _ _ _ _ _ (T83.setTop (mkF m 160 #[.val (.int p0), .val (.ref b1), .unset, .unset] [(.ref b39)]))
  refine ogo (fun t k => XS.dup X83.here hx rfl (hb hby at_160) rfl rfl k) ?_
  show OwnEnds _ _ _ _ _ _ _ (T83.setTop (mkF m 161 #[.val (.int p0), .val (.ref b1), .unset, .unset] [(.ref b39), (.ref b39)]))
  refine ogo (fun t k => XS.bipush X83.here hx rfl (hb hby at_161) k) ?_
  show OwnEnds _ _ _ _ _ _ _ (T83.setTop (mkF m 163 #[.val (.int p0), .val (.ref b1), .unset, .unset] [(.int (11 : Int32)), (.ref b39), (.ref b39)]))
  obtain ⟨T86, X86, e86, st86⟩ := getS2 X83 hx hZ hown (host := "") (Or.inl (hw _ (List.mem_of_getElem? (i := 2) rfl))) Via.refl e83 (S_N1.ext OLD85.2) (g := (mkF m 163 #[.val (.int p0), .val (.ref b1), .unset, .unset] [(.int (11 : Int32)), (.ref b39), (.ref b39)])) rfl (hb hby at_163)
  refine ogo st86 ?_
  show OwnEnds _ _ _ _ _ _ _ (T86.setTop (mkF m 166 #[.val (.int p0), .val (.ref b1), .unset, .unset] [(.ref w_N1), (.int (11 : Int32)), (.ref b39), (.ref b39)]))
  obtain ⟨cl87, Ar87, Aq87, As87, An87, Ah87, Ag87⟩ := id V83
  obtain ⟨T87, h87, X87, e87, W87, st87⟩ := stR X86 hx hZ e86 Ar87 (j := (11 : Int32)) (inb_of As87 ⟨by decide, by decide⟩) rfl (Sto.ofV Ar87 Aq87 O39 (Ins.self (E_N1.ext OLD85.2))) (g := (mkF m 166 #[.val (.int p0), .val (.ref b1), .unset, .unset] [(.ref w_N1), (.int (11 : Int32)), (.ref b39), (.ref b39)])) rfl rfl (hb hby at_166)
  have V87 : Arv Z h87 b39 k39 (.object "com/example/ramparts/ramparts/tile/Segment") (12 : Int32) [(.ref w_N2), (.ref w_N3), (.ref w_E1), (.ref w_E2), (.ref w_E3), (.ref w_S1), (.ref w_S2), (.ref w_S3), (.ref w_W1), (.ref w_W2), (.ref w_W3), (.ref w_N1)] .null := Arv.set Ar87 Aq87 As87 An87 Ah87 Ag87 rfl W87 11 rfl (Nat.le_of_ble_eq_true rfl)
  have f88 := f84.other W87 ne_b1_b39
  have N89 := Fr.snoc X87 N85 q_b39
  have OLD89 := OLD85.wr W87 q_b39
  have K89 := K85.wr W87 (Or.inr sz_b39)
  have Z89 := Nat.le_trans Z85 (Nat.le_of_eq W87.size.symm)
  refine ogo st87 ?_
  show OwnEnds _ _ _ _ _ _ _ (T87.setTop (mkF m 167 #[.val (.int p0), .val (.ref b1), .unset, .unset] [(.ref b39)]))
  refine ogo (fun t k => XS.astoreN X87.here hx rfl (hb hby at_167) rfl rfl (l' := #[.val (.int p0), .val (.ref b1), .val (.ref b39), .unset]) rfl k) ?_
  show OwnEnds _ _ _ _ _ _ _ (T87.setTop (mkF m 168 #[.val (.int p0), .val (.ref b1), .val (.ref b39), .unset] []))
  refine ogo (fun t k => XS.iloadN X87.here hx rfl (hb hby at_168) rfl k) ?_
  show OwnEnds _ _ _ _ _ _ _ (T87.setTop (mkF m 169 #[.val (.int p0), .val (.ref b1), .val (.ref b39), .unset] [(.int p0)]))
  refine ogo (fun t k => X87.ldcInt hx hown (mvT hZ (hw _ (List.mem_of_getElem? (i := 28) rfl))) (g := (mkF m 169 #[.val (.int p0), .val (.ref b1), .val (.ref b39), .unset] [(.int p0)])) rfl (hb hby at_169) t k) ?_
  show OwnEnds _ _ _ _ _ _ _ (T87.setTop (mkF m 171 #[.val (.int p0), .val (.ref b1), .val (.ref b39), .unset] [(.int (2147483647 : Int32)), (.int p0)]))
  refine ogo (fun t k => XS.iand X87.here hx rfl (hb hby at_171) rfl k) ?_
  show OwnEnds _ _ _ _ _ _ _ (T87.setTop (mkF m 172 #[.val (.int p0), .val (.ref b1), .val (.ref b39), .unset] [(.int (p0 &&& (2147483647 : Int32)))]))
  refine ogo (fun t k => XS.bipush X87.here hx rfl (hb hby at_172) k) ?_
  show OwnEnds _ _ _ _ _ _ _ (T87.setTop (mkF m 174 #[.val (.int p0), .val (.ref b1), .val (.ref b39), .unset] [(.int (12 : Int32)), (.int (p0 &&& (2147483647 : Int32)))]))
  refine ogo (fun t k => iremM (g := (mkF m 174 #[.val (.int p0), .val (.ref b1), .val (.ref b39), .unset] [(.int (12 : Int32)), (.int (p0 &&& (2147483647 : Int32)))])) X87 hx rfl (hb hby at_174) rfl (by decide) k) ?_
  exact tn0_k Z a0 hw p0 w_N1 w_N2 w_N3 w_E1 w_E2 w_E3 w_S1 w_S2 w_S3 w_W1 w_W2 w_W3 w_RING h0 n0 OLD S_N1 E_N1 F_ordinal_N1 S_N2 E_N2 F_ordinal_N2 S_N3 E_N3 F_ordinal_N3 S_E1 E_E1 F_ordinal_E1 S_E2 E_E2 F_ordinal_E2 S_E3 E_E3 F_ordinal_E3 S_S1 E_S1 F_ordinal_S1 S_S2 E_S2 F_ordinal_S2 S_S3 E_S3 F_ordinal_S3 S_W1 E_W1 F_ordinal_W1 S_W2 E_W2 F_ordinal_W2 S_W3 E_W3 F_ordinal_W3 S_RING V_RING  T87 h87 b1 k1 b39 k39 hx hZ hby hml hown hnm hlk hret X87 e87 N89 OLD89 K89 Z89 f88 O1 V87 O39 ne_b1_b39 q_b1 q_b39 sz_b1 sz_b39
set_option maxRecDepth 65536 in
set_option maxHeartbeats 40000000 in
theorem comes_1 {Post : Tables → Env → Array Value → State → Outcome → State → Prop} (hpost : ∀ tb e args s v u, (limb_1_1.after args s (.returned v) u = true ∧ limb_1_2.after args s (.returned v) u = true ∧ True) → FrameEnd s (.returned v) u (Jvm.fieldLocs frame_1_writes args s ++ Jvm.arrayLocs frame_1_arrays args s ++ Jvm.staticLocs frame_1_statics s) 16 128 → Post tb e args s (.returned v) u) :
    ArmFor flags0 classFile x code maxLocals ret World_1 tables_1 room_1 Calls_1 rest_1 Pre_1 Post := by
  intro l hfl _ _ p e ha hc hk s m args below hf hA hF happ hP
  obtain ⟨hcalls, hrest, hpre⟩ := hP
  obtain ⟨-, -, -, hnamed, -, -, -, hat⟩ := (Spec.applies_iff hf).mp happ
  obtain ⟨hg, hn⟩ := and_e (Cond.before_iff.mp (show (Jvm.Cond.and given_1 narrow_1).before args s = true from hpre))
  obtain ⟨hcount, hg0⟩ := and_e hg
  have hk0 := hg0
  obtain ⟨w0, rfl⟩ : ∃ w0 : Value, args = #[w0] := by
    have hs : args.size = 1 := by simpa [Cond.value, given_1] using hcount
    obtain ⟨L⟩ := args
    match L, hs with
    | [w0], _ => exact ⟨w0, rfl⟩
  have hw := fun d (hd : d ∈ tables_1) => atoms_spec (ws := Jvm.Cond.code x code maxLocals ret :: tables_1) hat d (List.mem_cons_of_mem _ hd)
  have hfit : Fit s := fun {y c} hc i hi => by
    obtain ⟨ha, rfl⟩ := Array.getElem?_eq_some_iff.mp hc
    have q := List.all_eq_true.mp ((Array.all_eq_true_iff_forall_mem.mp hF) _ (Array.getElem_mem ha)) i (List.mem_range.mpr hi)
    simpa [Array.getElem?_eq_getElem hi] using q
  obtain ⟨i0, ei0⟩ := is_v hk0
  obtain rfl : w0 = (.int i0) := Option.some.inj ei0
  obtain ⟨u1a, u1b⟩ := and_e hn
  obtain ⟨u2a, u2b⟩ := and_e u1b
  obtain ⟨u3a, u3b⟩ := and_e u2b
  obtain ⟨u4a, u4b⟩ := and_e u3b
  obtain ⟨u5a, u5b⟩ := and_e u4b
  obtain ⟨u6a, u6b⟩ := and_e u5b
  obtain ⟨u7a, u7b⟩ := and_e u6b
  obtain ⟨u8a, u8b⟩ := and_e u7b
  obtain ⟨u9a, u9b⟩ := and_e u8b
  obtain ⟨u10a, u10b⟩ := and_e u9b
  obtain ⟨u11a, u11b⟩ := and_e u10b
  obtain ⟨u12a, u12b⟩ := and_e u11b
  obtain ⟨u13a, u13b⟩ := and_e u12b
  obtain ⟨u14a, u14b⟩ := and_e u13b
  obtain ⟨u15a, u15b⟩ := and_e u14b
  obtain ⟨u16a, u16b⟩ := and_e u15b
  obtain ⟨u17a, u17b⟩ := and_e u16b
  obtain ⟨u18a, u18b⟩ := and_e u17b
  obtain ⟨u19a, u19b⟩ := and_e u18b
  obtain ⟨u20a, u20b⟩ := and_e u19b
  obtain ⟨u21a, u21b⟩ := and_e u20b
  obtain ⟨u22a, u22b⟩ := and_e u21b
  obtain ⟨u23a, u23b⟩ := and_e u22b
  obtain ⟨u24a, u24b⟩ := and_e u23b
  obtain ⟨u25a, u25b⟩ := and_e u24b
  obtain ⟨u26a, u26b⟩ := and_e u25b
  obtain ⟨u27a, u27b⟩ := and_e u26b
  obtain ⟨u28a, u28b⟩ := and_e u27b
  obtain ⟨u29a, u29b⟩ := and_e u28b
  obtain ⟨u30a, u30b⟩ := and_e u29b
  obtain ⟨u31a, u31b⟩ := and_e u30b
  obtain ⟨u32a, u32b⟩ := and_e u31b
  obtain ⟨u33a, u33b⟩ := and_e u32b
  obtain ⟨u34a, u34b⟩ := and_e u33b
  obtain ⟨u35a, u35b⟩ := and_e u34b
  obtain ⟨u36a, u36b⟩ := and_e u35b
  obtain ⟨u37a, u37b⟩ := and_e u36b
  obtain ⟨w_N1, ev_N1⟩ := exa_v u1a
  have S_N1 : Sta s s.heap "com/example/ramparts/ramparts/tile/Segment" "N1" "Lcom/example/ramparts/ramparts/tile/Segment;" (.ref w_N1) := Sta.start ev_N1 (Or.inr ⟨(hw _ (List.mem_of_getElem? (i := 3) rfl)), (hw _ (List.mem_of_getElem? (i := 4) rfl))⟩)
  have E_N1 : Exa s s.heap w_N1 "com/example/ramparts/ramparts/tile/Segment" := Exa.start ev_N1 u1a
  obtain ⟨w_N2, ev_N2⟩ := exa_v u2a
  have S_N2 : Sta s s.heap "com/example/ramparts/ramparts/tile/Segment" "N2" "Lcom/example/ramparts/ramparts/tile/Segment;" (.ref w_N2) := Sta.start ev_N2 (Or.inr ⟨(hw _ (List.mem_of_getElem? (i := 3) rfl)), (hw _ (List.mem_of_getElem? (i := 7) rfl))⟩)
  have E_N2 : Exa s s.heap w_N2 "com/example/ramparts/ramparts/tile/Segment" := Exa.start ev_N2 u2a
  obtain ⟨w_N3, ev_N3⟩ := exa_v u3a
  have S_N3 : Sta s s.heap "com/example/ramparts/ramparts/tile/Segment" "N3" "Lcom/example/ramparts/ramparts/tile/Segment;" (.ref w_N3) := Sta.start ev_N3 (Or.inr ⟨(hw _ (List.mem_of_getElem? (i := 3) rfl)), (hw _ (List.mem_of_getElem? (i := 9) rfl))⟩)
  have E_N3 : Exa s s.heap w_N3 "com/example/ramparts/ramparts/tile/Segment" := Exa.start ev_N3 u3a
  obtain ⟨w_E1, ev_E1⟩ := exa_v u4a
  have S_E1 : Sta s s.heap "com/example/ramparts/ramparts/tile/Segment" "E1" "Lcom/example/ramparts/ramparts/tile/Segment;" (.ref w_E1) := Sta.start ev_E1 (Or.inr ⟨(hw _ (List.mem_of_getElem? (i := 3) rfl)), (hw _ (List.mem_of_getElem? (i := 11) rfl))⟩)
  have E_E1 : Exa s s.heap w_E1 "com/example/ramparts/ramparts/tile/Segment" := Exa.start ev_E1 u4a
  obtain ⟨w_E2, ev_E2⟩ := exa_v u5a
  have S_E2 : Sta s s.heap "com/example/ramparts/ramparts/tile/Segment" "E2" "Lcom/example/ramparts/ramparts/tile/Segment;" (.ref w_E2) := Sta.start ev_E2 (Or.inr ⟨(hw _ (List.mem_of_getElem? (i := 3) rfl)), (hw _ (List.mem_of_getElem? (i := 13) rfl))⟩)
  have E_E2 : Exa s s.heap w_E2 "com/example/ramparts/ramparts/tile/Segment" := Exa.start ev_E2 u5a
  obtain ⟨w_E3, ev_E3⟩ := exa_v u6a
  have S_E3 : Sta s s.heap "com/example/ramparts/ramparts/tile/Segment" "E3" "Lcom/example/ramparts/ramparts/tile/Segment;" (.ref w_E3) := Sta.start ev_E3 (Or.inr ⟨(hw _ (List.mem_of_getElem? (i := 3) rfl)), (hw _ (List.mem_of_getElem? (i := 15) rfl))⟩)
  have E_E3 : Exa s s.heap w_E3 "com/example/ramparts/ramparts/tile/Segment" := Exa.start ev_E3 u6a
  obtain ⟨w_S1, ev_S1⟩ := exa_v u7a
  have S_S1 : Sta s s.heap "com/example/ramparts/ramparts/tile/Segment" "S1" "Lcom/example/ramparts/ramparts/tile/Segment;" (.ref w_S1) := Sta.start ev_S1 (Or.inr ⟨(hw _ (List.mem_of_getElem? (i := 3) rfl)), (hw _ (List.mem_of_getElem? (i := 17) rfl))⟩)
  have E_S1 : Exa s s.heap w_S1 "com/example/ramparts/ramparts/tile/Segment" := Exa.start ev_S1 u7a
  obtain ⟨w_S2, ev_S2⟩ := exa_v u8a
  have S_S2 : Sta s s.heap "com/example/ramparts/ramparts/tile/Segment" "S2" "Lcom/example/ramparts/ramparts/tile/Segment;" (.ref w_S2) := Sta.start ev_S2 (Or.inr ⟨(hw _ (List.mem_of_getElem? (i := 3) rfl)), (hw _ (List.mem_of_getElem? (i := 19) rfl))⟩)
  have E_S2 : Exa s s.heap w_S2 "com/example/ramparts/ramparts/tile/Segment" := Exa.start ev_S2 u8a
  obtain ⟨w_S3, ev_S3⟩ := exa_v u9a
  have S_S3 : Sta s s.heap "com/example/ramparts/ramparts/tile/Segment" "S3" "Lcom/example/ramparts/ramparts/tile/Segment;" (.ref w_S3) := Sta.start ev_S3 (Or.inr ⟨(hw _ (List.mem_of_getElem? (i := 3) rfl)), (hw _ (List.mem_of_getElem? (i := 21) rfl))⟩)
  have E_S3 : Exa s s.heap w_S3 "com/example/ramparts/ramparts/tile/Segment" := Exa.start ev_S3 u9a
  obtain ⟨w_W1, ev_W1⟩ := exa_v u10a
  have S_W1 : Sta s s.heap "com/example/ramparts/ramparts/tile/Segment" "W1" "Lcom/example/ramparts/ramparts/tile/Segment;" (.ref w_W1) := Sta.start ev_W1 (Or.inr ⟨(hw _ (List.mem_of_getElem? (i := 3) rfl)), (hw _ (List.mem_of_getElem? (i := 23) rfl))⟩)
  have E_W1 : Exa s s.heap w_W1 "com/example/ramparts/ramparts/tile/Segment" := Exa.start ev_W1 u10a
  obtain ⟨w_W2, ev_W2⟩ := exa_v u11a
  have S_W2 : Sta s s.heap "com/example/ramparts/ramparts/tile/Segment" "W2" "Lcom/example/ramparts/ramparts/tile/Segment;" (.ref w_W2) := Sta.start ev_W2 (Or.inr ⟨(hw _ (List.mem_of_getElem? (i := 3) rfl)), (hw _ (List.mem_of_getElem? (i := 25) rfl))⟩)
  have E_W2 : Exa s s.heap w_W2 "com/example/ramparts/ramparts/tile/Segment" := Exa.start ev_W2 u11a
  obtain ⟨w_W3, ev_W3⟩ := exa_v u12a
  have S_W3 : Sta s s.heap "com/example/ramparts/ramparts/tile/Segment" "W3" "Lcom/example/ramparts/ramparts/tile/Segment;" (.ref w_W3) := Sta.start ev_W3 (Or.inr ⟨(hw _ (List.mem_of_getElem? (i := 3) rfl)), (hw _ (List.mem_of_getElem? (i := 27) rfl))⟩)
  have E_W3 : Exa s s.heap w_W3 "com/example/ramparts/ramparts/tile/Segment" := Exa.start ev_W3 u12a
  have F_ordinal_N1 : Fld s s.heap w_N1 "java/lang/Enum" "ordinal" "I" (.int (0 : Int32)) := own_fld u15a ev_N1
  have F_ordinal_E1 : Fld s s.heap w_E1 "java/lang/Enum" "ordinal" "I" (.int (3 : Int32)) := own_fld u17a ev_E1
  have F_ordinal_N3 : Fld s s.heap w_N3 "java/lang/Enum" "ordinal" "I" (.int (2 : Int32)) := own_fld u19a ev_N3
  have F_ordinal_S2 : Fld s s.heap w_S2 "java/lang/Enum" "ordinal" "I" (.int (7 : Int32)) := own_fld u21a ev_S2
  have F_ordinal_W3 : Fld s s.heap w_W3 "java/lang/Enum" "ordinal" "I" (.int (11 : Int32)) := own_fld u23a ev_W3
  have F_ordinal_E2 : Fld s s.heap w_E2 "java/lang/Enum" "ordinal" "I" (.int (4 : Int32)) := own_fld u25a ev_E2
  have F_ordinal_S3 : Fld s s.heap w_S3 "java/lang/Enum" "ordinal" "I" (.int (8 : Int32)) := own_fld u27a ev_S3
  have F_ordinal_N2 : Fld s s.heap w_N2 "java/lang/Enum" "ordinal" "I" (.int (1 : Int32)) := own_fld u29a ev_N2
  have F_ordinal_W2 : Fld s s.heap w_W2 "java/lang/Enum" "ordinal" "I" (.int (10 : Int32)) := own_fld u31a ev_W2
  have F_ordinal_W1 : Fld s s.heap w_W1 "java/lang/Enum" "ordinal" "I" (.int (9 : Int32)) := own_fld u33a ev_W1
  have F_ordinal_S1 : Fld s s.heap w_S1 "java/lang/Enum" "ordinal" "I" (.int (6 : Int32)) := own_fld u35a ev_S1
  have F_ordinal_E3 : Fld s s.heap w_E3 "java/lang/Enum" "ordinal" "I" (.int (5 : Int32)) := own_fld u37a ev_E3
  obtain ⟨w_RING, ev_RING⟩ := arr_v u13a
  have S_RING : Sta s s.heap "com/example/ramparts/ramparts/tile/Segment" "RING" "[Lcom/example/ramparts/ramparts/tile/Segment;" (.ref w_RING) := Sta.start ev_RING (Or.inr ⟨(hw _ (List.mem_of_getElem? (i := 3) rfl)), (hw _ (List.mem_of_getElem? (i := 35) rfl))⟩)
  obtain ⟨cl_RING, Ar_RING⟩ := Arr.start ev_RING u13a
  obtain ⟨hl_RING, hk_RING⟩ := own_len u14a ev_RING (Arr.fin (Vm.Alike.refl _) Ar_RING)
  have V_RING : ∃ k, Arv s s.heap w_RING k (.object "com/example/ramparts/ramparts/tile/Segment") (12 : Int32) [(.ref w_N1), (.ref w_N2), (.ref w_N3), (.ref w_E1), (.ref w_E2), (.ref w_E3), (.ref w_S1), (.ref w_S2), (.ref w_S3), (.ref w_W1), (.ref w_W2), (.ref w_W3)] .null := ⟨_, Arv.start hfit Ar_RING hl_RING hk_RING (by decide) rfl ⟨(own_elem u24a ev_RING ev_N1 Ar_RING.1), (own_elem u16a ev_RING ev_N2 Ar_RING.1), (own_elem u30a ev_RING ev_N3 Ar_RING.1), (own_elem u20a ev_RING ev_E1 Ar_RING.1), (own_elem u18a ev_RING ev_E2 Ar_RING.1), (own_elem u26a ev_RING ev_E3 Ar_RING.1), (own_elem u37b ev_RING ev_S1 Ar_RING.1), (own_elem u36a ev_RING ev_S2 Ar_RING.1), (own_elem u22a ev_RING ev_S3 Ar_RING.1), (own_elem u28a ev_RING ev_W1 Ar_RING.1), (own_elem u34a ev_RING ev_W2 Ar_RING.1), (own_elem u32a ev_RING ev_W3 Ar_RING.1), trivial⟩⟩
  obtain ⟨n, o, h1, h2, h3, _, L, rfl, ⟨rfl, N⟩, hq⟩ := rm0 l s _ hw tables_1 i0 w_N1 w_N2 w_N3 w_E1 w_E2 w_E3 w_S1 w_S2 w_S3 w_W1 w_W2 w_W3 w_RING s.heap s.heap.size (Nat.le_refl _) (Old.start s) S_N1 E_N1 F_ordinal_N1 S_N2 E_N2 F_ordinal_N2 S_N3 E_N3 F_ordinal_N3 S_E1 E_E1 F_ordinal_E1 S_E2 E_E2 F_ordinal_E2 S_E3 E_E3 F_ordinal_E3 S_S1 E_S1 F_ordinal_S1 S_S2 E_S2 F_ordinal_S2 S_S3 E_S3 F_ordinal_S3 S_W1 E_W1 F_ordinal_W1 S_W2 E_W2 F_ordinal_W2 S_W3 E_W3 F_ordinal_W3 S_RING V_RING p e ha hc hk s m _ below hf ((Spec.applies_iff_loose hf).mp happ).1 ⟨rfl, State.Warmed39.refl s, rfl⟩ trivial
  refine ⟨n, _, h1, h2, h3, hpost _ _ _ _ _ _ ⟨Cond.after_iff.mpr rfl, Cond.after_iff.mpr (eq_i res_at (Term.int_eval (1)) rfl), trivial⟩ ⟨hq.1, hq.2.1, (hq.2.2.sift fun y hy => Or.inr (N y hy)).mono (by decide) (by decide)⟩⟩
theorem main_1_1 : Claimed_1_1 := comes_1 fun _ _ _ _ _ _ h hF => ⟨h.1, hF⟩
theorem main_1_2 : Claimed_1_2 := comes_1 fun _ _ _ _ _ _ h hF => ⟨h.2.1, hF⟩
end Jvm.Pilot.@@N@@
namespace Jvm.Pilot.@@N@@
open Jvm Jvm.ClassFile Sem Op Lib Jvm.Free Jvm.Stand Jvm.Pilot.@@N@@.Jvm.D
/-! MADE BY PROGRAM (witnessworld.py) out of the Statement's table words and the real class files: 13 classes; the members and pool entries that the words name. The judged class is class 1, her method 1. -/
namespace start1
open Jvm.ClassFile
def u (s : String) : CpInfo := .utf8 (stringToUtf16 s)
/-- a pool by its gaps: so many unusable entries, then the entry; so many at the end -/
def gap : Nat → List CpInfo → List CpInfo
  | 0, r => r
  | n + 1, r => .unusable :: gap n r
def poolList (es : List (Nat × CpInfo)) (last : Nat) : List CpInfo := es.foldr (fun e r => gap e.1 (e.2 :: r)) (gap last [])
def pool (es : List (Nat × CpInfo)) (last : Nat) : Array CpInfo := ⟨poolList es last⟩
def fileOf (pool : Array CpInfo) (this : Nat) (attrs : Array Attribute := #[]) (ms : Array MethodInfo := #[]) (fl : Nat := 33) (sup : Nat := 0) (ifs : Array Nat := #[]) (fds : Array FieldInfo := #[]) : ClassFile where
  minorVersion := 0
  majorVersion := 65
  constantPool := pool
  accessFlags := fl
  thisClass := this
  superClass := sup
  interfaces := ifs
  fields := fds
  methods := ms
  attributes := attrs
def plain (name : String) (sup : Option ClassId) : Class where
  name := name
  kind := .ordinary
  loader := none
  accessFlags := 33
  super := sup
  interfaces := #[]
  cf := none
  fields := #[]
  methods := #[]
  instanceTypes := #[]
  staticTypes := #[]
  resolved := #[]
  callSites := []
  init := .initialized
  statics := none
  mirror := none

def pool0 : Array CpInfo := pool [(5, u "<init>"), (0, u "()V"), (1, .class_ 10), (1, u "java/lang/Object")] 113

def k0m0 : Method := { name := "<init>", desc := "()V", sig := { parameters := [], returnType := none }, accessFlags := 1, code := none }
/-- java/lang/Object -/
def k0 : Class := { plain "java/lang/Object" none with
  accessFlags := 33
  interfaces := #[]
  cf := some (fileOf pool0 8 #[] #[{ accessFlags := 1, nameIndex := 5, descriptorIndex := 6, attributes := #[] }] 33 0 #[] #[])
  fields := #[]
  methods := #[k0m0]
  instanceTypes := #[]
  staticTypes := #[]
  resolved := Array.replicate 124 none
  statics := none }

def pool1 : Array CpInfo := pool [(2, .class_ 4), (1, u "java/lang/Object"), (0, u "<init>"), (0, u "()V"), (0, .class_ 8), (0, u "com/example/ramparts/ramparts/tile/Segment"), (0, .fieldref 7 10), (0, .nameAndType 11 12), (0, u "N1"), (0, u "Lcom/example/ramparts/ramparts/tile/Segment;"), (0, .fieldref 7 14), (0, .nameAndType 15 12), (0, u "N2"), (0, .fieldref 7 17), (0, .nameAndType 18 12), (0, u "N3"), (0, .fieldref 7 20), (0, .nameAndType 21 12), (0, u "E1"), (0, .fieldref 7 23), (0, .nameAndType 24 12), (0, u "E2"), (0, .fieldref 7 26), (0, .nameAndType 27 12), (0, u "E3"), (0, .fieldref 7 29), (0, .nameAndType 30 12), (0, u "S1"), (0, .fieldref 7 32), (0, .nameAndType 33 12), (0, u "S2"), (0, .fieldref 7 35), (0, .nameAndType 36 12), (0, u "S3"), (0, .fieldref 7 38), (0, .nameAndType 39 12), (0, u "W1"), (0, .fieldref 7 41), (0, .nameAndType 42 12), (0, u "W2"), (0, .fieldref 7 44), (0, .nameAndType 45 12), (0, u "W3"), (0, .integer 2147483647), (0, .methodref 7 48), (0, .nameAndType 49 50), (0, u "next"), (0, u "()Lcom/example/ramparts/ramparts/tile/Segment;"), (0, .class_ 52), (0, u "com/example/ramparts/ramparts/tile/SegmentNextPinLaw"), (2, u "law"), (0, u "(I)Z")] 5

def k1m0 : Method := { name := "<init>", desc := "()V", sig := { parameters := [], returnType := none }, accessFlags := 1, code := none }
def k1c1 : Code := { maxStack := 4, maxLocals := 4, code := code, exceptionTable := #[], attributes := #[] }
def k1m1 : Method := { name := "law", desc := "(I)Z", sig := { parameters := [.int], returnType := some .boolean }, accessFlags := 9, code := some k1c1 }
/-- com/example/ramparts/ramparts/tile/SegmentNextPinLaw -/
def k1 : Class := { plain "com/example/ramparts/ramparts/tile/SegmentNextPinLaw" (some 0) with
  accessFlags := 49
  interfaces := #[]
  cf := some (fileOf pool1 51 #[] #[{ accessFlags := 1, nameIndex := 5, descriptorIndex := 6, attributes := #[] }, { accessFlags := 9, nameIndex := 55, descriptorIndex := 56, attributes := #[] }] 49 2 #[] #[])
  fields := #[]
  methods := #[k1m0, k1m1]
  instanceTypes := #[]
  staticTypes := #[]
  resolved := Array.replicate 62 none
  statics := none }

def pool2 : Array CpInfo := pool [(1, .class_ 2), (0, u "java/lang/constant/Constable"), (0, .class_ 4), (0, u "java/lang/Object")] 6

/-- java/lang/constant/Constable -/
def k2 : Class := { plain "java/lang/constant/Constable" (some 0) with
  accessFlags := 1537
  interfaces := #[]
  cf := some (fileOf pool2 1 #[] #[] 1537 3 #[] #[])
  fields := #[]
  methods := #[]
  instanceTypes := #[]
  staticTypes := #[]
  resolved := Array.replicate 11 none
  statics := none }

def pool3 : Array CpInfo := pool [(1, .class_ 2), (0, u "java/lang/Comparable"), (0, .class_ 4), (0, u "java/lang/Object")] 7

/-- java/lang/Comparable -/
def k3 : Class := { plain "java/lang/Comparable" (some 0) with
  accessFlags := 1537
  interfaces := #[]
  cf := some (fileOf pool3 1 #[] #[] 1537 3 #[] #[])
  fields := #[]
  methods := #[]
  instanceTypes := #[]
  staticTypes := #[]
  resolved := Array.replicate 12 none
  statics := none }

def pool4 : Array CpInfo := pool [(1, .class_ 2), (0, u "java/io/Serializable"), (0, .class_ 4), (0, u "java/lang/Object")] 2

/-- java/io/Serializable -/
def k4 : Class := { plain "java/io/Serializable" (some 0) with
  accessFlags := 1537
  interfaces := #[]
  cf := some (fileOf pool4 1 #[] #[] 1537 3 #[] #[])
  fields := #[]
  methods := #[]
  instanceTypes := #[]
  staticTypes := #[]
  resolved := Array.replicate 7 none
  statics := none }

def pool5 : Array CpInfo := pool [(2, .class_ 4), (1, u "java/lang/Enum"), (0, u "name"), (0, u "Ljava/lang/String;"), (0, .fieldref 2 8), (0, .nameAndType 9 10), (0, u "ordinal"), (0, u "I"), (1, .class_ 14), (1, u "java/lang/Object"), (4, u "hash"), (86, .class_ 108), (1, u "java/lang/Enum$EnumDesc"), (2, .class_ 112), (0, u "java/lang/constant/Constable"), (0, .class_ 114), (0, u "java/lang/Comparable"), (0, .class_ 116), (0, u "java/io/Serializable"), (9, u "()I")] 77

def k5c0 : Code := { maxStack := 1, maxLocals := 1, code := jdk_37_method_2_code, exceptionTable := #[], attributes := #[] }
def k5m0 : Method := { name := "ordinal", desc := "()I", sig := { parameters := [], returnType := some .int }, accessFlags := 17, code := some k5c0 }
/-- java/lang/Enum -/
def k5 : Class := { plain "java/lang/Enum" (some 0) with
  accessFlags := 1057
  interfaces := #[2, 3, 4]
  cf := some (fileOf pool5 2 #[.nestMembers #[106]] #[{ accessFlags := 17, nameIndex := 9, descriptorIndex := 126, attributes := #[] }] 1057 12 #[111, 113, 115] #[{ accessFlags := 18, nameIndex := 5, descriptorIndex := 6, attributes := #[] }, { accessFlags := 18, nameIndex := 9, descriptorIndex := 10, attributes := #[] }, { accessFlags := 2, nameIndex := 19, descriptorIndex := 10, attributes := #[] }])
  fields := #[{ name := "name", type := (.object "java/lang/String"), accessFlags := 18, slot := 0, constantValue := 0 }, { name := "ordinal", type := .int, accessFlags := 18, slot := 1, constantValue := 0 }, { name := "hash", type := .int, accessFlags := 2, slot := 2, constantValue := 0 }]
  methods := #[k5m0]
  instanceTypes := #[(.object "java/lang/String"), .int, .int]
  staticTypes := #[]
  resolved := Array.replicate 204 none
  statics := none }

def pool6 : Array CpInfo := pool [(1, .class_ 2), (0, u "com/example/ramparts/ramparts/tile/Segment"), (2, u "N1"), (0, u "Lcom/example/ramparts/ramparts/tile/Segment;"), (2, u "N2"), (2, u "N3"), (2, u "E1"), (2, u "E2"), (2, u "E3"), (2, u "S1"), (2, u "S2"), (2, u "S3"), (2, u "W1"), (2, u "W2"), (2, u "W3"), (2, u "$VALUES"), (0, u "[Lcom/example/ramparts/ramparts/tile/Segment;"), (6, .class_ 52), (1, u "java/lang/Enum"), (6, .methodref 1 60), (0, .nameAndType 61 62), (0, u "ordinal"), (0, u "()I"), (0, .fieldref 1 64), (0, .nameAndType 65 43), (0, u "RING"), (38, u "PER_SIDE"), (0, u "I"), (2, u "SIDES"), (10, u "next"), (0, u "()Lcom/example/ramparts/ramparts/tile/Segment;")] 10

def k6c0 : Code := { maxStack := 3, maxLocals := 1, code := prog_36_method_5_code, exceptionTable := #[], attributes := #[] }
def k6m0 : Method := { name := "next", desc := "()Lcom/example/ramparts/ramparts/tile/Segment;", sig := { parameters := [], returnType := some (.object "com/example/ramparts/ramparts/tile/Segment") }, accessFlags := 1, code := some k6c0 }
/-- com/example/ramparts/ramparts/tile/Segment -/
def k6 : Class := { plain "com/example/ramparts/ramparts/tile/Segment" (some 5) with
  accessFlags := 16433
  interfaces := #[]
  cf := some (fileOf pool6 1 #[] #[{ accessFlags := 1, nameIndex := 119, descriptorIndex := 120, attributes := #[] }] 16433 50 #[] #[{ accessFlags := 16409, nameIndex := 5, descriptorIndex := 6, attributes := #[] }, { accessFlags := 16409, nameIndex := 9, descriptorIndex := 6, attributes := #[] }, { accessFlags := 16409, nameIndex := 12, descriptorIndex := 6, attributes := #[] }, { accessFlags := 16409, nameIndex := 15, descriptorIndex := 6, attributes := #[] }, { accessFlags := 16409, nameIndex := 18, descriptorIndex := 6, attributes := #[] }, { accessFlags := 16409, nameIndex := 21, descriptorIndex := 6, attributes := #[] }, { accessFlags := 16409, nameIndex := 24, descriptorIndex := 6, attributes := #[] }, { accessFlags := 16409, nameIndex := 27, descriptorIndex := 6, attributes := #[] }, { accessFlags := 16409, nameIndex := 30, descriptorIndex := 6, attributes := #[] }, { accessFlags := 16409, nameIndex := 33, descriptorIndex := 6, attributes := #[] }, { accessFlags := 16409, nameIndex := 36, descriptorIndex := 6, attributes := #[] }, { accessFlags := 16409, nameIndex := 39, descriptorIndex := 6, attributes := #[] }, { accessFlags := 26, nameIndex := 104, descriptorIndex := 105, attributes := #[] }, { accessFlags := 26, nameIndex := 108, descriptorIndex := 105, attributes := #[] }, { accessFlags := 26, nameIndex := 65, descriptorIndex := 43, attributes := #[] }, { accessFlags := 4122, nameIndex := 42, descriptorIndex := 43, attributes := #[] }])
  fields := #[{ name := "N1", type := (.object "com/example/ramparts/ramparts/tile/Segment"), accessFlags := 16409, slot := 0, constantValue := 0 }, { name := "N2", type := (.object "com/example/ramparts/ramparts/tile/Segment"), accessFlags := 16409, slot := 1, constantValue := 0 }, { name := "N3", type := (.object "com/example/ramparts/ramparts/tile/Segment"), accessFlags := 16409, slot := 2, constantValue := 0 }, { name := "E1", type := (.object "com/example/ramparts/ramparts/tile/Segment"), accessFlags := 16409, slot := 3, constantValue := 0 }, { name := "E2", type := (.object "com/example/ramparts/ramparts/tile/Segment"), accessFlags := 16409, slot := 4, constantValue := 0 }, { name := "E3", type := (.object "com/example/ramparts/ramparts/tile/Segment"), accessFlags := 16409, slot := 5, constantValue := 0 }, { name := "S1", type := (.object "com/example/ramparts/ramparts/tile/Segment"), accessFlags := 16409, slot := 6, constantValue := 0 }, { name := "S2", type := (.object "com/example/ramparts/ramparts/tile/Segment"), accessFlags := 16409, slot := 7, constantValue := 0 }, { name := "S3", type := (.object "com/example/ramparts/ramparts/tile/Segment"), accessFlags := 16409, slot := 8, constantValue := 0 }, { name := "W1", type := (.object "com/example/ramparts/ramparts/tile/Segment"), accessFlags := 16409, slot := 9, constantValue := 0 }, { name := "W2", type := (.object "com/example/ramparts/ramparts/tile/Segment"), accessFlags := 16409, slot := 10, constantValue := 0 }, { name := "W3", type := (.object "com/example/ramparts/ramparts/tile/Segment"), accessFlags := 16409, slot := 11, constantValue := 0 }, { name := "PER_SIDE", type := .int, accessFlags := 26, slot := 12, constantValue := 0 }, { name := "SIDES", type := .int, accessFlags := 26, slot := 13, constantValue := 0 }, { name := "RING", type := (.array (.object "com/example/ramparts/ramparts/tile/Segment")), accessFlags := 26, slot := 14, constantValue := 0 }, { name := "$VALUES", type := (.array (.object "com/example/ramparts/ramparts/tile/Segment")), accessFlags := 4122, slot := 15, constantValue := 0 }]
  methods := #[k6m0]
  instanceTypes := #[(.object "java/lang/String"), .int, .int]
  staticTypes := #[(.object "com/example/ramparts/ramparts/tile/Segment"), (.object "com/example/ramparts/ramparts/tile/Segment"), (.object "com/example/ramparts/ramparts/tile/Segment"), (.object "com/example/ramparts/ramparts/tile/Segment"), (.object "com/example/ramparts/ramparts/tile/Segment"), (.object "com/example/ramparts/ramparts/tile/Segment"), (.object "com/example/ramparts/ramparts/tile/Segment"), (.object "com/example/ramparts/ramparts/tile/Segment"), (.object "com/example/ramparts/ramparts/tile/Segment"), (.object "com/example/ramparts/ramparts/tile/Segment"), (.object "com/example/ramparts/ramparts/tile/Segment"), (.object "com/example/ramparts/ramparts/tile/Segment"), .int, .int, (.array (.object "com/example/ramparts/ramparts/tile/Segment")), (.array (.object "com/example/ramparts/ramparts/tile/Segment"))]
  resolved := Array.replicate 131 none
  statics := some 0 }

def pool7 : Array CpInfo := pool [(1, u "java/lang/Cloneable"), (0, .class_ 1), (0, u "java/lang/Object"), (0, .class_ 3)] 3

/-- java/lang/Cloneable -/
def k7 : Class := { plain "java/lang/Cloneable" (some 0) with
  accessFlags := 1537
  interfaces := #[]
  cf := some (fileOf pool7 2 #[] #[] 1537 4 #[] #[])
  fields := #[]
  methods := #[]
  instanceTypes := #[]
  staticTypes := #[]
  resolved := Array.replicate 8 none
  statics := none }

/-- the primitive byte -/
def k8 : Class := { plain "byte" none with kind := .primitive 'B', accessFlags := 0x411 }
/-- [B -/
def k9 : Class := { plain "[B" (some 0) with kind := .array 8 .byte, interfaces := #[7, 4], accessFlags := 1041 }

/-- the primitive int -/
def k10 : Class := { plain "int" none with kind := .primitive 'I', accessFlags := 0x411 }
/-- [I -/
def k11 : Class := { plain "[I" (some 0) with kind := .array 10 .int, interfaces := #[7, 4], accessFlags := 1041 }

/-- [Lcom/example/ramparts/ramparts/tile/Segment; -/
def k12 : Class := { plain "[Lcom/example/ramparts/ramparts/tile/Segment;" (some 0) with kind := .array 6 (.object "com/example/ramparts/ramparts/tile/Segment"), interfaces := #[7, 4], accessFlags := 1041 }

def heap : Heap := #[{ cls := 6, slots := #[.ref 2, .ref 3, .ref 4, .ref 5, .ref 6, .ref 7, .ref 8, .ref 9, .ref 10, .ref 11, .ref 12, .ref 13, .int 0, .int 0, .ref 1, .null], vm := .statics 6 },
  { cls := 12, slots := #[.ref 2, .ref 3, .ref 4, .ref 5, .ref 6, .ref 7, .ref 8, .ref 9, .ref 10, .ref 11, .ref 12, .ref 13], vm := .none },
  { cls := 6, slots := #[.null, .int 0, .int 0], vm := .none },
  { cls := 6, slots := #[.null, .int 1, .int 0], vm := .none },
  { cls := 6, slots := #[.null, .int 2, .int 0], vm := .none },
  { cls := 6, slots := #[.null, .int 3, .int 0], vm := .none },
  { cls := 6, slots := #[.null, .int 4, .int 0], vm := .none },
  { cls := 6, slots := #[.null, .int 5, .int 0], vm := .none },
  { cls := 6, slots := #[.null, .int 6, .int 0], vm := .none },
  { cls := 6, slots := #[.null, .int 7, .int 0], vm := .none },
  { cls := 6, slots := #[.null, .int 8, .int 0], vm := .none },
  { cls := 6, slots := #[.null, .int 9, .int 0], vm := .none },
  { cls := 6, slots := #[.null, .int 10, .int 0], vm := .none },
  { cls := 6, slots := #[.null, .int 11, .int 0], vm := .none }]
def classes : Array Class := #[k0, k1, k2, k3, k4, k5, k6, k7, k8, k9, k10, k11, k12]
def interned : List (Array UInt16 × Addr) := []
def slotsUsed : Nat := 64
def theMethod : MethodId := ⟨1, 1⟩
def args0 : Array Value := #[.int 5]
def aboutOver (below : List Frame) : State where
  vm := { classes := classes, interned := interned.toArray }
  heap := heap
  slotsUsed := slotsUsed
  threads := #[{ frames := .invoking theMethod args0 :: below }]
def below0 : List Frame := [.native { method := ⟨0, 0⟩, args := #[] }]
def about1 : State := aboutOver below0
def p0 : Program := .bare "" "" ""
def e0 : Env := launch0.env 0 0 0
theorem w_frames : about1.frames = Frame.invoking theMethod args0 :: below0 := rfl
set_option maxRecDepth 65536 in
theorem w_args : argsFit about1.vm theMethod args0 = true := by decide +kernel
set_option maxRecDepth 65536 in
theorem w_heap : heapFits about1 = true := by decide +kernel
set_option maxRecDepth 65536 in
theorem w_runnable : about1.curStatus? = some .runnable := by decide +kernel
set_option maxRecDepth 65536 in
theorem w_alone : about1.alone = true := by decide +kernel
set_option maxRecDepth 65536 in
theorem w_named : about1.methodNamed? x = some theMethod := by decide +kernel
set_option maxRecDepth 65536 in
theorem w_hears : about1.hears theMethod below0 = true := by decide +kernel
set_option maxRecDepth 65536 in
theorem w_ripe : about1.ripe theMethod args0 below0 = true := by decide +kernel
theorem w_running : about1.status = .running := rfl
set_option maxRecDepth 65536 in
theorem w_room : about1.hasRoom e0.platform room_1 = true :=
  launch0.hasRoom_least _ room_1 (by decide +kernel) (by decide +kernel) (by decide +kernel) (by decide +kernel) (by decide +kernel) (by decide +kernel)
theorem allAtoms_all (ts : List Jvm.Cond) (a : Array Jvm.Value) (st : Jvm.State) : (allAtoms ts).before a st = ts.all (fun c => c.before a st) := by
  induction ts with
  | nil => rfl
  | cons c t ih =>
    show (Jvm.Cond.and c (allAtoms t)).before a st = _
    rw [Jvm.Cond.before_and, ih, List.all_cons]
def words1 : List Jvm.Cond := Jvm.Cond.code x code maxLocals ret :: tables_1
/-- a 'code' word, met by the world's own term for the bytes: nothing is compared byte by byte -/
theorem code_word {y : MethodName} {bytes : ByteArray} {mx : Nat} {rt : Option FieldType} {a : Array Value} {s : State} {m : MethodId} {meth : Method} {c : Code} (h1 : s.methodNamed? y = some m) (h2 : s.vm.method? m = some meth) (h3 : meth.code = some c) (h4 : c.code = bytes)
    (h5 : (c.maxLocals == mx && c.exceptionTable.isEmpty && decide (c.maxStack ≤ mostOperands) && decide (meth.sig.returnType = rt) && !meth.locks && decide (parseMethodDescriptor y.desc = some meth.sig)) = true) : (Jvm.Cond.code y bytes mx rt).before a s = true := by
  simp only [Bool.and_eq_true, beq_iff_eq, Bool.not_eq_true', decide_eq_true_eq] at h5
  obtain ⟨⟨⟨⟨⟨g1, g2⟩, g3⟩, g4⟩, g5⟩, g6⟩ := h5
  simp [Cond.before, Cond.holds, Cond.value, h1, h2, h3, h4, g1, g2, g3, g4, g5, g6]
def isCode : Jvm.Cond → Bool
  | .code _ _ _ _ => true
  | _ => false
theorem all_split {L : List Jvm.Cond} {P : Jvm.Cond → Bool} (h1 : L.all (fun c => isCode c || P c) = true) (h2 : ∀ c ∈ L.filter isCode, P c = true) : L.all P = true := by
  refine List.all_eq_true.mpr fun c hc => ?_
  have h := List.all_eq_true.mp h1 c hc
  rcases Bool.eq_false_or_eq_true (isCode c) with hi | hi
  · exact h2 c (List.mem_filter.mpr ⟨hc, hi⟩)
  · simpa [hi] using h
set_option maxRecDepth 65536 in
theorem w_c0 : (Jvm.Cond.code x code maxLocals ret).before args0 about1 = true := code_word (m := ⟨1, 1⟩) (meth := k1m1) (c := k1c1) (by decide +kernel) rfl rfl rfl (by decide +kernel)
set_option maxRecDepth 65536 in
theorem w_c1 : (Jvm.Cond.code ({ cls := "com/example/ramparts/ramparts/tile/Segment", name := "next", desc := "()Lcom/example/ramparts/ramparts/tile/Segment;" } : Jvm.MethodName) prog_36_method_5_code (1 : Nat) (Option.some (Jvm.ClassFile.FieldType.object "com/example/ramparts/ramparts/tile/Segment"))).before args0 about1 = true := code_word (m := ⟨6, 0⟩) (meth := k6m0) (c := k6c0) (by decide +kernel) rfl rfl rfl (by decide +kernel)
set_option maxRecDepth 65536 in
theorem w_c2 : (Jvm.Cond.code ({ cls := "java/lang/Enum", name := "ordinal", desc := "()I" } : Jvm.MethodName) jdk_37_method_2_code (1 : Nat) (Option.some Jvm.ClassFile.FieldType.int)).before args0 about1 = true := code_word (m := ⟨5, 0⟩) (meth := k5m0) (c := k5c0) (by decide +kernel) rfl rfl rfl (by decide +kernel)
def codes1 : List Jvm.Cond := [Jvm.Cond.code x code maxLocals ret, Jvm.Cond.code ({ cls := "com/example/ramparts/ramparts/tile/Segment", name := "next", desc := "()Lcom/example/ramparts/ramparts/tile/Segment;" } : Jvm.MethodName) prog_36_method_5_code (1 : Nat) (Option.some (Jvm.ClassFile.FieldType.object "com/example/ramparts/ramparts/tile/Segment")), Jvm.Cond.code ({ cls := "java/lang/Enum", name := "ordinal", desc := "()I" } : Jvm.MethodName) jdk_37_method_2_code (1 : Nat) (Option.some Jvm.ClassFile.FieldType.int)]
set_option maxRecDepth 65536 in
theorem codes_eq : words1.filter isCode = codes1 := rfl
theorem w_codes : ∀ c ∈ words1.filter isCode, c.before args0 about1 = true := by
  rw [codes_eq]
  intro c hc
  simp only [codes1, List.mem_cons, List.not_mem_nil, or_false] at hc
  rcases hc with rfl | rfl | rfl
  · exact w_c0
  · exact w_c1
  · exact w_c2
set_option maxRecDepth 65536 in
theorem w_t1 : (words1.take 24).all (fun c => isCode c || c.before args0 about1) = true := by decide +kernel
set_option maxRecDepth 65536 in
theorem w_t2 : (words1.drop 24).all (fun c => isCode c || c.before args0 about1) = true := by decide +kernel
theorem w_tables : (allAtoms (Jvm.Cond.code x code maxLocals ret :: tables_1)).before args0 about1 = true := by
  rw [allAtoms_all]
  show words1.all (fun c => c.before args0 about1) = true
  refine all_split ?_ w_codes
  rw [← List.take_append_drop 24 words1, List.all_append, w_t1, w_t2]
  rfl
set_option maxRecDepth 65536 in
theorem w_case : (Jvm.Cond.and given_1 narrow_1).before args0 about1 = true := by decide +kernel
theorem w_applies : (headSpec (Jvm.Cond.code x code maxLocals ret :: tables_1) room_1).applies x e0.platform about1 = true :=
  (Spec.applies_iff w_frames).mpr ⟨w_running, w_runnable, w_alone, w_named, w_hears, w_ripe, w_room, w_tables⟩
theorem atStart : AtStart classFile x code maxLocals ret World_1 tables_1 room_1 Calls_1 rest_1 Pre_1 launch0 p0 e0 about1 theMethod args0 below0 :=
  ⟨lists_1, trivial, launch0.admits_env _ _ _, launch0.least_env, fairChoices_fair.cas, fairChoices_fair.clock, w_frames, w_args, w_heap, w_applies, trivial, trivial, w_case⟩
end start1
theorem witness_1 : WitnessClaimed_1 := ⟨start1.p0, start1.e0, start1.about1, start1.theMethod, start1.args0, start1.below0, start1.atStart⟩
end Jvm.Pilot.@@N@@
