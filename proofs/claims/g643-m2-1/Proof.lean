import JvmDerived
import JvmDerived.Pilot.@@N@@Statement
import JvmDerived.Pilot.@@N@@Code
set_option linter.unusedVariables false
set_option linter.unusedSimpArgs false
@@BLOCK:NumsL.lean.txt@@
namespace Jvm.OwnW
open Sem ClassFile Op Lib Jvm.Stand Jvm.Free Jvm.LawKit Jvm.RoadKit
section Own
variable {p : Program} {l : Launch} {e : Env} {R : Room} {s : State} {m : MethodId} {args : Array Value} {below : List Frame} {meth : Method} {c : Code} {T : State} {locs : List Loc} {cells slots : Nat} {K N : Nat} {Q : Option Value → Heap → List Loc → Prop}
/-- from U the run comes to the method's end, and what it leaves there is Q -/
def OwnEnds (tb : Tables) (e : Env) (below : List Frame) (s : State) (K N : Nat) (Q : Option Value → Heap → List Loc → Prop) (U : State) : Prop :=
  ∃ s₂ o, Steps tb e below U s₂ ∧ s₂.status = .running ∧ Ended s₂ below o ∧ ∃ v L, o = .returned v ∧ Q v s₂.heap L ∧ FrameEnd s o s₂ L K N
theorem ogo {tb : Tables} {U U' : State} (st : ∀ t, Steps tb e below U' t → Steps tb e below U t) (h : OwnEnds tb e below s K N Q U') : OwnEnds tb e below s K N Q U := by
  obtain ⟨s₂, o, h1, h2⟩ := h
  exact ⟨s₂, o, st _ h1, h2⟩
theorem endR (X : Stand p l e R s m args below meth c T locs cells slots) (hx : p.tables.exec = Jvm.exec) (hlk : meth.locks = false) {pc : Nat} {Ls : Array Slot} {w : Value} {t : FieldType} {i : Instr} {rest : List Value} (hret : meth.sig.returnType = some t) (hn : narrow t w = w)
    (hi : (i = .ireturn ∧ (t = .int ∨ t = .boolean ∨ t = .byte ∨ t = .char ∨ t = .short) ∧ ∃ z, w = .int z) ∨ (i = .lreturn ∧ t = .long ∧ ∃ z, w = .long z) ∨ (i = .dreturn ∧ t = .double ∧ ∃ z, w = .double z) ∨ (i = .freturn ∧ t = .float ∧ ∃ z, w = .float z) ∨ (i = .areturn ∧ t.isReference = true ∧ w.isRef = true))
    (hd : decode c.code pc = .ok (i, 1)) (hK : cells ≤ K) (hN : slots ≤ N) (hQ : Q (some w) T.heap locs) : OwnEnds p.tables e below s K N Q (T.setTop (mkF m pc Ls (w :: rest))) := by
  obtain ⟨fs, hr, hrun, hended, hW, hsame⟩ := X.leave (v := some w) (fun h => by rw [hret] at h; cases h) hlk
  exact ⟨_, _, retOut X hx hret hn hi hd hr, hrun, hended, _, _, rfl, hQ, ⟨_, rfl⟩, hW, hsame.mono hK hN⟩
theorem endI (X : Stand p l e R s m args below meth c T locs cells slots) (hx : p.tables.exec = Jvm.exec) (hlk : meth.locks = false) {pc : Nat} {Ls : Array Slot} {z : Int32} {rest : List Value} (hret : meth.sig.returnType = some .int)
    (hd : decode c.code pc = .ok (.ireturn, 1)) (hK : cells ≤ K) (hN : slots ≤ N) (hQ : Q (some (.int z)) T.heap locs) : OwnEnds p.tables e below s K N Q (T.setTop (mkF m pc Ls (.int z :: rest))) :=
  endR X hx hlk hret rfl (Or.inl ⟨rfl, Or.inl rfl, z, rfl⟩) hd hK hN hQ
theorem endZ (X : Stand p l e R s m args below meth c T locs cells slots) (hx : p.tables.exec = Jvm.exec) (hlk : meth.locks = false) {pc : Nat} {Ls : Array Slot} {z : Int32} {rest : List Value} (hret : meth.sig.returnType = some .boolean) (hn : narrow .boolean (.int z) = .int z)
    (hd : decode c.code pc = .ok (.ireturn, 1)) (hK : cells ≤ K) (hN : slots ≤ N) (hQ : Q (some (.int z)) T.heap locs) : OwnEnds p.tables e below s K N Q (T.setTop (mkF m pc Ls (.int z :: rest))) :=
  endR X hx hlk hret hn (Or.inl ⟨rfl, Or.inr (Or.inl rfl), z, rfl⟩) hd hK hN hQ
theorem endJ (X : Stand p l e R s m args below meth c T locs cells slots) (hx : p.tables.exec = Jvm.exec) (hlk : meth.locks = false) {pc : Nat} {Ls : Array Slot} {z : Int64} {rest : List Value} (hret : meth.sig.returnType = some .long)
    (hd : decode c.code pc = .ok (.lreturn, 1)) (hK : cells ≤ K) (hN : slots ≤ N) (hQ : Q (some (.long z)) T.heap locs) : OwnEnds p.tables e below s K N Q (T.setTop (mkF m pc Ls (.long z :: rest))) :=
  endR X hx hlk hret rfl (Or.inr (Or.inl ⟨rfl, rfl, z, rfl⟩)) hd hK hN hQ
theorem endA (X : Stand p l e R s m args below meth c T locs cells slots) (hx : p.tables.exec = Jvm.exec) (hlk : meth.locks = false) {pc : Nat} {Ls : Array Slot} {w : Value} {t : FieldType} {rest : List Value} (hret : meth.sig.returnType = some t) (ht : t.isReference = true) (hw : w.isRef = true)
    (hd : decode c.code pc = .ok (.areturn, 1)) (hK : cells ≤ K) (hN : slots ≤ N) (hQ : Q (some w) T.heap locs) : OwnEnds p.tables e below s K N Q (T.setTop (mkF m pc Ls (w :: rest))) :=
  endR X hx hlk hret (by rcases ref_cases hw with rfl | ⟨a, rfl⟩ <;> cases t <;> simp_all [narrow, FieldType.isReference]) (Or.inr (Or.inr (Or.inr (Or.inr ⟨rfl, ht, hw⟩)))) hd hK hN hQ
theorem endV (X : Stand p l e R s m args below meth c T locs cells slots) (hx : p.tables.exec = Jvm.exec) (hlk : meth.locks = false) {pc : Nat} {Ls : Array Slot} (hret : meth.sig.returnType = none)
    (hd : decode c.code pc = .ok (.return_, 1)) (hK : cells ≤ K) (hN : slots ≤ N) (hQ : Q none T.heap locs) : OwnEnds p.tables e below s K N Q (T.setTop (mkF m pc Ls [])) := by
  obtain ⟨fs, hr, hrun, hended, hW, hsame⟩ := X.leave (v := none) (fun _ => rfl) hlk
  exact ⟨_, _, X.returnOut hx hret hd hr, hrun, hended, _, _, rfl, hQ, ⟨_, rfl⟩, hW, hsame.mono hK hN⟩
end Own
end Jvm.OwnW
namespace Jvm.Pilot.@@N@@
open Jvm Jvm.ClassFile Sem Op Lib Jvm.Free Jvm.Stand Jvm.LawKit Jvm.RoadKit Jvm.OwnW Bundle Jvm.Pilot.@@N@@.Jvm.D
theorem own_cat {v : Value} (h : v.isRef = true) : v.category = 1 := by rcases ref_cases h with rfl | ⟨a, rfl⟩ <;> rfl
theorem own_ite {q : Prop} [Decidable q] {a b : Value} (ha : a.isRef = true) (hb : b.isRef = true) : (if q then a else b).isRef = true := by split <;> assumption
theorem own_fld {args : Array Value} {s : State} {t : Term} {C n d : String} {k : Int32} {a : Addr} (h : (Cond.eq (.field t C n d) (.int k)).value args s none s [] = some true) (ev : t.eval args s none [] s = some (.ref a)) : Fld s s.heap a C n d (.int k) := by
  obtain ⟨x, y, e1, e2, -, -⟩ := cmp_v (Or.inl h)
  have e3 : y = .int k := (Option.some.inj (e2.symm.trans (Term.int_eval k)))
  subst e3
  have e4 : s.fieldOf? a C n d = some x := by simpa [Term.eval, ev] using e1
  cases x <;> simp [Cond.value, e1, e2] at h
  subst h
  exact Fld.start e4
theorem own_rng (x n : Int32) (hn : 0 < n.toInt) : 0 ≤ ((x &&& 2147483647) % n).toInt ∧ ((x &&& 2147483647) % n).toInt < n.toInt := by
  have e1 : (x &&& 2147483647).toInt = x.toInt % 2 ^ 31 := Jvm.Kit.i32_mask x 2147483647 (k := 31) (by decide) (by decide)
  have e2 := Jvm.Kit.i32_rem_nonneg (x := x &&& 2147483647) (y := n) (by omega)
  rw [e2]
  exact ⟨Int.emod_nonneg _ (by omega), Int.emod_lt_of_pos _ hn⟩
theorem own_case10 {k : Int32} (h : 0 ≤ k.toInt ∧ k.toInt < 10) : k = 0 ∨ k = 1 ∨ k = 2 ∨ k = 3 ∨ k = 4 ∨ k = 5 ∨ k = 6 ∨ k = 7 ∨ k = 8 ∨ k = 9 := by
  rcases (by omega : k.toInt = 0 ∨ k.toInt = 1 ∨ k.toInt = 2 ∨ k.toInt = 3 ∨ k.toInt = 4 ∨ k.toInt = 5 ∨ k.toInt = 6 ∨ k.toInt = 7 ∨ k.toInt = 8 ∨ k.toInt = 9) with q | q | q | q | q | q | q | q | q | q
  · exact Or.inl (Int32.toInt_inj.mp (q.trans (by decide)))
  · exact Or.inr (Or.inl (Int32.toInt_inj.mp (q.trans (by decide))))
  · exact Or.inr (Or.inr (Or.inl (Int32.toInt_inj.mp (q.trans (by decide)))))
  · exact Or.inr (Or.inr (Or.inr (Or.inl (Int32.toInt_inj.mp (q.trans (by decide))))))
  · exact Or.inr (Or.inr (Or.inr (Or.inr (Or.inl (Int32.toInt_inj.mp (q.trans (by decide)))))))
  · exact Or.inr (Or.inr (Or.inr (Or.inr (Or.inr (Or.inl (Int32.toInt_inj.mp (q.trans (by decide))))))))
  · exact Or.inr (Or.inr (Or.inr (Or.inr (Or.inr (Or.inr (Or.inl (Int32.toInt_inj.mp (q.trans (by decide)))))))))
  · exact Or.inr (Or.inr (Or.inr (Or.inr (Or.inr (Or.inr (Or.inr (Or.inl (Int32.toInt_inj.mp (q.trans (by decide))))))))))
  · exact Or.inr (Or.inr (Or.inr (Or.inr (Or.inr (Or.inr (Or.inr (Or.inr (Or.inl (Int32.toInt_inj.mp (q.trans (by decide)))))))))))
  · exact Or.inr (Or.inr (Or.inr (Or.inr (Or.inr (Or.inr (Or.inr (Or.inr (Or.inr ((Int32.toInt_inj.mp (q.trans (by decide))))))))))))

def own_state (k : Int32) (w_HELD w_SENT w_DELIVERED w_FAILED w_MOVED w_FOUND w_MISSING w_DONE w_REFUSED w_CANCELED_Notice_State : Addr) : Addr := if k = 0 then w_HELD else if k = 1 then w_SENT else if k = 2 then w_DELIVERED else if k = 3 then w_FAILED else if k = 4 then w_MOVED else if k = 5 then w_FOUND else if k = 6 then w_MISSING else if k = 7 then w_DONE else if k = 8 then w_REFUSED else w_CANCELED_Notice_State
theorem d1_0 : decode method_2_code 0 = .ok (.iload_n 0, 1) := by decide +kernel
theorem d1_1 : decode method_2_code 1 = .ok (.ifCond .ne 7, 3) := by decide +kernel
theorem d1_4 : decode method_2_code 4 = .ok (.getstatic 7, 3) := by decide +kernel
theorem d1_7 : decode method_2_code 7 = .ok (.areturn, 1) := by decide +kernel
theorem d1_8 : decode method_2_code 8 = .ok (.iload_n 0, 1) := by decide +kernel
theorem d1_9 : decode method_2_code 9 = .ok (.iconst 1, 1) := by decide +kernel
theorem d1_10 : decode method_2_code 10 = .ok (.if_icmp .ne 7, 3) := by decide +kernel
theorem d1_13 : decode method_2_code 13 = .ok (.getstatic 13, 3) := by decide +kernel
theorem d1_16 : decode method_2_code 16 = .ok (.areturn, 1) := by decide +kernel
theorem d1_17 : decode method_2_code 17 = .ok (.iload_n 0, 1) := by decide +kernel
theorem d1_18 : decode method_2_code 18 = .ok (.iconst 2, 1) := by decide +kernel
theorem d1_19 : decode method_2_code 19 = .ok (.if_icmp .ne 7, 3) := by decide +kernel
theorem d1_22 : decode method_2_code 22 = .ok (.getstatic 16, 3) := by decide +kernel
theorem d1_25 : decode method_2_code 25 = .ok (.areturn, 1) := by decide +kernel
theorem d1_26 : decode method_2_code 26 = .ok (.iload_n 0, 1) := by decide +kernel
theorem d1_27 : decode method_2_code 27 = .ok (.iconst 3, 1) := by decide +kernel
theorem d1_28 : decode method_2_code 28 = .ok (.if_icmp .ne 7, 3) := by decide +kernel
theorem d1_31 : decode method_2_code 31 = .ok (.getstatic 19, 3) := by decide +kernel
theorem d1_34 : decode method_2_code 34 = .ok (.areturn, 1) := by decide +kernel
theorem d1_35 : decode method_2_code 35 = .ok (.iload_n 0, 1) := by decide +kernel
theorem d1_36 : decode method_2_code 36 = .ok (.iconst 4, 1) := by decide +kernel
theorem d1_37 : decode method_2_code 37 = .ok (.if_icmp .ne 7, 3) := by decide +kernel
theorem d1_40 : decode method_2_code 40 = .ok (.getstatic 22, 3) := by decide +kernel
theorem d1_43 : decode method_2_code 43 = .ok (.areturn, 1) := by decide +kernel
theorem d1_44 : decode method_2_code 44 = .ok (.iload_n 0, 1) := by decide +kernel
theorem d1_45 : decode method_2_code 45 = .ok (.iconst 5, 1) := by decide +kernel
theorem d1_46 : decode method_2_code 46 = .ok (.if_icmp .ne 7, 3) := by decide +kernel
theorem d1_49 : decode method_2_code 49 = .ok (.getstatic 25, 3) := by decide +kernel
theorem d1_52 : decode method_2_code 52 = .ok (.areturn, 1) := by decide +kernel
theorem d1_53 : decode method_2_code 53 = .ok (.iload_n 0, 1) := by decide +kernel
theorem d1_54 : decode method_2_code 54 = .ok (.bipush 6, 2) := by decide +kernel
theorem d1_56 : decode method_2_code 56 = .ok (.if_icmp .ne 7, 3) := by decide +kernel
theorem d1_59 : decode method_2_code 59 = .ok (.getstatic 28, 3) := by decide +kernel
theorem d1_62 : decode method_2_code 62 = .ok (.areturn, 1) := by decide +kernel
theorem d1_63 : decode method_2_code 63 = .ok (.iload_n 0, 1) := by decide +kernel
theorem d1_64 : decode method_2_code 64 = .ok (.bipush 7, 2) := by decide +kernel
theorem d1_66 : decode method_2_code 66 = .ok (.if_icmp .ne 7, 3) := by decide +kernel
theorem d1_69 : decode method_2_code 69 = .ok (.getstatic 31, 3) := by decide +kernel
theorem d1_72 : decode method_2_code 72 = .ok (.areturn, 1) := by decide +kernel
theorem d1_73 : decode method_2_code 73 = .ok (.iload_n 0, 1) := by decide +kernel
theorem d1_74 : decode method_2_code 74 = .ok (.bipush 8, 2) := by decide +kernel
theorem d1_76 : decode method_2_code 76 = .ok (.if_icmp .ne 7, 3) := by decide +kernel
theorem d1_79 : decode method_2_code 79 = .ok (.getstatic 34, 3) := by decide +kernel
theorem d1_82 : decode method_2_code 82 = .ok (.areturn, 1) := by decide +kernel
theorem d1_83 : decode method_2_code 83 = .ok (.getstatic 37, 3) := by decide +kernel
theorem d1_86 : decode method_2_code 86 = .ok (.areturn, 1) := by decide +kernel
theorem pn_StateIsSettledPinLaw : plainName "com/example/tidingsd/tidingsd/model/StateIsSettledPinLaw" = true := by first | (simp [plainName, overriddenIn]; done) | decide +kernel
theorem ef_1 (m : MethodId) (x0 : Int32) : entryFrame m #[(.int x0)] 1 = mkF m 0 #[.val (.int x0)] [] := by first | (simp [entryFrame, mkF, argsToLocals, Value.category]; done) | rfl
def Q1 (Z : State) (kk : Int32) (w_HELD w_SENT w_DELIVERED w_FAILED w_MOVED w_FOUND w_MISSING w_DONE w_REFUSED w_CANCELED_Notice_State : Addr) (h0 : Heap) (n0 : Nat) (v : Option Value) (h : Heap) (L : List Loc) : Prop := v = some (.ref (own_state kk w_HELD w_SENT w_DELIVERED w_FAILED w_MOVED w_FOUND w_MISSING w_DONE w_REFUSED w_CANCELED_Notice_State)) ∧ Fr n0 L ∧ h = h0
set_option maxRecDepth 65536 in
set_option maxHeartbeats 40000000 in
theorem rm1 (l : Launch) (Z : State) (a0 : Array Value) (hw : ∀ d ∈ tables_1, d.before a0 Z = true) (ws : List Jvm.Cond) (kk : Int32) (w_HELD w_SENT w_DELIVERED w_FAILED w_MOVED w_FOUND w_MISSING w_DONE w_REFUSED w_CANCELED_Notice_State : Addr) (h0 : Heap) (n0 : Nat) (Z0 : n0 ≤ h0.size) (S_HELD : Sta Z h0 "com/example/tidingsd/tidingsd/model/Notice$State" "HELD" "Lcom/example/tidingsd/tidingsd/model/Notice$State;" (.ref w_HELD)) (S_SENT : Sta Z h0 "com/example/tidingsd/tidingsd/model/Notice$State" "SENT" "Lcom/example/tidingsd/tidingsd/model/Notice$State;" (.ref w_SENT)) (S_DELIVERED : Sta Z h0 "com/example/tidingsd/tidingsd/model/Notice$State" "DELIVERED" "Lcom/example/tidingsd/tidingsd/model/Notice$State;" (.ref w_DELIVERED)) (S_FAILED : Sta Z h0 "com/example/tidingsd/tidingsd/model/Notice$State" "FAILED" "Lcom/example/tidingsd/tidingsd/model/Notice$State;" (.ref w_FAILED)) (S_MOVED : Sta Z h0 "com/example/tidingsd/tidingsd/model/Notice$State" "MOVED" "Lcom/example/tidingsd/tidingsd/model/Notice$State;" (.ref w_MOVED)) (S_FOUND : Sta Z h0 "com/example/tidingsd/tidingsd/model/Notice$State" "FOUND" "Lcom/example/tidingsd/tidingsd/model/Notice$State;" (.ref w_FOUND)) (S_MISSING : Sta Z h0 "com/example/tidingsd/tidingsd/model/Notice$State" "MISSING" "Lcom/example/tidingsd/tidingsd/model/Notice$State;" (.ref w_MISSING)) (S_DONE : Sta Z h0 "com/example/tidingsd/tidingsd/model/Notice$State" "DONE" "Lcom/example/tidingsd/tidingsd/model/Notice$State;" (.ref w_DONE)) (S_REFUSED : Sta Z h0 "com/example/tidingsd/tidingsd/model/Notice$State" "REFUSED" "Lcom/example/tidingsd/tidingsd/model/Notice$State;" (.ref w_REFUSED)) (S_CANCELED_Notice_State : Sta Z h0 "com/example/tidingsd/tidingsd/model/Notice$State" "CANCELED" "Lcom/example/tidingsd/tidingsd/model/Notice$State;" (.ref w_CANCELED_Notice_State)) :
    MetFree l (⟨"com/example/tidingsd/tidingsd/model/StateIsSettledPinLaw", "state", "(I)Lcom/example/tidingsd/tidingsd/model/Notice$State;"⟩ : MethodName) (head1 (Jvm.Cond.code (⟨"com/example/tidingsd/tidingsd/model/StateIsSettledPinLaw", "state", "(I)Lcom/example/tidingsd/tidingsd/model/Notice$State;"⟩ : MethodName) method_2_code 1 (some (.object "com/example/tidingsd/tidingsd/model/Notice$State")) :: ws) ({ frames := 0, cells := 0, slots := 0, locals := 0 } : Room)) (fun a U => a = #[(.int kk)] ∧ Z.Warmed39 U.vm ∧ U.heap = h0) (fun _ _ _ _ _ => True) (fun _ U o U' => ∃ v L, o = .returned v ∧ Q1 Z kk w_HELD w_SENT w_DELIVERED w_FAILED w_MOVED w_FOUND w_MISSING w_DONE w_REFUSED w_CANCELED_Notice_State h0 n0 v U'.heap L ∧ FrameEnd U o U' L ({ frames := 0, cells := 0, slots := 0, locals := 0 } : Room).cells ({ frames := 0, cells := 0, slots := 0, locals := 0 } : Room).slots) := by
  refine MetFree.of_bodySF (plainFor_of_name pn_StateIsSettledPinLaw) hisR ?_
  intro p e s m args below meth c s₁ Bd hml0 hP hK
  obtain ⟨rfl, hZ, hh⟩ := hP
  have hx := Bd.exec
  have hby := Bd.bytes
  have hml : c.maxLocals = 1 := hml0
  have hown : s.vm.findClass "com/example/tidingsd/tidingsd/model/StateIsSettledPinLaw" = some m.cls := findClass_of_methodNamed Bd.named
  have hnm := (name_of_methodNamed Bd.named Bd.method).1
  have hlk : meth.locks = false := BodyLoose.notSynchronized Bd
  have X0 : Stand p l e ({ frames := 0, cells := 0, slots := 0, locals := 0 } : Room) s m #[(.int kk)] below meth c s₁ [] 0 0 := Stand.of_body Bd
  have e0 : s₁.heap = h0 := by rw [← hh, Bd.state]; rfl
  have N0 := Fr.nil n0
  refine ogo (U' := s₁.setTop (mkF m 0 #[.val (.int kk)] [])) (Q := Q1 Z kk w_HELD w_SENT w_DELIVERED w_FAILED w_MOVED w_FOUND w_MISSING w_DONE w_REFUSED w_CANCELED_Notice_State h0 n0) (K := ({ frames := 0, cells := 0, slots := 0, locals := 0 } : Room).cells) (N := ({ frames := 0, cells := 0, slots := 0, locals := 0 } : Room).slots) (fun t k => castTop (ef_1 m kk) k) ?_
  show OwnEnds _ _ _ _ _ _ _ (s₁.setTop (mkF m 0 #[.val (.int kk)] []))
  refine ogo (fun t k => XS.iloadN X0.here hx rfl (hb hby d1_0) rfl k) ?_
  show OwnEnds _ _ _ _ _ _ _ (s₁.setTop (mkF m 1 #[.val (.int kk)] [(.int kk)]))
  by_cases hc1 : kk = (0 : Int32)
  · refine ogo (fun t k => XS.ifNo X0.here hx rfl (hb hby d1_1) rfl ((if0 _ _).trans (teq hc1).2) k) ?_
    show OwnEnds _ _ _ _ _ _ _ (s₁.setTop (mkF m 4 #[.val (.int kk)] []))
    obtain ⟨T2, X2, e2, st2⟩ := getS2 X0 hx hZ hown (host := "") (Or.inl (hw _ (List.mem_of_getElem? (i := 5) rfl))) Via.refl e0 S_HELD (g := (mkF m 4 #[.val (.int kk)] [])) rfl (hb hby d1_4)
    refine ogo st2 ?_
    show OwnEnds _ _ _ _ _ _ _ (T2.setTop (mkF m 7 #[.val (.int kk)] [(.ref w_HELD)]))
    refine endA X2 hx hlk Bd.returns rfl rfl (hb hby d1_7) (by decide) (by decide) ?_
    show Q1 Z kk w_HELD w_SENT w_DELIVERED w_FAILED w_MOVED w_FOUND w_MISSING w_DONE w_REFUSED w_CANCELED_Notice_State h0 n0 _ T2.heap _
    rw [e2]
    exact ⟨by simp [own_state, hc1], N0, rfl⟩
  · refine ogo (fun t k => XS.ifYes X0.here hx rfl (pc0 := 1) (pc' := 8) rfl (hb hby d1_1) rfl ((if0 _ _).trans (feq hc1).2) (by decide) (by decide) k) ?_
    show OwnEnds _ _ _ _ _ _ _ (s₁.setTop (mkF m 8 #[.val (.int kk)] []))
    refine ogo (fun t k => XS.iloadN X0.here hx rfl (hb hby d1_8) rfl k) ?_
    show OwnEnds _ _ _ _ _ _ _ (s₁.setTop (mkF m 9 #[.val (.int kk)] [(.int kk)]))
    refine ogo (fun t k => XS.iconst X0.here hx rfl (hb hby d1_9) k) ?_
    show OwnEnds _ _ _ _ _ _ _ (s₁.setTop (mkF m 10 #[.val (.int kk)] [(.int (1 : Int32)), (.int kk)]))
    by_cases hc3 : kk = (1 : Int32)
    · refine ogo (fun t k => XS.icmpNo X0.here hx rfl (hb hby d1_10) rfl (teq hc3).2 k) ?_
      show OwnEnds _ _ _ _ _ _ _ (s₁.setTop (mkF m 13 #[.val (.int kk)] []))
      obtain ⟨T4, X4, e4, st4⟩ := getS2 X0 hx hZ hown (host := "") (Or.inl (hw _ (List.mem_of_getElem? (i := 43) rfl))) Via.refl e0 S_SENT (g := (mkF m 13 #[.val (.int kk)] [])) rfl (hb hby d1_13)
      refine ogo st4 ?_
      show OwnEnds _ _ _ _ _ _ _ (T4.setTop (mkF m 16 #[.val (.int kk)] [(.ref w_SENT)]))
      refine endA X4 hx hlk Bd.returns rfl rfl (hb hby d1_16) (by decide) (by decide) ?_
      show Q1 Z kk w_HELD w_SENT w_DELIVERED w_FAILED w_MOVED w_FOUND w_MISSING w_DONE w_REFUSED w_CANCELED_Notice_State h0 n0 _ T4.heap _
      rw [e4]
      exact ⟨by simp [own_state, hc1, hc3], N0, rfl⟩
    · refine ogo (fun t k => XS.icmpYes X0.here hx rfl (pc0 := 10) (pc' := 17) rfl (hb hby d1_10) rfl (feq hc3).2 (by decide) (by decide) k) ?_
      show OwnEnds _ _ _ _ _ _ _ (s₁.setTop (mkF m 17 #[.val (.int kk)] []))
      refine ogo (fun t k => XS.iloadN X0.here hx rfl (hb hby d1_17) rfl k) ?_
      show OwnEnds _ _ _ _ _ _ _ (s₁.setTop (mkF m 18 #[.val (.int kk)] [(.int kk)]))
      refine ogo (fun t k => XS.iconst X0.here hx rfl (hb hby d1_18) k) ?_
      show OwnEnds _ _ _ _ _ _ _ (s₁.setTop (mkF m 19 #[.val (.int kk)] [(.int (2 : Int32)), (.int kk)]))
      by_cases hc5 : kk = (2 : Int32)
      · refine ogo (fun t k => XS.icmpNo X0.here hx rfl (hb hby d1_19) rfl (teq hc5).2 k) ?_
        show OwnEnds _ _ _ _ _ _ _ (s₁.setTop (mkF m 22 #[.val (.int kk)] []))
        obtain ⟨T6, X6, e6, st6⟩ := getS2 X0 hx hZ hown (host := "") (Or.inl (hw _ (List.mem_of_getElem? (i := 69) rfl))) Via.refl e0 S_DELIVERED (g := (mkF m 22 #[.val (.int kk)] [])) rfl (hb hby d1_22)
        refine ogo st6 ?_
        show OwnEnds _ _ _ _ _ _ _ (T6.setTop (mkF m 25 #[.val (.int kk)] [(.ref w_DELIVERED)]))
        refine endA X6 hx hlk Bd.returns rfl rfl (hb hby d1_25) (by decide) (by decide) ?_
        show Q1 Z kk w_HELD w_SENT w_DELIVERED w_FAILED w_MOVED w_FOUND w_MISSING w_DONE w_REFUSED w_CANCELED_Notice_State h0 n0 _ T6.heap _
        rw [e6]
        exact ⟨by simp [own_state, hc1, hc3, hc5], N0, rfl⟩
      · refine ogo (fun t k => XS.icmpYes X0.here hx rfl (pc0 := 19) (pc' := 26) rfl (hb hby d1_19) rfl (feq hc5).2 (by decide) (by decide) k) ?_
        show OwnEnds _ _ _ _ _ _ _ (s₁.setTop (mkF m 26 #[.val (.int kk)] []))
        refine ogo (fun t k => XS.iloadN X0.here hx rfl (hb hby d1_26) rfl k) ?_
        show OwnEnds _ _ _ _ _ _ _ (s₁.setTop (mkF m 27 #[.val (.int kk)] [(.int kk)]))
        refine ogo (fun t k => XS.iconst X0.here hx rfl (hb hby d1_27) k) ?_
        show OwnEnds _ _ _ _ _ _ _ (s₁.setTop (mkF m 28 #[.val (.int kk)] [(.int (3 : Int32)), (.int kk)]))
        by_cases hc7 : kk = (3 : Int32)
        · refine ogo (fun t k => XS.icmpNo X0.here hx rfl (hb hby d1_28) rfl (teq hc7).2 k) ?_
          show OwnEnds _ _ _ _ _ _ _ (s₁.setTop (mkF m 31 #[.val (.int kk)] []))
          obtain ⟨T8, X8, e8, st8⟩ := getS2 X0 hx hZ hown (host := "") (Or.inl (hw _ (List.mem_of_getElem? (i := 59) rfl))) Via.refl e0 S_FAILED (g := (mkF m 31 #[.val (.int kk)] [])) rfl (hb hby d1_31)
          refine ogo st8 ?_
          show OwnEnds _ _ _ _ _ _ _ (T8.setTop (mkF m 34 #[.val (.int kk)] [(.ref w_FAILED)]))
          refine endA X8 hx hlk Bd.returns rfl rfl (hb hby d1_34) (by decide) (by decide) ?_
          show Q1 Z kk w_HELD w_SENT w_DELIVERED w_FAILED w_MOVED w_FOUND w_MISSING w_DONE w_REFUSED w_CANCELED_Notice_State h0 n0 _ T8.heap _
          rw [e8]
          exact ⟨by simp [own_state, hc1, hc3, hc5, hc7], N0, rfl⟩
        · refine ogo (fun t k => XS.icmpYes X0.here hx rfl (pc0 := 28) (pc' := 35) rfl (hb hby d1_28) rfl (feq hc7).2 (by decide) (by decide) k) ?_
          show OwnEnds _ _ _ _ _ _ _ (s₁.setTop (mkF m 35 #[.val (.int kk)] []))
          refine ogo (fun t k => XS.iloadN X0.here hx rfl (hb hby d1_35) rfl k) ?_
          show OwnEnds _ _ _ _ _ _ _ (s₁.setTop (mkF m 36 #[.val (.int kk)] [(.int kk)]))
          refine ogo (fun t k => XS.iconst X0.here hx rfl (hb hby d1_36) k) ?_
          show OwnEnds _ _ _ _ _ _ _ (s₁.setTop (mkF m 37 #[.val (.int kk)] [(.int (4 : Int32)), (.int kk)]))
          by_cases hc9 : kk = (4 : Int32)
          · refine ogo (fun t k => XS.icmpNo X0.here hx rfl (hb hby d1_37) rfl (teq hc9).2 k) ?_
            show OwnEnds _ _ _ _ _ _ _ (s₁.setTop (mkF m 40 #[.val (.int kk)] []))
            obtain ⟨T10, X10, e10, st10⟩ := getS2 X0 hx hZ hown (host := "") (Or.inl (hw _ (List.mem_of_getElem? (i := 46) rfl))) Via.refl e0 S_MOVED (g := (mkF m 40 #[.val (.int kk)] [])) rfl (hb hby d1_40)
            refine ogo st10 ?_
            show OwnEnds _ _ _ _ _ _ _ (T10.setTop (mkF m 43 #[.val (.int kk)] [(.ref w_MOVED)]))
            refine endA X10 hx hlk Bd.returns rfl rfl (hb hby d1_43) (by decide) (by decide) ?_
            show Q1 Z kk w_HELD w_SENT w_DELIVERED w_FAILED w_MOVED w_FOUND w_MISSING w_DONE w_REFUSED w_CANCELED_Notice_State h0 n0 _ T10.heap _
            rw [e10]
            exact ⟨by simp [own_state, hc1, hc3, hc5, hc7, hc9], N0, rfl⟩
          · refine ogo (fun t k => XS.icmpYes X0.here hx rfl (pc0 := 37) (pc' := 44) rfl (hb hby d1_37) rfl (feq hc9).2 (by decide) (by decide) k) ?_
            show OwnEnds _ _ _ _ _ _ _ (s₁.setTop (mkF m 44 #[.val (.int kk)] []))
            refine ogo (fun t k => XS.iloadN X0.here hx rfl (hb hby d1_44) rfl k) ?_
            show OwnEnds _ _ _ _ _ _ _ (s₁.setTop (mkF m 45 #[.val (.int kk)] [(.int kk)]))
            refine ogo (fun t k => XS.iconst X0.here hx rfl (hb hby d1_45) k) ?_
            show OwnEnds _ _ _ _ _ _ _ (s₁.setTop (mkF m 46 #[.val (.int kk)] [(.int (5 : Int32)), (.int kk)]))
            by_cases hc11 : kk = (5 : Int32)
            · refine ogo (fun t k => XS.icmpNo X0.here hx rfl (hb hby d1_46) rfl (teq hc11).2 k) ?_
              show OwnEnds _ _ _ _ _ _ _ (s₁.setTop (mkF m 49 #[.val (.int kk)] []))
              obtain ⟨T12, X12, e12, st12⟩ := getS2 X0 hx hZ hown (host := "") (Or.inl (hw _ (List.mem_of_getElem? (i := 51) rfl))) Via.refl e0 S_FOUND (g := (mkF m 49 #[.val (.int kk)] [])) rfl (hb hby d1_49)
              refine ogo st12 ?_
              show OwnEnds _ _ _ _ _ _ _ (T12.setTop (mkF m 52 #[.val (.int kk)] [(.ref w_FOUND)]))
              refine endA X12 hx hlk Bd.returns rfl rfl (hb hby d1_52) (by decide) (by decide) ?_
              show Q1 Z kk w_HELD w_SENT w_DELIVERED w_FAILED w_MOVED w_FOUND w_MISSING w_DONE w_REFUSED w_CANCELED_Notice_State h0 n0 _ T12.heap _
              rw [e12]
              exact ⟨by simp [own_state, hc1, hc3, hc5, hc7, hc9, hc11], N0, rfl⟩
            · refine ogo (fun t k => XS.icmpYes X0.here hx rfl (pc0 := 46) (pc' := 53) rfl (hb hby d1_46) rfl (feq hc11).2 (by decide) (by decide) k) ?_
              show OwnEnds _ _ _ _ _ _ _ (s₁.setTop (mkF m 53 #[.val (.int kk)] []))
              refine ogo (fun t k => XS.iloadN X0.here hx rfl (hb hby d1_53) rfl k) ?_
              show OwnEnds _ _ _ _ _ _ _ (s₁.setTop (mkF m 54 #[.val (.int kk)] [(.int kk)]))
              refine ogo (fun t k => XS.bipush X0.here hx rfl (hb hby d1_54) k) ?_
              show OwnEnds _ _ _ _ _ _ _ (s₁.setTop (mkF m 56 #[.val (.int kk)] [(.int (6 : Int32)), (.int kk)]))
              by_cases hc13 : kk = (6 : Int32)
              · refine ogo (fun t k => XS.icmpNo X0.here hx rfl (hb hby d1_56) rfl (teq hc13).2 k) ?_
                show OwnEnds _ _ _ _ _ _ _ (s₁.setTop (mkF m 59 #[.val (.int kk)] []))
                obtain ⟨T14, X14, e14, st14⟩ := getS2 X0 hx hZ hown (host := "") (Or.inl (hw _ (List.mem_of_getElem? (i := 64) rfl))) Via.refl e0 S_MISSING (g := (mkF m 59 #[.val (.int kk)] [])) rfl (hb hby d1_59)
                refine ogo st14 ?_
                show OwnEnds _ _ _ _ _ _ _ (T14.setTop (mkF m 62 #[.val (.int kk)] [(.ref w_MISSING)]))
                refine endA X14 hx hlk Bd.returns rfl rfl (hb hby d1_62) (by decide) (by decide) ?_
                show Q1 Z kk w_HELD w_SENT w_DELIVERED w_FAILED w_MOVED w_FOUND w_MISSING w_DONE w_REFUSED w_CANCELED_Notice_State h0 n0 _ T14.heap _
                rw [e14]
                exact ⟨by simp [own_state, hc1, hc3, hc5, hc7, hc9, hc11, hc13], N0, rfl⟩
              · refine ogo (fun t k => XS.icmpYes X0.here hx rfl (pc0 := 56) (pc' := 63) rfl (hb hby d1_56) rfl (feq hc13).2 (by decide) (by decide) k) ?_
                show OwnEnds _ _ _ _ _ _ _ (s₁.setTop (mkF m 63 #[.val (.int kk)] []))
                refine ogo (fun t k => XS.iloadN X0.here hx rfl (hb hby d1_63) rfl k) ?_
                show OwnEnds _ _ _ _ _ _ _ (s₁.setTop (mkF m 64 #[.val (.int kk)] [(.int kk)]))
                refine ogo (fun t k => XS.bipush X0.here hx rfl (hb hby d1_64) k) ?_
                show OwnEnds _ _ _ _ _ _ _ (s₁.setTop (mkF m 66 #[.val (.int kk)] [(.int (7 : Int32)), (.int kk)]))
                by_cases hc15 : kk = (7 : Int32)
                · refine ogo (fun t k => XS.icmpNo X0.here hx rfl (hb hby d1_66) rfl (teq hc15).2 k) ?_
                  show OwnEnds _ _ _ _ _ _ _ (s₁.setTop (mkF m 69 #[.val (.int kk)] []))
                  obtain ⟨T16, X16, e16, st16⟩ := getS2 X0 hx hZ hown (host := "") (Or.inl (hw _ (List.mem_of_getElem? (i := 65) rfl))) Via.refl e0 S_DONE (g := (mkF m 69 #[.val (.int kk)] [])) rfl (hb hby d1_69)
                  refine ogo st16 ?_
                  show OwnEnds _ _ _ _ _ _ _ (T16.setTop (mkF m 72 #[.val (.int kk)] [(.ref w_DONE)]))
                  refine endA X16 hx hlk Bd.returns rfl rfl (hb hby d1_72) (by decide) (by decide) ?_
                  show Q1 Z kk w_HELD w_SENT w_DELIVERED w_FAILED w_MOVED w_FOUND w_MISSING w_DONE w_REFUSED w_CANCELED_Notice_State h0 n0 _ T16.heap _
                  rw [e16]
                  exact ⟨by simp [own_state, hc1, hc3, hc5, hc7, hc9, hc11, hc13, hc15], N0, rfl⟩
                · refine ogo (fun t k => XS.icmpYes X0.here hx rfl (pc0 := 66) (pc' := 73) rfl (hb hby d1_66) rfl (feq hc15).2 (by decide) (by decide) k) ?_
                  show OwnEnds _ _ _ _ _ _ _ (s₁.setTop (mkF m 73 #[.val (.int kk)] []))
                  refine ogo (fun t k => XS.iloadN X0.here hx rfl (hb hby d1_73) rfl k) ?_
                  show OwnEnds _ _ _ _ _ _ _ (s₁.setTop (mkF m 74 #[.val (.int kk)] [(.int kk)]))
                  refine ogo (fun t k => XS.bipush X0.here hx rfl (hb hby d1_74) k) ?_
                  show OwnEnds _ _ _ _ _ _ _ (s₁.setTop (mkF m 76 #[.val (.int kk)] [(.int (8 : Int32)), (.int kk)]))
                  by_cases hc17 : kk = (8 : Int32)
                  · refine ogo (fun t k => XS.icmpNo X0.here hx rfl (hb hby d1_76) rfl (teq hc17).2 k) ?_
                    show OwnEnds _ _ _ _ _ _ _ (s₁.setTop (mkF m 79 #[.val (.int kk)] []))
                    obtain ⟨T18, X18, e18, st18⟩ := getS2 X0 hx hZ hown (host := "") (Or.inl (hw _ (List.mem_of_getElem? (i := 56) rfl))) Via.refl e0 S_REFUSED (g := (mkF m 79 #[.val (.int kk)] [])) rfl (hb hby d1_79)
                    refine ogo st18 ?_
                    show OwnEnds _ _ _ _ _ _ _ (T18.setTop (mkF m 82 #[.val (.int kk)] [(.ref w_REFUSED)]))
                    refine endA X18 hx hlk Bd.returns rfl rfl (hb hby d1_82) (by decide) (by decide) ?_
                    show Q1 Z kk w_HELD w_SENT w_DELIVERED w_FAILED w_MOVED w_FOUND w_MISSING w_DONE w_REFUSED w_CANCELED_Notice_State h0 n0 _ T18.heap _
                    rw [e18]
                    exact ⟨by simp [own_state, hc1, hc3, hc5, hc7, hc9, hc11, hc13, hc15, hc17], N0, rfl⟩
                  · refine ogo (fun t k => XS.icmpYes X0.here hx rfl (pc0 := 76) (pc' := 83) rfl (hb hby d1_76) rfl (feq hc17).2 (by decide) (by decide) k) ?_
                    show OwnEnds _ _ _ _ _ _ _ (s₁.setTop (mkF m 83 #[.val (.int kk)] []))
                    obtain ⟨T19, X19, e19, st19⟩ := getS2 X0 hx hZ hown (host := "") (Or.inl (hw _ (List.mem_of_getElem? (i := 67) rfl))) Via.refl e0 S_CANCELED_Notice_State (g := (mkF m 83 #[.val (.int kk)] [])) rfl (hb hby d1_83)
                    refine ogo st19 ?_
                    show OwnEnds _ _ _ _ _ _ _ (T19.setTop (mkF m 86 #[.val (.int kk)] [(.ref w_CANCELED_Notice_State)]))
                    refine endA X19 hx hlk Bd.returns rfl rfl (hb hby d1_86) (by decide) (by decide) ?_
                    show Q1 Z kk w_HELD w_SENT w_DELIVERED w_FAILED w_MOVED w_FOUND w_MISSING w_DONE w_REFUSED w_CANCELED_Notice_State h0 n0 _ T19.heap _
                    rw [e19]
                    exact ⟨by simp [own_state, hc1, hc3, hc5, hc7, hc9, hc11, hc13, hc15, hc17], N0, rfl⟩
def own_op (k : Int32) (w_DELIVER w_ACKNOWLEDGE w_PROBE w_RESPONSE w_CANCEL w_CANCELED_Operation : Addr) : Addr := if k = 0 then w_DELIVER else if k = 1 then w_ACKNOWLEDGE else if k = 2 then w_PROBE else if k = 3 then w_RESPONSE else if k = 4 then w_CANCEL else w_CANCELED_Operation
theorem d2_0 : decode method_3_code 0 = .ok (.iload_n 0, 1) := by decide +kernel
theorem d2_1 : decode method_3_code 1 = .ok (.ifCond .ne 7, 3) := by decide +kernel
theorem d2_4 : decode method_3_code 4 = .ok (.getstatic 40, 3) := by decide +kernel
theorem d2_7 : decode method_3_code 7 = .ok (.areturn, 1) := by decide +kernel
theorem d2_8 : decode method_3_code 8 = .ok (.iload_n 0, 1) := by decide +kernel
theorem d2_9 : decode method_3_code 9 = .ok (.iconst 1, 1) := by decide +kernel
theorem d2_10 : decode method_3_code 10 = .ok (.if_icmp .ne 7, 3) := by decide +kernel
theorem d2_13 : decode method_3_code 13 = .ok (.getstatic 46, 3) := by decide +kernel
theorem d2_16 : decode method_3_code 16 = .ok (.areturn, 1) := by decide +kernel
theorem d2_17 : decode method_3_code 17 = .ok (.iload_n 0, 1) := by decide +kernel
theorem d2_18 : decode method_3_code 18 = .ok (.iconst 2, 1) := by decide +kernel
theorem d2_19 : decode method_3_code 19 = .ok (.if_icmp .ne 7, 3) := by decide +kernel
theorem d2_22 : decode method_3_code 22 = .ok (.getstatic 49, 3) := by decide +kernel
theorem d2_25 : decode method_3_code 25 = .ok (.areturn, 1) := by decide +kernel
theorem d2_26 : decode method_3_code 26 = .ok (.iload_n 0, 1) := by decide +kernel
theorem d2_27 : decode method_3_code 27 = .ok (.iconst 3, 1) := by decide +kernel
theorem d2_28 : decode method_3_code 28 = .ok (.if_icmp .ne 7, 3) := by decide +kernel
theorem d2_31 : decode method_3_code 31 = .ok (.getstatic 52, 3) := by decide +kernel
theorem d2_34 : decode method_3_code 34 = .ok (.areturn, 1) := by decide +kernel
theorem d2_35 : decode method_3_code 35 = .ok (.iload_n 0, 1) := by decide +kernel
theorem d2_36 : decode method_3_code 36 = .ok (.iconst 4, 1) := by decide +kernel
theorem d2_37 : decode method_3_code 37 = .ok (.if_icmp .ne 7, 3) := by decide +kernel
theorem d2_40 : decode method_3_code 40 = .ok (.getstatic 55, 3) := by decide +kernel
theorem d2_43 : decode method_3_code 43 = .ok (.areturn, 1) := by decide +kernel
theorem d2_44 : decode method_3_code 44 = .ok (.getstatic 58, 3) := by decide +kernel
theorem d2_47 : decode method_3_code 47 = .ok (.areturn, 1) := by decide +kernel
theorem ef_2 (m : MethodId) (x0 : Int32) : entryFrame m #[(.int x0)] 1 = mkF m 0 #[.val (.int x0)] [] := by first | (simp [entryFrame, mkF, argsToLocals, Value.category]; done) | rfl
def Q2 (Z : State) (kk : Int32) (w_DELIVER w_ACKNOWLEDGE w_PROBE w_RESPONSE w_CANCEL w_CANCELED_Operation : Addr) (h0 : Heap) (n0 : Nat) (v : Option Value) (h : Heap) (L : List Loc) : Prop := v = some (.ref (own_op kk w_DELIVER w_ACKNOWLEDGE w_PROBE w_RESPONSE w_CANCEL w_CANCELED_Operation)) ∧ Fr n0 L ∧ h = h0
set_option maxRecDepth 65536 in
set_option maxHeartbeats 40000000 in
theorem rm2 (l : Launch) (Z : State) (a0 : Array Value) (hw : ∀ d ∈ tables_1, d.before a0 Z = true) (ws : List Jvm.Cond) (kk : Int32) (w_DELIVER w_ACKNOWLEDGE w_PROBE w_RESPONSE w_CANCEL w_CANCELED_Operation : Addr) (h0 : Heap) (n0 : Nat) (Z0 : n0 ≤ h0.size) (S_DELIVER : Sta Z h0 "com/example/tidingsd/tidingsd/model/Operation" "DELIVER" "Lcom/example/tidingsd/tidingsd/model/Operation;" (.ref w_DELIVER)) (S_ACKNOWLEDGE : Sta Z h0 "com/example/tidingsd/tidingsd/model/Operation" "ACKNOWLEDGE" "Lcom/example/tidingsd/tidingsd/model/Operation;" (.ref w_ACKNOWLEDGE)) (S_PROBE : Sta Z h0 "com/example/tidingsd/tidingsd/model/Operation" "PROBE" "Lcom/example/tidingsd/tidingsd/model/Operation;" (.ref w_PROBE)) (S_RESPONSE : Sta Z h0 "com/example/tidingsd/tidingsd/model/Operation" "RESPONSE" "Lcom/example/tidingsd/tidingsd/model/Operation;" (.ref w_RESPONSE)) (S_CANCEL : Sta Z h0 "com/example/tidingsd/tidingsd/model/Operation" "CANCEL" "Lcom/example/tidingsd/tidingsd/model/Operation;" (.ref w_CANCEL)) (S_CANCELED_Operation : Sta Z h0 "com/example/tidingsd/tidingsd/model/Operation" "CANCELED" "Lcom/example/tidingsd/tidingsd/model/Operation;" (.ref w_CANCELED_Operation)) :
    MetFree l (⟨"com/example/tidingsd/tidingsd/model/StateIsSettledPinLaw", "op", "(I)Lcom/example/tidingsd/tidingsd/model/Operation;"⟩ : MethodName) (head1 (Jvm.Cond.code (⟨"com/example/tidingsd/tidingsd/model/StateIsSettledPinLaw", "op", "(I)Lcom/example/tidingsd/tidingsd/model/Operation;"⟩ : MethodName) method_3_code 1 (some (.object "com/example/tidingsd/tidingsd/model/Operation")) :: ws) ({ frames := 0, cells := 0, slots := 0, locals := 0 } : Room)) (fun a U => a = #[(.int kk)] ∧ Z.Warmed39 U.vm ∧ U.heap = h0) (fun _ _ _ _ _ => True) (fun _ U o U' => ∃ v L, o = .returned v ∧ Q2 Z kk w_DELIVER w_ACKNOWLEDGE w_PROBE w_RESPONSE w_CANCEL w_CANCELED_Operation h0 n0 v U'.heap L ∧ FrameEnd U o U' L ({ frames := 0, cells := 0, slots := 0, locals := 0 } : Room).cells ({ frames := 0, cells := 0, slots := 0, locals := 0 } : Room).slots) := by
  refine MetFree.of_bodySF (plainFor_of_name pn_StateIsSettledPinLaw) hisR ?_
  intro p e s m args below meth c s₁ Bd hml0 hP hK
  obtain ⟨rfl, hZ, hh⟩ := hP
  have hx := Bd.exec
  have hby := Bd.bytes
  have hml : c.maxLocals = 1 := hml0
  have hown : s.vm.findClass "com/example/tidingsd/tidingsd/model/StateIsSettledPinLaw" = some m.cls := findClass_of_methodNamed Bd.named
  have hnm := (name_of_methodNamed Bd.named Bd.method).1
  have hlk : meth.locks = false := BodyLoose.notSynchronized Bd
  have X0 : Stand p l e ({ frames := 0, cells := 0, slots := 0, locals := 0 } : Room) s m #[(.int kk)] below meth c s₁ [] 0 0 := Stand.of_body Bd
  have e0 : s₁.heap = h0 := by rw [← hh, Bd.state]; rfl
  have N0 := Fr.nil n0
  refine ogo (U' := s₁.setTop (mkF m 0 #[.val (.int kk)] [])) (Q := Q2 Z kk w_DELIVER w_ACKNOWLEDGE w_PROBE w_RESPONSE w_CANCEL w_CANCELED_Operation h0 n0) (K := ({ frames := 0, cells := 0, slots := 0, locals := 0 } : Room).cells) (N := ({ frames := 0, cells := 0, slots := 0, locals := 0 } : Room).slots) (fun t k => castTop (ef_2 m kk) k) ?_
  show OwnEnds _ _ _ _ _ _ _ (s₁.setTop (mkF m 0 #[.val (.int kk)] []))
  refine ogo (fun t k => XS.iloadN X0.here hx rfl (hb hby d2_0) rfl k) ?_
  show OwnEnds _ _ _ _ _ _ _ (s₁.setTop (mkF m 1 #[.val (.int kk)] [(.int kk)]))
  by_cases hc1 : kk = (0 : Int32)
  · refine ogo (fun t k => XS.ifNo X0.here hx rfl (hb hby d2_1) rfl ((if0 _ _).trans (teq hc1).2) k) ?_
    show OwnEnds _ _ _ _ _ _ _ (s₁.setTop (mkF m 4 #[.val (.int kk)] []))
    obtain ⟨T2, X2, e2, st2⟩ := getS2 X0 hx hZ hown (host := "") (Or.inl (hw _ (List.mem_of_getElem? (i := 44) rfl))) Via.refl e0 S_DELIVER (g := (mkF m 4 #[.val (.int kk)] [])) rfl (hb hby d2_4)
    refine ogo st2 ?_
    show OwnEnds _ _ _ _ _ _ _ (T2.setTop (mkF m 7 #[.val (.int kk)] [(.ref w_DELIVER)]))
    refine endA X2 hx hlk Bd.returns rfl rfl (hb hby d2_7) (by decide) (by decide) ?_
    show Q2 Z kk w_DELIVER w_ACKNOWLEDGE w_PROBE w_RESPONSE w_CANCEL w_CANCELED_Operation h0 n0 _ T2.heap _
    rw [e2]
    exact ⟨by simp [own_op, hc1], N0, rfl⟩
  · refine ogo (fun t k => XS.ifYes X0.here hx rfl (pc0 := 1) (pc' := 8) rfl (hb hby d2_1) rfl ((if0 _ _).trans (feq hc1).2) (by decide) (by decide) k) ?_
    show OwnEnds _ _ _ _ _ _ _ (s₁.setTop (mkF m 8 #[.val (.int kk)] []))
    refine ogo (fun t k => XS.iloadN X0.here hx rfl (hb hby d2_8) rfl k) ?_
    show OwnEnds _ _ _ _ _ _ _ (s₁.setTop (mkF m 9 #[.val (.int kk)] [(.int kk)]))
    refine ogo (fun t k => XS.iconst X0.here hx rfl (hb hby d2_9) k) ?_
    show OwnEnds _ _ _ _ _ _ _ (s₁.setTop (mkF m 10 #[.val (.int kk)] [(.int (1 : Int32)), (.int kk)]))
    by_cases hc3 : kk = (1 : Int32)
    · refine ogo (fun t k => XS.icmpNo X0.here hx rfl (hb hby d2_10) rfl (teq hc3).2 k) ?_
      show OwnEnds _ _ _ _ _ _ _ (s₁.setTop (mkF m 13 #[.val (.int kk)] []))
      obtain ⟨T4, X4, e4, st4⟩ := getS2 X0 hx hZ hown (host := "") (Or.inl (hw _ (List.mem_of_getElem? (i := 60) rfl))) Via.refl e0 S_ACKNOWLEDGE (g := (mkF m 13 #[.val (.int kk)] [])) rfl (hb hby d2_13)
      refine ogo st4 ?_
      show OwnEnds _ _ _ _ _ _ _ (T4.setTop (mkF m 16 #[.val (.int kk)] [(.ref w_ACKNOWLEDGE)]))
      refine endA X4 hx hlk Bd.returns rfl rfl (hb hby d2_16) (by decide) (by decide) ?_
      show Q2 Z kk w_DELIVER w_ACKNOWLEDGE w_PROBE w_RESPONSE w_CANCEL w_CANCELED_Operation h0 n0 _ T4.heap _
      rw [e4]
      exact ⟨by simp [own_op, hc1, hc3], N0, rfl⟩
    · refine ogo (fun t k => XS.icmpYes X0.here hx rfl (pc0 := 10) (pc' := 17) rfl (hb hby d2_10) rfl (feq hc3).2 (by decide) (by decide) k) ?_
      show OwnEnds _ _ _ _ _ _ _ (s₁.setTop (mkF m 17 #[.val (.int kk)] []))
      refine ogo (fun t k => XS.iloadN X0.here hx rfl (hb hby d2_17) rfl k) ?_
      show OwnEnds _ _ _ _ _ _ _ (s₁.setTop (mkF m 18 #[.val (.int kk)] [(.int kk)]))
      refine ogo (fun t k => XS.iconst X0.here hx rfl (hb hby d2_18) k) ?_
      show OwnEnds _ _ _ _ _ _ _ (s₁.setTop (mkF m 19 #[.val (.int kk)] [(.int (2 : Int32)), (.int kk)]))
      by_cases hc5 : kk = (2 : Int32)
      · refine ogo (fun t k => XS.icmpNo X0.here hx rfl (hb hby d2_19) rfl (teq hc5).2 k) ?_
        show OwnEnds _ _ _ _ _ _ _ (s₁.setTop (mkF m 22 #[.val (.int kk)] []))
        obtain ⟨T6, X6, e6, st6⟩ := getS2 X0 hx hZ hown (host := "") (Or.inl (hw _ (List.mem_of_getElem? (i := 48) rfl))) Via.refl e0 S_PROBE (g := (mkF m 22 #[.val (.int kk)] [])) rfl (hb hby d2_22)
        refine ogo st6 ?_
        show OwnEnds _ _ _ _ _ _ _ (T6.setTop (mkF m 25 #[.val (.int kk)] [(.ref w_PROBE)]))
        refine endA X6 hx hlk Bd.returns rfl rfl (hb hby d2_25) (by decide) (by decide) ?_
        show Q2 Z kk w_DELIVER w_ACKNOWLEDGE w_PROBE w_RESPONSE w_CANCEL w_CANCELED_Operation h0 n0 _ T6.heap _
        rw [e6]
        exact ⟨by simp [own_op, hc1, hc3, hc5], N0, rfl⟩
      · refine ogo (fun t k => XS.icmpYes X0.here hx rfl (pc0 := 19) (pc' := 26) rfl (hb hby d2_19) rfl (feq hc5).2 (by decide) (by decide) k) ?_
        show OwnEnds _ _ _ _ _ _ _ (s₁.setTop (mkF m 26 #[.val (.int kk)] []))
        refine ogo (fun t k => XS.iloadN X0.here hx rfl (hb hby d2_26) rfl k) ?_
        show OwnEnds _ _ _ _ _ _ _ (s₁.setTop (mkF m 27 #[.val (.int kk)] [(.int kk)]))
        refine ogo (fun t k => XS.iconst X0.here hx rfl (hb hby d2_27) k) ?_
        show OwnEnds _ _ _ _ _ _ _ (s₁.setTop (mkF m 28 #[.val (.int kk)] [(.int (3 : Int32)), (.int kk)]))
        by_cases hc7 : kk = (3 : Int32)
        · refine ogo (fun t k => XS.icmpNo X0.here hx rfl (hb hby d2_28) rfl (teq hc7).2 k) ?_
          show OwnEnds _ _ _ _ _ _ _ (s₁.setTop (mkF m 31 #[.val (.int kk)] []))
          obtain ⟨T8, X8, e8, st8⟩ := getS2 X0 hx hZ hown (host := "") (Or.inl (hw _ (List.mem_of_getElem? (i := 17) rfl))) Via.refl e0 S_RESPONSE (g := (mkF m 31 #[.val (.int kk)] [])) rfl (hb hby d2_31)
          refine ogo st8 ?_
          show OwnEnds _ _ _ _ _ _ _ (T8.setTop (mkF m 34 #[.val (.int kk)] [(.ref w_RESPONSE)]))
          refine endA X8 hx hlk Bd.returns rfl rfl (hb hby d2_34) (by decide) (by decide) ?_
          show Q2 Z kk w_DELIVER w_ACKNOWLEDGE w_PROBE w_RESPONSE w_CANCEL w_CANCELED_Operation h0 n0 _ T8.heap _
          rw [e8]
          exact ⟨by simp [own_op, hc1, hc3, hc5, hc7], N0, rfl⟩
        · refine ogo (fun t k => XS.icmpYes X0.here hx rfl (pc0 := 28) (pc' := 35) rfl (hb hby d2_28) rfl (feq hc7).2 (by decide) (by decide) k) ?_
          show OwnEnds _ _ _ _ _ _ _ (s₁.setTop (mkF m 35 #[.val (.int kk)] []))
          refine ogo (fun t k => XS.iloadN X0.here hx rfl (hb hby d2_35) rfl k) ?_
          show OwnEnds _ _ _ _ _ _ _ (s₁.setTop (mkF m 36 #[.val (.int kk)] [(.int kk)]))
          refine ogo (fun t k => XS.iconst X0.here hx rfl (hb hby d2_36) k) ?_
          show OwnEnds _ _ _ _ _ _ _ (s₁.setTop (mkF m 37 #[.val (.int kk)] [(.int (4 : Int32)), (.int kk)]))
          by_cases hc9 : kk = (4 : Int32)
          · refine ogo (fun t k => XS.icmpNo X0.here hx rfl (hb hby d2_37) rfl (teq hc9).2 k) ?_
            show OwnEnds _ _ _ _ _ _ _ (s₁.setTop (mkF m 40 #[.val (.int kk)] []))
            obtain ⟨T10, X10, e10, st10⟩ := getS2 X0 hx hZ hown (host := "") (Or.inl (hw _ (List.mem_of_getElem? (i := 53) rfl))) Via.refl e0 S_CANCEL (g := (mkF m 40 #[.val (.int kk)] [])) rfl (hb hby d2_40)
            refine ogo st10 ?_
            show OwnEnds _ _ _ _ _ _ _ (T10.setTop (mkF m 43 #[.val (.int kk)] [(.ref w_CANCEL)]))
            refine endA X10 hx hlk Bd.returns rfl rfl (hb hby d2_43) (by decide) (by decide) ?_
            show Q2 Z kk w_DELIVER w_ACKNOWLEDGE w_PROBE w_RESPONSE w_CANCEL w_CANCELED_Operation h0 n0 _ T10.heap _
            rw [e10]
            exact ⟨by simp [own_op, hc1, hc3, hc5, hc7, hc9], N0, rfl⟩
          · refine ogo (fun t k => XS.icmpYes X0.here hx rfl (pc0 := 37) (pc' := 44) rfl (hb hby d2_37) rfl (feq hc9).2 (by decide) (by decide) k) ?_
            show OwnEnds _ _ _ _ _ _ _ (s₁.setTop (mkF m 44 #[.val (.int kk)] []))
            obtain ⟨T11, X11, e11, st11⟩ := getS2 X0 hx hZ hown (host := "") (Or.inl (hw _ (List.mem_of_getElem? (i := 57) rfl))) Via.refl e0 S_CANCELED_Operation (g := (mkF m 44 #[.val (.int kk)] [])) rfl (hb hby d2_44)
            refine ogo st11 ?_
            show OwnEnds _ _ _ _ _ _ _ (T11.setTop (mkF m 47 #[.val (.int kk)] [(.ref w_CANCELED_Operation)]))
            refine endA X11 hx hlk Bd.returns rfl rfl (hb hby d2_47) (by decide) (by decide) ?_
            show Q2 Z kk w_DELIVER w_ACKNOWLEDGE w_PROBE w_RESPONSE w_CANCEL w_CANCELED_Operation h0 n0 _ T11.heap _
            rw [e11]
            exact ⟨by simp [own_op, hc1, hc3, hc5, hc7, hc9], N0, rfl⟩
theorem d3_0 : decode prog_74_method_4_code 0 = .ok (.aload_n 0, 1) := by decide +kernel
theorem d3_1 : decode prog_74_method_4_code 1 = .ok (.getstatic 3, 3) := by decide +kernel
theorem d3_4 : decode prog_74_method_4_code 4 = .ok (.if_acmp .eq 14, 3) := by decide +kernel
theorem d3_7 : decode prog_74_method_4_code 7 = .ok (.aload_n 0, 1) := by decide +kernel
theorem d3_8 : decode prog_74_method_4_code 8 = .ok (.getstatic 7, 3) := by decide +kernel
theorem d3_11 : decode prog_74_method_4_code 11 = .ok (.if_acmp .eq 7, 3) := by decide +kernel
theorem d3_14 : decode prog_74_method_4_code 14 = .ok (.iconst 1, 1) := by decide +kernel
theorem d3_15 : decode prog_74_method_4_code 15 = .ok (.goto 4, 3) := by decide +kernel
theorem d3_18 : decode prog_74_method_4_code 18 = .ok (.iconst 0, 1) := by decide +kernel
theorem d3_19 : decode prog_74_method_4_code 19 = .ok (.ireturn, 1) := by decide +kernel
theorem pn_Notice_State : plainName "com/example/tidingsd/tidingsd/model/Notice$State" = true := by first | (simp [plainName, overriddenIn]; done) | decide +kernel
theorem ef_3 (m : MethodId) (x0 : Addr) : entryFrame m #[(.ref x0)] 1 = mkF m 0 #[.val (.ref x0)] [] := by first | (simp [entryFrame, mkF, argsToLocals, Value.category]; done) | rfl
def Q3 (Z : State) (a1 w_HELD w_SENT : Addr) (h0 : Heap) (n0 : Nat) (v : Option Value) (h : Heap) (L : List Loc) : Prop := v = some (.int (if a1 = w_HELD then 0 else if a1 = w_SENT then 0 else 1)) ∧ Fr n0 L ∧ h = h0
set_option maxRecDepth 65536 in
set_option maxHeartbeats 40000000 in
theorem rm3 (l : Launch) (Z : State) (a0 : Array Value) (hw : ∀ d ∈ tables_1, d.before a0 Z = true) (ws : List Jvm.Cond) (a1 w_HELD w_SENT : Addr) (h0 : Heap) (n0 : Nat) (Z0 : n0 ≤ h0.size) (S_HELD : Sta Z h0 "com/example/tidingsd/tidingsd/model/Notice$State" "HELD" "Lcom/example/tidingsd/tidingsd/model/Notice$State;" (.ref w_HELD)) (S_SENT : Sta Z h0 "com/example/tidingsd/tidingsd/model/Notice$State" "SENT" "Lcom/example/tidingsd/tidingsd/model/Notice$State;" (.ref w_SENT)) :
    MetFree l (⟨"com/example/tidingsd/tidingsd/model/Notice$State", "isSettled", "()Z"⟩ : MethodName) (head1 (Jvm.Cond.code (⟨"com/example/tidingsd/tidingsd/model/Notice$State", "isSettled", "()Z"⟩ : MethodName) prog_74_method_4_code 1 (some .boolean) :: ws) ({ frames := 0, cells := 0, slots := 0, locals := 0 } : Room)) (fun a U => a = #[(.ref a1)] ∧ Z.Warmed39 U.vm ∧ U.heap = h0) (fun _ _ _ _ _ => True) (fun _ U o U' => ∃ v L, o = .returned v ∧ Q3 Z a1 w_HELD w_SENT h0 n0 v U'.heap L ∧ FrameEnd U o U' L ({ frames := 0, cells := 0, slots := 0, locals := 0 } : Room).cells ({ frames := 0, cells := 0, slots := 0, locals := 0 } : Room).slots) := by
  refine MetFree.of_bodySF (plainFor_of_name pn_Notice_State) hisR ?_
  intro p e s m args below meth c s₁ Bd hml0 hP hK
  obtain ⟨rfl, hZ, hh⟩ := hP
  have hx := Bd.exec
  have hby := Bd.bytes
  have hml : c.maxLocals = 1 := hml0
  have hown : s.vm.findClass "com/example/tidingsd/tidingsd/model/Notice$State" = some m.cls := findClass_of_methodNamed Bd.named
  have hnm := (name_of_methodNamed Bd.named Bd.method).1
  have hlk : meth.locks = false := BodyLoose.notSynchronized Bd
  have X0 : Stand p l e ({ frames := 0, cells := 0, slots := 0, locals := 0 } : Room) s m #[(.ref a1)] below meth c s₁ [] 0 0 := Stand.of_body Bd
  have e0 : s₁.heap = h0 := by rw [← hh, Bd.state]; rfl
  have N0 := Fr.nil n0
  refine ogo (U' := s₁.setTop (mkF m 0 #[.val (.ref a1)] [])) (Q := Q3 Z a1 w_HELD w_SENT h0 n0) (K := ({ frames := 0, cells := 0, slots := 0, locals := 0 } : Room).cells) (N := ({ frames := 0, cells := 0, slots := 0, locals := 0 } : Room).slots) (fun t k => castTop (ef_3 m a1) k) ?_
  show OwnEnds _ _ _ _ _ _ _ (s₁.setTop (mkF m 0 #[.val (.ref a1)] []))
  refine ogo (fun t k => XS.aloadN X0.here hx rfl (hb hby d3_0) rfl rfl k) ?_
  show OwnEnds _ _ _ _ _ _ _ (s₁.setTop (mkF m 1 #[.val (.ref a1)] [(.ref a1)]))
  obtain ⟨T1, X1, e1, st1⟩ := getS2 X0 hx hZ hown (host := "") (Or.inl (hw _ (List.mem_of_getElem? (i := 13) rfl))) Via.refl e0 S_HELD (g := (mkF m 1 #[.val (.ref a1)] [(.ref a1)])) rfl (hb hby d3_1)
  refine ogo st1 ?_
  show OwnEnds _ _ _ _ _ _ _ (T1.setTop (mkF m 4 #[.val (.ref a1)] [(.ref w_HELD), (.ref a1)]))
  by_cases hc2 : a1 = w_HELD
  · refine ogo (fun t k => Jvm.RoadKit.acmp (g := (mkF m 4 #[.val (.ref a1)] [(.ref w_HELD), (.ref a1)])) X1 hx rfl rfl rfl (pc0 := 4) (pc' := 18) (same := true) rfl (hb hby d3_4) rfl (decide_eq_true (congrArg Value.ref hc2)) (by decide) (by decide) k) ?_
    show OwnEnds _ _ _ _ _ _ _ (T1.setTop (mkF m 18 #[.val (.ref a1)] []))
    refine ogo (fun t k => XS.iconst X1.here hx rfl (hb hby d3_18) k) ?_
    show OwnEnds _ _ _ _ _ _ _ (T1.setTop (mkF m 19 #[.val (.ref a1)] [(.int (0 : Int32))]))
    refine endZ X1 hx hlk Bd.returns rfl (hb hby d3_19) (by decide) (by decide) ?_
    show Q3 Z a1 w_HELD w_SENT h0 n0 _ T1.heap _
    rw [e1]
    exact ⟨by simp [hc2], N0, rfl⟩
  · refine ogo (fun t k => Jvm.RoadKit.acmp (g := (mkF m 4 #[.val (.ref a1)] [(.ref w_HELD), (.ref a1)])) X1 hx rfl rfl rfl (pc0 := 4) (pc' := 7) (same := false) rfl (hb hby d3_4) rfl (decide_eq_false fun q => hc2 (Value.ref.inj q)) (by decide) (by decide) k) ?_
    show OwnEnds _ _ _ _ _ _ _ (T1.setTop (mkF m 7 #[.val (.ref a1)] []))
    refine ogo (fun t k => XS.aloadN X1.here hx rfl (hb hby d3_7) rfl rfl k) ?_
    show OwnEnds _ _ _ _ _ _ _ (T1.setTop (mkF m 8 #[.val (.ref a1)] [(.ref a1)]))
    obtain ⟨T3, X3, e3, st3⟩ := getS2 X1 hx hZ hown (host := "") (Or.inl (hw _ (List.mem_of_getElem? (i := 41) rfl))) Via.refl e1 S_SENT (g := (mkF m 8 #[.val (.ref a1)] [(.ref a1)])) rfl (hb hby d3_8)
    refine ogo st3 ?_
    show OwnEnds _ _ _ _ _ _ _ (T3.setTop (mkF m 11 #[.val (.ref a1)] [(.ref w_SENT), (.ref a1)]))
    by_cases hc4 : a1 = w_SENT
    · refine ogo (fun t k => Jvm.RoadKit.acmp (g := (mkF m 11 #[.val (.ref a1)] [(.ref w_SENT), (.ref a1)])) X3 hx rfl rfl rfl (pc0 := 11) (pc' := 18) (same := true) rfl (hb hby d3_11) rfl (decide_eq_true (congrArg Value.ref hc4)) (by decide) (by decide) k) ?_
      show OwnEnds _ _ _ _ _ _ _ (T3.setTop (mkF m 18 #[.val (.ref a1)] []))
      refine ogo (fun t k => XS.iconst X3.here hx rfl (hb hby d3_18) k) ?_
      show OwnEnds _ _ _ _ _ _ _ (T3.setTop (mkF m 19 #[.val (.ref a1)] [(.int (0 : Int32))]))
      refine endZ X3 hx hlk Bd.returns rfl (hb hby d3_19) (by decide) (by decide) ?_
      show Q3 Z a1 w_HELD w_SENT h0 n0 _ T3.heap _
      rw [e3]
      exact ⟨by simp [hc2, hc4], N0, rfl⟩
    · refine ogo (fun t k => Jvm.RoadKit.acmp (g := (mkF m 11 #[.val (.ref a1)] [(.ref w_SENT), (.ref a1)])) X3 hx rfl rfl rfl (pc0 := 11) (pc' := 14) (same := false) rfl (hb hby d3_11) rfl (decide_eq_false fun q => hc4 (Value.ref.inj q)) (by decide) (by decide) k) ?_
      show OwnEnds _ _ _ _ _ _ _ (T3.setTop (mkF m 14 #[.val (.ref a1)] []))
      refine ogo (fun t k => XS.iconst X3.here hx rfl (hb hby d3_14) k) ?_
      show OwnEnds _ _ _ _ _ _ _ (T3.setTop (mkF m 15 #[.val (.ref a1)] [(.int (1 : Int32))]))
      refine ogo (fun t k => XS.goto X3.here hx rfl (pc0 := 15) (pc' := 19) rfl (hb hby d3_15) (by decide) (by decide) k) ?_
      show OwnEnds _ _ _ _ _ _ _ (T3.setTop (mkF m 19 #[.val (.ref a1)] [(.int (1 : Int32))]))
      refine endZ X3 hx hlk Bd.returns rfl (hb hby d3_19) (by decide) (by decide) ?_
      show Q3 Z a1 w_HELD w_SENT h0 n0 _ T3.heap _
      rw [e3]
      exact ⟨by simp [hc2, hc4], N0, rfl⟩
theorem d4_0 : decode prog_77_method_5_code 0 = .ok (.aload_n 0, 1) := by decide +kernel
theorem d4_1 : decode prog_77_method_5_code 1 = .ok (.getfield 15, 3) := by decide +kernel
theorem d4_4 : decode prog_77_method_5_code 4 = .ok (.ireturn, 1) := by decide +kernel
theorem pn_Outcome : plainName "com/example/tidingsd/tidingsd/model/Outcome" = true := by first | (simp [plainName, overriddenIn]; done) | decide +kernel
theorem ef_4 (m : MethodId) (x0 : Addr) : entryFrame m #[(.ref x0)] 1 = mkF m 0 #[.val (.ref x0)] [] := by first | (simp [entryFrame, mkF, argsToLocals, Value.category]; done) | rfl
def Q4 (Z : State) (a1 : Addr) (o1 : Int32) (h0 : Heap) (n0 : Nat) (v : Option Value) (h : Heap) (L : List Loc) : Prop := v = some (.int o1) ∧ Fr n0 L ∧ h = h0
set_option maxRecDepth 65536 in
set_option maxHeartbeats 40000000 in
theorem rm4 (l : Launch) (Z : State) (a0 : Array Value) (hw : ∀ d ∈ tables_1, d.before a0 Z = true) (ws : List Jvm.Cond) (a1 : Addr) (o1 : Int32) (h0 : Heap) (n0 : Nat) (Z0 : n0 ≤ h0.size) (F_o : Fld Z h0 a1 "com/example/tidingsd/tidingsd/model/Outcome" "errorClass" "I" (.int o1)) :
    MetFree l (⟨"com/example/tidingsd/tidingsd/model/Outcome", "errorClass", "()I"⟩ : MethodName) (head1 (Jvm.Cond.code (⟨"com/example/tidingsd/tidingsd/model/Outcome", "errorClass", "()I"⟩ : MethodName) prog_77_method_5_code 1 (some .int) :: ws) ({ frames := 0, cells := 0, slots := 0, locals := 0 } : Room)) (fun a U => a = #[(.ref a1)] ∧ Z.Warmed39 U.vm ∧ U.heap = h0) (fun _ _ _ _ _ => True) (fun _ U o U' => ∃ v L, o = .returned v ∧ Q4 Z a1 o1 h0 n0 v U'.heap L ∧ FrameEnd U o U' L ({ frames := 0, cells := 0, slots := 0, locals := 0 } : Room).cells ({ frames := 0, cells := 0, slots := 0, locals := 0 } : Room).slots) := by
  refine MetFree.of_bodySF (plainFor_of_name pn_Outcome) hisR ?_
  intro p e s m args below meth c s₁ Bd hml0 hP hK
  obtain ⟨rfl, hZ, hh⟩ := hP
  have hx := Bd.exec
  have hby := Bd.bytes
  have hml : c.maxLocals = 1 := hml0
  have hown : s.vm.findClass "com/example/tidingsd/tidingsd/model/Outcome" = some m.cls := findClass_of_methodNamed Bd.named
  have hnm := (name_of_methodNamed Bd.named Bd.method).1
  have hlk : meth.locks = false := BodyLoose.notSynchronized Bd
  have X0 : Stand p l e ({ frames := 0, cells := 0, slots := 0, locals := 0 } : Room) s m #[(.ref a1)] below meth c s₁ [] 0 0 := Stand.of_body Bd
  have e0 : s₁.heap = h0 := by rw [← hh, Bd.state]; rfl
  have N0 := Fr.nil n0
  refine ogo (U' := s₁.setTop (mkF m 0 #[.val (.ref a1)] [])) (Q := Q4 Z a1 o1 h0 n0) (K := ({ frames := 0, cells := 0, slots := 0, locals := 0 } : Room).cells) (N := ({ frames := 0, cells := 0, slots := 0, locals := 0 } : Room).slots) (fun t k => castTop (ef_4 m a1) k) ?_
  show OwnEnds _ _ _ _ _ _ _ (s₁.setTop (mkF m 0 #[.val (.ref a1)] []))
  refine ogo (fun t k => XS.aloadN X0.here hx rfl (hb hby d4_0) rfl rfl k) ?_
  show OwnEnds _ _ _ _ _ _ _ (s₁.setTop (mkF m 1 #[.val (.ref a1)] [(.ref a1)]))
  obtain ⟨T1, X1, e1, st1⟩ := getF X0 hx hZ hown (host := "") (Or.inl (hw _ (List.mem_of_getElem? (i := 31) rfl))) Via.refl e0 F_o (g := (mkF m 1 #[.val (.ref a1)] [(.ref a1)])) rfl rfl (hb hby d4_1)
  refine ogo st1 ?_
  show OwnEnds _ _ _ _ _ _ _ (T1.setTop (mkF m 4 #[.val (.ref a1)] [(.int o1)]))
  refine endI X1 hx hlk Bd.returns (hb hby d4_4) (by decide) (by decide) ?_
  show Q4 Z a1 o1 h0 n0 _ T1.heap _
  rw [e1]
  exact ⟨by simp [], N0, rfl⟩
def ExA (Z : State) (h0 : Heap) (n0 : Nat) (v : Option Value) (h : Heap) (L : List Loc) (a b : Addr) : Prop := ∃ r : Addr, v = some (.ref r) ∧ Exa Z h0 r "com/example/tidingsd/tidingsd/model/Notice$State" ∧ r ≠ a ∧ r ≠ b ∧ Fr n0 L ∧ h = h0
theorem d5_0 : decode prog_74_method_5_code 0 = .ok (.iload_n 1, 1) := by decide +kernel
theorem d5_1 : decode prog_74_method_5_code 1 = .ok (.getstatic 53, 3) := by decide +kernel
theorem d5_4 : decode prog_74_method_5_code 4 = .ok (.invokevirtual 59, 3) := by decide +kernel
theorem d5_7 : decode prog_74_method_5_code 7 = .ok (.if_icmp .ne 7, 3) := by decide +kernel
theorem d5_10 : decode prog_74_method_5_code 10 = .ok (.iconst 1, 1) := by decide +kernel
theorem d5_11 : decode prog_74_method_5_code 11 = .ok (.goto 4, 3) := by decide +kernel
theorem d5_14 : decode prog_74_method_5_code 14 = .ok (.iconst 0, 1) := by decide +kernel
theorem d5_15 : decode prog_74_method_5_code 15 = .ok (.istore_n 2, 1) := by decide +kernel
theorem d5_16 : decode prog_74_method_5_code 16 = .ok (.iload_n 1, 1) := by decide +kernel
theorem d5_17 : decode prog_74_method_5_code 17 = .ok (.getstatic 63, 3) := by decide +kernel
theorem d5_20 : decode prog_74_method_5_code 20 = .ok (.invokevirtual 59, 3) := by decide +kernel
theorem d5_23 : decode prog_74_method_5_code 23 = .ok (.if_icmp .ne 7, 3) := by decide +kernel
theorem d5_26 : decode prog_74_method_5_code 26 = .ok (.iconst 1, 1) := by decide +kernel
theorem d5_27 : decode prog_74_method_5_code 27 = .ok (.goto 4, 3) := by decide +kernel
theorem d5_30 : decode prog_74_method_5_code 30 = .ok (.iconst 0, 1) := by decide +kernel
theorem d5_31 : decode prog_74_method_5_code 31 = .ok (.istore_n 3, 1) := by decide +kernel
theorem d5_32 : decode prog_74_method_5_code 32 = .ok (.iload_n 3, 1) := by decide +kernel
theorem d5_33 : decode prog_74_method_5_code 33 = .ok (.ifCond .eq 21, 3) := by decide +kernel
theorem d5_36 : decode prog_74_method_5_code 36 = .ok (.aload_n 0, 1) := by decide +kernel
theorem d5_37 : decode prog_74_method_5_code 37 = .ok (.getstatic 66, 3) := by decide +kernel
theorem d5_40 : decode prog_74_method_5_code 40 = .ok (.if_acmp .eq 10, 3) := by decide +kernel
theorem d5_43 : decode prog_74_method_5_code 43 = .ok (.aload_n 0, 1) := by decide +kernel
theorem d5_44 : decode prog_74_method_5_code 44 = .ok (.getstatic 72, 3) := by decide +kernel
theorem d5_47 : decode prog_74_method_5_code 47 = .ok (.if_acmp .ne 7, 3) := by decide +kernel
theorem d5_50 : decode prog_74_method_5_code 50 = .ok (.getstatic 16, 3) := by decide +kernel
theorem d5_53 : decode prog_74_method_5_code 53 = .ok (.areturn, 1) := by decide +kernel
theorem d5_54 : decode prog_74_method_5_code 54 = .ok (.aload_n 0, 1) := by decide +kernel
theorem d5_55 : decode prog_74_method_5_code 55 = .ok (.getstatic 72, 3) := by decide +kernel
theorem d5_58 : decode prog_74_method_5_code 58 = .ok (.if_acmp .ne 17, 3) := by decide +kernel
theorem d5_61 : decode prog_74_method_5_code 61 = .ok (.iload_n 2, 1) := by decide +kernel
theorem d5_62 : decode prog_74_method_5_code 62 = .ok (.ifCond .eq 9, 3) := by decide +kernel
theorem d5_65 : decode prog_74_method_5_code 65 = .ok (.getstatic 19, 3) := by decide +kernel
theorem d5_68 : decode prog_74_method_5_code 68 = .ok (.goto 6, 3) := by decide +kernel
theorem d5_71 : decode prog_74_method_5_code 71 = .ok (.getstatic 22, 3) := by decide +kernel
theorem d5_74 : decode prog_74_method_5_code 74 = .ok (.areturn, 1) := by decide +kernel
theorem d5_75 : decode prog_74_method_5_code 75 = .ok (.aload_n 0, 1) := by decide +kernel
theorem d5_76 : decode prog_74_method_5_code 76 = .ok (.getstatic 75, 3) := by decide +kernel
theorem d5_79 : decode prog_74_method_5_code 79 = .ok (.if_acmp .ne 17, 3) := by decide +kernel
theorem d5_82 : decode prog_74_method_5_code 82 = .ok (.iload_n 2, 1) := by decide +kernel
theorem d5_83 : decode prog_74_method_5_code 83 = .ok (.ifCond .eq 9, 3) := by decide +kernel
theorem d5_86 : decode prog_74_method_5_code 86 = .ok (.getstatic 25, 3) := by decide +kernel
theorem d5_89 : decode prog_74_method_5_code 89 = .ok (.goto 6, 3) := by decide +kernel
theorem d5_92 : decode prog_74_method_5_code 92 = .ok (.getstatic 28, 3) := by decide +kernel
theorem d5_95 : decode prog_74_method_5_code 95 = .ok (.areturn, 1) := by decide +kernel
theorem d5_96 : decode prog_74_method_5_code 96 = .ok (.iload_n 2, 1) := by decide +kernel
theorem d5_97 : decode prog_74_method_5_code 97 = .ok (.ifCond .eq 9, 3) := by decide +kernel
theorem d5_100 : decode prog_74_method_5_code 100 = .ok (.getstatic 10, 3) := by decide +kernel
theorem d5_103 : decode prog_74_method_5_code 103 = .ok (.goto 6, 3) := by decide +kernel
theorem d5_106 : decode prog_74_method_5_code 106 = .ok (.getstatic 13, 3) := by decide +kernel
theorem d5_109 : decode prog_74_method_5_code 109 = .ok (.areturn, 1) := by decide +kernel
theorem pd___I : parseMethodDescriptor "()I" = some ⟨[], some .int⟩ := by decide +kernel
theorem ef_5 (m : MethodId) (x0 : Addr) (x1 : Int32) : entryFrame m #[(.ref x0), (.int x1)] 4 = mkF m 0 #[.val (.ref x0), .val (.int x1), .unset, .unset] [] := by first | (simp [entryFrame, mkF, argsToLocals, Value.category]; done) | rfl
def Q5 (Z : State) (a1 : Addr) (ec1 : Int32) (w_HELD w_RESPONSE w_OK w_MAILBOX_MOVED w_PROBE w_CANCEL w_FAILED w_SENT w_DELIVER w_MOVED w_MISSING w_FOUND w_REFUSED w_CANCELED_Operation w_ACKNOWLEDGE w_DELIVERED w_DONE w_CANCELED_Notice_State : Addr) (h0 : Heap) (n0 : Nat) (v : Option Value) (h : Heap) (L : List Loc) : Prop := ExA Z h0 n0 v h L w_HELD w_SENT
set_option maxRecDepth 65536 in
set_option maxHeartbeats 40000000 in
theorem rm5 (l : Launch) (Z : State) (a0 : Array Value) (hw : ∀ d ∈ tables_1, d.before a0 Z = true) (ws : List Jvm.Cond) (a1 : Addr) (ec1 : Int32) (w_HELD w_RESPONSE w_OK w_MAILBOX_MOVED w_PROBE w_CANCEL w_FAILED w_SENT w_DELIVER w_MOVED w_MISSING w_FOUND w_REFUSED w_CANCELED_Operation w_ACKNOWLEDGE w_DELIVERED w_DONE w_CANCELED_Notice_State : Addr) (h0 : Heap) (n0 : Nat) (Z0 : n0 ≤ h0.size) (S_HELD : Sta Z h0 "com/example/tidingsd/tidingsd/model/Notice$State" "HELD" "Lcom/example/tidingsd/tidingsd/model/Notice$State;" (.ref w_HELD)) (E_HELD : Exa Z h0 w_HELD "com/example/tidingsd/tidingsd/model/Notice$State") (F_ordinal_HELD : Fld Z h0 w_HELD "java/lang/Enum" "ordinal" "I" (.int (0 : Int32))) (S_RESPONSE : Sta Z h0 "com/example/tidingsd/tidingsd/model/Operation" "RESPONSE" "Lcom/example/tidingsd/tidingsd/model/Operation;" (.ref w_RESPONSE)) (E_RESPONSE : Exa Z h0 w_RESPONSE "com/example/tidingsd/tidingsd/model/Operation") (F_ordinal_RESPONSE : Fld Z h0 w_RESPONSE "java/lang/Enum" "ordinal" "I" (.int (3 : Int32))) (S_OK : Sta Z h0 "com/example/tidingsd/tidingsd/model/Outcome" "OK" "Lcom/example/tidingsd/tidingsd/model/Outcome;" (.ref w_OK)) (E_OK : Exa Z h0 w_OK "com/example/tidingsd/tidingsd/model/Outcome") (F_errorClass_OK : Fld Z h0 w_OK "com/example/tidingsd/tidingsd/model/Outcome" "errorClass" "I" (.int (0 : Int32))) (S_MAILBOX_MOVED : Sta Z h0 "com/example/tidingsd/tidingsd/model/Outcome" "MAILBOX_MOVED" "Lcom/example/tidingsd/tidingsd/model/Outcome;" (.ref w_MAILBOX_MOVED)) (E_MAILBOX_MOVED : Exa Z h0 w_MAILBOX_MOVED "com/example/tidingsd/tidingsd/model/Outcome") (F_errorClass_MAILBOX_MOVED : Fld Z h0 w_MAILBOX_MOVED "com/example/tidingsd/tidingsd/model/Outcome" "errorClass" "I" (.int (1 : Int32))) (S_PROBE : Sta Z h0 "com/example/tidingsd/tidingsd/model/Operation" "PROBE" "Lcom/example/tidingsd/tidingsd/model/Operation;" (.ref w_PROBE)) (E_PROBE : Exa Z h0 w_PROBE "com/example/tidingsd/tidingsd/model/Operation") (F_ordinal_PROBE : Fld Z h0 w_PROBE "java/lang/Enum" "ordinal" "I" (.int (2 : Int32))) (S_CANCEL : Sta Z h0 "com/example/tidingsd/tidingsd/model/Operation" "CANCEL" "Lcom/example/tidingsd/tidingsd/model/Operation;" (.ref w_CANCEL)) (E_CANCEL : Exa Z h0 w_CANCEL "com/example/tidingsd/tidingsd/model/Operation") (F_ordinal_CANCEL : Fld Z h0 w_CANCEL "java/lang/Enum" "ordinal" "I" (.int (4 : Int32))) (S_FAILED : Sta Z h0 "com/example/tidingsd/tidingsd/model/Notice$State" "FAILED" "Lcom/example/tidingsd/tidingsd/model/Notice$State;" (.ref w_FAILED)) (E_FAILED : Exa Z h0 w_FAILED "com/example/tidingsd/tidingsd/model/Notice$State") (F_ordinal_FAILED : Fld Z h0 w_FAILED "java/lang/Enum" "ordinal" "I" (.int (3 : Int32))) (S_SENT : Sta Z h0 "com/example/tidingsd/tidingsd/model/Notice$State" "SENT" "Lcom/example/tidingsd/tidingsd/model/Notice$State;" (.ref w_SENT)) (E_SENT : Exa Z h0 w_SENT "com/example/tidingsd/tidingsd/model/Notice$State") (F_ordinal_SENT : Fld Z h0 w_SENT "java/lang/Enum" "ordinal" "I" (.int (1 : Int32))) (S_DELIVER : Sta Z h0 "com/example/tidingsd/tidingsd/model/Operation" "DELIVER" "Lcom/example/tidingsd/tidingsd/model/Operation;" (.ref w_DELIVER)) (E_DELIVER : Exa Z h0 w_DELIVER "com/example/tidingsd/tidingsd/model/Operation") (F_ordinal_DELIVER : Fld Z h0 w_DELIVER "java/lang/Enum" "ordinal" "I" (.int (0 : Int32))) (S_MOVED : Sta Z h0 "com/example/tidingsd/tidingsd/model/Notice$State" "MOVED" "Lcom/example/tidingsd/tidingsd/model/Notice$State;" (.ref w_MOVED)) (E_MOVED : Exa Z h0 w_MOVED "com/example/tidingsd/tidingsd/model/Notice$State") (F_ordinal_MOVED : Fld Z h0 w_MOVED "java/lang/Enum" "ordinal" "I" (.int (4 : Int32))) (S_MISSING : Sta Z h0 "com/example/tidingsd/tidingsd/model/Notice$State" "MISSING" "Lcom/example/tidingsd/tidingsd/model/Notice$State;" (.ref w_MISSING)) (E_MISSING : Exa Z h0 w_MISSING "com/example/tidingsd/tidingsd/model/Notice$State") (F_ordinal_MISSING : Fld Z h0 w_MISSING "java/lang/Enum" "ordinal" "I" (.int (6 : Int32))) (S_FOUND : Sta Z h0 "com/example/tidingsd/tidingsd/model/Notice$State" "FOUND" "Lcom/example/tidingsd/tidingsd/model/Notice$State;" (.ref w_FOUND)) (E_FOUND : Exa Z h0 w_FOUND "com/example/tidingsd/tidingsd/model/Notice$State") (F_ordinal_FOUND : Fld Z h0 w_FOUND "java/lang/Enum" "ordinal" "I" (.int (5 : Int32))) (S_REFUSED : Sta Z h0 "com/example/tidingsd/tidingsd/model/Notice$State" "REFUSED" "Lcom/example/tidingsd/tidingsd/model/Notice$State;" (.ref w_REFUSED)) (E_REFUSED : Exa Z h0 w_REFUSED "com/example/tidingsd/tidingsd/model/Notice$State") (F_ordinal_REFUSED : Fld Z h0 w_REFUSED "java/lang/Enum" "ordinal" "I" (.int (8 : Int32))) (S_CANCELED_Operation : Sta Z h0 "com/example/tidingsd/tidingsd/model/Operation" "CANCELED" "Lcom/example/tidingsd/tidingsd/model/Operation;" (.ref w_CANCELED_Operation)) (E_CANCELED_Operation : Exa Z h0 w_CANCELED_Operation "com/example/tidingsd/tidingsd/model/Operation") (F_ordinal_CANCELED_Operation : Fld Z h0 w_CANCELED_Operation "java/lang/Enum" "ordinal" "I" (.int (5 : Int32))) (S_ACKNOWLEDGE : Sta Z h0 "com/example/tidingsd/tidingsd/model/Operation" "ACKNOWLEDGE" "Lcom/example/tidingsd/tidingsd/model/Operation;" (.ref w_ACKNOWLEDGE)) (E_ACKNOWLEDGE : Exa Z h0 w_ACKNOWLEDGE "com/example/tidingsd/tidingsd/model/Operation") (F_ordinal_ACKNOWLEDGE : Fld Z h0 w_ACKNOWLEDGE "java/lang/Enum" "ordinal" "I" (.int (1 : Int32))) (S_DELIVERED : Sta Z h0 "com/example/tidingsd/tidingsd/model/Notice$State" "DELIVERED" "Lcom/example/tidingsd/tidingsd/model/Notice$State;" (.ref w_DELIVERED)) (E_DELIVERED : Exa Z h0 w_DELIVERED "com/example/tidingsd/tidingsd/model/Notice$State") (F_ordinal_DELIVERED : Fld Z h0 w_DELIVERED "java/lang/Enum" "ordinal" "I" (.int (2 : Int32))) (S_DONE : Sta Z h0 "com/example/tidingsd/tidingsd/model/Notice$State" "DONE" "Lcom/example/tidingsd/tidingsd/model/Notice$State;" (.ref w_DONE)) (E_DONE : Exa Z h0 w_DONE "com/example/tidingsd/tidingsd/model/Notice$State") (F_ordinal_DONE : Fld Z h0 w_DONE "java/lang/Enum" "ordinal" "I" (.int (7 : Int32))) (S_CANCELED_Notice_State : Sta Z h0 "com/example/tidingsd/tidingsd/model/Notice$State" "CANCELED" "Lcom/example/tidingsd/tidingsd/model/Notice$State;" (.ref w_CANCELED_Notice_State)) (E_CANCELED_Notice_State : Exa Z h0 w_CANCELED_Notice_State "com/example/tidingsd/tidingsd/model/Notice$State") (F_ordinal_CANCELED_Notice_State : Fld Z h0 w_CANCELED_Notice_State "java/lang/Enum" "ordinal" "I" (.int (9 : Int32))) :
    MetFree l (⟨"com/example/tidingsd/tidingsd/model/Notice$State", "settled", "(Lcom/example/tidingsd/tidingsd/model/Operation;I)Lcom/example/tidingsd/tidingsd/model/Notice$State;"⟩ : MethodName) (head1 (Jvm.Cond.code (⟨"com/example/tidingsd/tidingsd/model/Notice$State", "settled", "(Lcom/example/tidingsd/tidingsd/model/Operation;I)Lcom/example/tidingsd/tidingsd/model/Notice$State;"⟩ : MethodName) prog_74_method_5_code 4 (some (.object "com/example/tidingsd/tidingsd/model/Notice$State")) :: ws) ({ frames := 1, cells := 0, slots := 0, locals := 13 } : Room)) (fun a U => a = #[(.ref a1), (.int ec1)] ∧ Z.Warmed39 U.vm ∧ U.heap = h0) (fun _ _ _ _ _ => True) (fun _ U o U' => ∃ v L, o = .returned v ∧ Q5 Z a1 ec1 w_HELD w_RESPONSE w_OK w_MAILBOX_MOVED w_PROBE w_CANCEL w_FAILED w_SENT w_DELIVER w_MOVED w_MISSING w_FOUND w_REFUSED w_CANCELED_Operation w_ACKNOWLEDGE w_DELIVERED w_DONE w_CANCELED_Notice_State h0 n0 v U'.heap L ∧ FrameEnd U o U' L ({ frames := 1, cells := 0, slots := 0, locals := 13 } : Room).cells ({ frames := 1, cells := 0, slots := 0, locals := 13 } : Room).slots) := by
  refine MetFree.of_bodySF (plainFor_of_name pn_Notice_State) hisR ?_
  intro p e s m args below meth c s₁ Bd hml0 hP hK
  obtain ⟨rfl, hZ, hh⟩ := hP
  have hx := Bd.exec
  have hby := Bd.bytes
  have hml : c.maxLocals = 4 := hml0
  have hown : s.vm.findClass "com/example/tidingsd/tidingsd/model/Notice$State" = some m.cls := findClass_of_methodNamed Bd.named
  have hnm := (name_of_methodNamed Bd.named Bd.method).1
  have hlk : meth.locks = false := BodyLoose.notSynchronized Bd
  have X0 : Stand p l e ({ frames := 1, cells := 0, slots := 0, locals := 13 } : Room) s m #[(.ref a1), (.int ec1)] below meth c s₁ [] 0 0 := Stand.of_body Bd
  have e0 : s₁.heap = h0 := by rw [← hh, Bd.state]; rfl
  have N0 := Fr.nil n0
  refine ogo (U' := s₁.setTop (mkF m 0 #[.val (.ref a1), .val (.int ec1), .unset, .unset] [])) (Q := Q5 Z a1 ec1 w_HELD w_RESPONSE w_OK w_MAILBOX_MOVED w_PROBE w_CANCEL w_FAILED w_SENT w_DELIVER w_MOVED w_MISSING w_FOUND w_REFUSED w_CANCELED_Operation w_ACKNOWLEDGE w_DELIVERED w_DONE w_CANCELED_Notice_State h0 n0) (K := ({ frames := 1, cells := 0, slots := 0, locals := 13 } : Room).cells) (N := ({ frames := 1, cells := 0, slots := 0, locals := 13 } : Room).slots) (fun t k => castTop (ef_5 m a1 ec1) k) ?_
  show OwnEnds _ _ _ _ _ _ _ (s₁.setTop (mkF m 0 #[.val (.ref a1), .val (.int ec1), .unset, .unset] []))
  refine ogo (fun t k => XS.iloadN X0.here hx rfl (hb hby d5_0) rfl k) ?_
  show OwnEnds _ _ _ _ _ _ _ (s₁.setTop (mkF m 1 #[.val (.ref a1), .val (.int ec1), .unset, .unset] [(.int ec1)]))
  obtain ⟨T1, X1, e1, st1⟩ := getS2 X0 hx hZ hown (host := "") (Or.inl (hw _ (List.mem_of_getElem? (i := 23) rfl))) Via.refl e0 S_OK (g := (mkF m 1 #[.val (.ref a1), .val (.int ec1), .unset, .unset] [(.int ec1)])) rfl (hb hby d5_1)
  refine ogo st1 ?_
  show OwnEnds _ _ _ _ _ _ _ (T1.setTop (mkF m 4 #[.val (.ref a1), .val (.int ec1), .unset, .unset] [(.ref w_OK), (.int ec1)]))
  obtain ⟨cq2, kq2, q2a, q2b, q2c⟩ := isOf hZ e1 E_OK
  obtain ⟨v2, _, ⟨T2, L2, k2, n2⟩, -, X2, ⟨Lc2, hQ2, l2, y2, z2⟩, st2⟩ := X1.virtualBack hx (y := (⟨"com/example/tidingsd/tidingsd/model/Outcome", "errorClass", "()I"⟩ : MethodName)) (z := (⟨"com/example/tidingsd/tidingsd/model/Outcome", "errorClass", "()I"⟩ : MethodName)) hown (mvT hZ (hw _ (List.mem_of_getElem? (i := 26) rfl))) (mvT hZ (hw _ (List.mem_of_getElem? (i := 27) rfl))) (notFace_of_selects (args := #[]) (mvT hZ (hw _ (List.mem_of_getElem? (i := 29) rfl)))) (mvT hZ (hw _ (List.mem_of_getElem? (i := 29) rfl))) (mvT hZ (hw _ (List.mem_of_getElem? (i := 28) rfl))) (by decide) (backOf (W := 1) (rm4 l Z a0 hw [] w_OK (0 : Int32) h0 n0 Z0 F_errorClass_OK) hZ (hw _ (List.mem_of_getElem? (i := 30) rfl)) (hw _ (List.mem_of_getElem? (i := 24) rfl)) (by decide) (by decide)) q2a q2c (g := (mkF m 4 #[.val (.ref a1), .val (.int ec1), .unset, .unset] [(.ref w_OK), (.int ec1)])) rfl (by rw [hml]; rfl) (Steps.refl _) (argsL := []) (rest := [(.int ec1)]) (lenOf pd___I rfl) rfl (by show 2 * 0 + _ ≤ _; exact Nat.le_of_eq rfl) (hb hby d5_4) (fun _ _ => ⟨rfl, e1, (by decide : 0 + 0 ≤ _), (by decide : 0 + 0 ≤ _)⟩)
  dsimp only [Pt.U, Pt.locs, Pt.cells, Pt.slots] at X2 l2 y2 z2 st2 hQ2
  subst l2 y2 z2
  obtain ⟨rfl, N2q, e2⟩ := hQ2
  have N2 := Fr.app N0 N2q
  refine ogo (fun t k => st2.trans k) ?_
  show OwnEnds _ _ _ _ _ _ _ (T2.setTop (mkF m 7 #[.val (.ref a1), .val (.int ec1), .unset, .unset] [(.int (0 : Int32)), (.int ec1)]))
  by_cases hc3 : ec1 = (0 : Int32)
  · refine ogo (fun t k => XS.icmpNo X2.here hx rfl (hb hby d5_7) rfl (teq hc3).2 k) ?_
    show OwnEnds _ _ _ _ _ _ _ (T2.setTop (mkF m 10 #[.val (.ref a1), .val (.int ec1), .unset, .unset] []))
    refine ogo (fun t k => XS.iconst X2.here hx rfl (hb hby d5_10) k) ?_
    show OwnEnds _ _ _ _ _ _ _ (T2.setTop (mkF m 11 #[.val (.ref a1), .val (.int ec1), .unset, .unset] [(.int (1 : Int32))]))
    refine ogo (fun t k => XS.goto X2.here hx rfl (pc0 := 11) (pc' := 15) rfl (hb hby d5_11) (by decide) (by decide) k) ?_
    show OwnEnds _ _ _ _ _ _ _ (T2.setTop (mkF m 15 #[.val (.ref a1), .val (.int ec1), .unset, .unset] [(.int (1 : Int32))]))
    refine ogo (fun t k => XS.istoreN X2.here hx rfl (hb hby d5_15) rfl (l' := #[.val (.ref a1), .val (.int ec1), .val (.int (1 : Int32)), .unset]) rfl k) ?_
    show OwnEnds _ _ _ _ _ _ _ (T2.setTop (mkF m 16 #[.val (.ref a1), .val (.int ec1), .val (.int (1 : Int32)), .unset] []))
    refine ogo (fun t k => XS.iloadN X2.here hx rfl (hb hby d5_16) rfl k) ?_
    show OwnEnds _ _ _ _ _ _ _ (T2.setTop (mkF m 17 #[.val (.ref a1), .val (.int ec1), .val (.int (1 : Int32)), .unset] [(.int ec1)]))
    obtain ⟨T4, X4, e4, st4⟩ := getS2 X2 hx hZ hown (host := "") (Or.inl (hw _ (List.mem_of_getElem? (i := 33) rfl))) Via.refl e2 S_MAILBOX_MOVED (g := (mkF m 17 #[.val (.ref a1), .val (.int ec1), .val (.int (1 : Int32)), .unset] [(.int ec1)])) rfl (hb hby d5_17)
    refine ogo st4 ?_
    show OwnEnds _ _ _ _ _ _ _ (T4.setTop (mkF m 20 #[.val (.ref a1), .val (.int ec1), .val (.int (1 : Int32)), .unset] [(.ref w_MAILBOX_MOVED), (.int ec1)]))
    obtain ⟨cq5, kq5, q5a, q5b, q5c⟩ := isOf hZ e4 E_MAILBOX_MOVED
    obtain ⟨v5, _, ⟨T5, L5, k5, n5⟩, -, X5, ⟨Lc5, hQ5, l5, y5, z5⟩, st5⟩ := X4.virtualBack hx (y := (⟨"com/example/tidingsd/tidingsd/model/Outcome", "errorClass", "()I"⟩ : MethodName)) (z := (⟨"com/example/tidingsd/tidingsd/model/Outcome", "errorClass", "()I"⟩ : MethodName)) hown (mvT hZ (hw _ (List.mem_of_getElem? (i := 26) rfl))) (mvT hZ (hw _ (List.mem_of_getElem? (i := 27) rfl))) (notFace_of_selects (args := #[]) (mvT hZ (hw _ (List.mem_of_getElem? (i := 29) rfl)))) (mvT hZ (hw _ (List.mem_of_getElem? (i := 29) rfl))) (mvT hZ (hw _ (List.mem_of_getElem? (i := 28) rfl))) (by decide) (backOf (W := 1) (rm4 l Z a0 hw [] w_MAILBOX_MOVED (1 : Int32) h0 n0 Z0 F_errorClass_MAILBOX_MOVED) hZ (hw _ (List.mem_of_getElem? (i := 30) rfl)) (hw _ (List.mem_of_getElem? (i := 24) rfl)) (by decide) (by decide)) q5a q5c (g := (mkF m 20 #[.val (.ref a1), .val (.int ec1), .val (.int (1 : Int32)), .unset] [(.ref w_MAILBOX_MOVED), (.int ec1)])) rfl (by rw [hml]; rfl) (Steps.refl _) (argsL := []) (rest := [(.int ec1)]) (lenOf pd___I rfl) rfl (by show 2 * 0 + _ ≤ _; exact Nat.le_of_eq rfl) (hb hby d5_20) (fun _ _ => ⟨rfl, e4, (by decide : 0 + 0 ≤ _), (by decide : 0 + 0 ≤ _)⟩)
    dsimp only [Pt.U, Pt.locs, Pt.cells, Pt.slots] at X5 l5 y5 z5 st5 hQ5
    subst l5 y5 z5
    obtain ⟨rfl, N5q, e5⟩ := hQ5
    have N5 := Fr.app N2 N5q
    refine ogo (fun t k => st5.trans k) ?_
    show OwnEnds _ _ _ _ _ _ _ (T5.setTop (mkF m 23 #[.val (.ref a1), .val (.int ec1), .val (.int (1 : Int32)), .unset] [(.int (1 : Int32)), (.int ec1)]))
    by_cases hc6 : ec1 = (1 : Int32)
    · refine ogo (fun t k => XS.icmpNo X5.here hx rfl (hb hby d5_23) rfl (teq hc6).2 k) ?_
      show OwnEnds _ _ _ _ _ _ _ (T5.setTop (mkF m 26 #[.val (.ref a1), .val (.int ec1), .val (.int (1 : Int32)), .unset] []))
      refine ogo (fun t k => XS.iconst X5.here hx rfl (hb hby d5_26) k) ?_
      show OwnEnds _ _ _ _ _ _ _ (T5.setTop (mkF m 27 #[.val (.ref a1), .val (.int ec1), .val (.int (1 : Int32)), .unset] [(.int (1 : Int32))]))
      refine ogo (fun t k => XS.goto X5.here hx rfl (pc0 := 27) (pc' := 31) rfl (hb hby d5_27) (by decide) (by decide) k) ?_
      show OwnEnds _ _ _ _ _ _ _ (T5.setTop (mkF m 31 #[.val (.ref a1), .val (.int ec1), .val (.int (1 : Int32)), .unset] [(.int (1 : Int32))]))
      refine ogo (fun t k => XS.istoreN X5.here hx rfl (hb hby d5_31) rfl (l' := #[.val (.ref a1), .val (.int ec1), .val (.int (1 : Int32)), .val (.int (1 : Int32))]) rfl k) ?_
      show OwnEnds _ _ _ _ _ _ _ (T5.setTop (mkF m 32 #[.val (.ref a1), .val (.int ec1), .val (.int (1 : Int32)), .val (.int (1 : Int32))] []))
      refine ogo (fun t k => XS.iloadN X5.here hx rfl (hb hby d5_32) rfl k) ?_
      show OwnEnds _ _ _ _ _ _ _ (T5.setTop (mkF m 33 #[.val (.ref a1), .val (.int ec1), .val (.int (1 : Int32)), .val (.int (1 : Int32))] [(.int (1 : Int32))]))
      refine ogo (fun t k => XS.ifNo X5.here hx rfl (hb hby d5_33) rfl ((if0 _ _).trans (feq (by decide : ¬ ((1 : Int32) = (0 : Int32)))).1) k) ?_
      show OwnEnds _ _ _ _ _ _ _ (T5.setTop (mkF m 36 #[.val (.ref a1), .val (.int ec1), .val (.int (1 : Int32)), .val (.int (1 : Int32))] []))
      refine ogo (fun t k => XS.aloadN X5.here hx rfl (hb hby d5_36) rfl rfl k) ?_
      show OwnEnds _ _ _ _ _ _ _ (T5.setTop (mkF m 37 #[.val (.ref a1), .val (.int ec1), .val (.int (1 : Int32)), .val (.int (1 : Int32))] [(.ref a1)]))
      obtain ⟨T7, X7, e7, st7⟩ := getS2 X5 hx hZ hown (host := "") (Or.inl (hw _ (List.mem_of_getElem? (i := 70) rfl))) Via.refl e5 S_DELIVER (g := (mkF m 37 #[.val (.ref a1), .val (.int ec1), .val (.int (1 : Int32)), .val (.int (1 : Int32))] [(.ref a1)])) rfl (hb hby d5_37)
      refine ogo st7 ?_
      show OwnEnds _ _ _ _ _ _ _ (T7.setTop (mkF m 40 #[.val (.ref a1), .val (.int ec1), .val (.int (1 : Int32)), .val (.int (1 : Int32))] [(.ref w_DELIVER), (.ref a1)]))
      by_cases hc8 : a1 = w_DELIVER
      · refine ogo (fun t k => Jvm.RoadKit.acmp (g := (mkF m 40 #[.val (.ref a1), .val (.int ec1), .val (.int (1 : Int32)), .val (.int (1 : Int32))] [(.ref w_DELIVER), (.ref a1)])) X7 hx rfl rfl rfl (pc0 := 40) (pc' := 50) (same := true) rfl (hb hby d5_40) rfl (decide_eq_true (congrArg Value.ref hc8)) (by decide) (by decide) k) ?_
        show OwnEnds _ _ _ _ _ _ _ (T7.setTop (mkF m 50 #[.val (.ref a1), .val (.int ec1), .val (.int (1 : Int32)), .val (.int (1 : Int32))] []))
        obtain ⟨T9, X9, e9, st9⟩ := getS2 X7 hx hZ hown (host := "") (Or.inl (hw _ (List.mem_of_getElem? (i := 71) rfl))) Via.refl e7 S_MOVED (g := (mkF m 50 #[.val (.ref a1), .val (.int ec1), .val (.int (1 : Int32)), .val (.int (1 : Int32))] [])) rfl (hb hby d5_50)
        refine ogo st9 ?_
        show OwnEnds _ _ _ _ _ _ _ (T9.setTop (mkF m 53 #[.val (.ref a1), .val (.int ec1), .val (.int (1 : Int32)), .val (.int (1 : Int32))] [(.ref w_MOVED)]))
        refine endA X9 hx hlk Bd.returns rfl rfl (hb hby d5_53) (by decide) (by decide) ?_
        show Q5 Z a1 ec1 w_HELD w_RESPONSE w_OK w_MAILBOX_MOVED w_PROBE w_CANCEL w_FAILED w_SENT w_DELIVER w_MOVED w_MISSING w_FOUND w_REFUSED w_CANCELED_Operation w_ACKNOWLEDGE w_DELIVERED w_DONE w_CANCELED_Notice_State h0 n0 _ T9.heap _
        rw [e9]
        exact ⟨w_MOVED, rfl, E_MOVED, (Fld.ne F_ordinal_MOVED F_ordinal_HELD (by simp)), (Fld.ne F_ordinal_MOVED F_ordinal_SENT (by simp)), N5, rfl⟩
      · refine ogo (fun t k => Jvm.RoadKit.acmp (g := (mkF m 40 #[.val (.ref a1), .val (.int ec1), .val (.int (1 : Int32)), .val (.int (1 : Int32))] [(.ref w_DELIVER), (.ref a1)])) X7 hx rfl rfl rfl (pc0 := 40) (pc' := 43) (same := false) rfl (hb hby d5_40) rfl (decide_eq_false fun q => hc8 (Value.ref.inj q)) (by decide) (by decide) k) ?_
        show OwnEnds _ _ _ _ _ _ _ (T7.setTop (mkF m 43 #[.val (.ref a1), .val (.int ec1), .val (.int (1 : Int32)), .val (.int (1 : Int32))] []))
        refine ogo (fun t k => XS.aloadN X7.here hx rfl (hb hby d5_43) rfl rfl k) ?_
        show OwnEnds _ _ _ _ _ _ _ (T7.setTop (mkF m 44 #[.val (.ref a1), .val (.int ec1), .val (.int (1 : Int32)), .val (.int (1 : Int32))] [(.ref a1)]))
        obtain ⟨T10, X10, e10, st10⟩ := getS2 X7 hx hZ hown (host := "") (Or.inl (hw _ (List.mem_of_getElem? (i := 35) rfl))) Via.refl e7 S_PROBE (g := (mkF m 44 #[.val (.ref a1), .val (.int ec1), .val (.int (1 : Int32)), .val (.int (1 : Int32))] [(.ref a1)])) rfl (hb hby d5_44)
        refine ogo st10 ?_
        show OwnEnds _ _ _ _ _ _ _ (T10.setTop (mkF m 47 #[.val (.ref a1), .val (.int ec1), .val (.int (1 : Int32)), .val (.int (1 : Int32))] [(.ref w_PROBE), (.ref a1)]))
        by_cases hc11 : a1 = w_PROBE
        · refine ogo (fun t k => Jvm.RoadKit.acmp (g := (mkF m 47 #[.val (.ref a1), .val (.int ec1), .val (.int (1 : Int32)), .val (.int (1 : Int32))] [(.ref w_PROBE), (.ref a1)])) X10 hx rfl rfl rfl (pc0 := 47) (pc' := 50) (same := true) rfl (hb hby d5_47) rfl (decide_eq_true (congrArg Value.ref hc11)) (by decide) (by decide) k) ?_
          show OwnEnds _ _ _ _ _ _ _ (T10.setTop (mkF m 50 #[.val (.ref a1), .val (.int ec1), .val (.int (1 : Int32)), .val (.int (1 : Int32))] []))
          obtain ⟨T12, X12, e12, st12⟩ := getS2 X10 hx hZ hown (host := "") (Or.inl (hw _ (List.mem_of_getElem? (i := 71) rfl))) Via.refl e10 S_MOVED (g := (mkF m 50 #[.val (.ref a1), .val (.int ec1), .val (.int (1 : Int32)), .val (.int (1 : Int32))] [])) rfl (hb hby d5_50)
          refine ogo st12 ?_
          show OwnEnds _ _ _ _ _ _ _ (T12.setTop (mkF m 53 #[.val (.ref a1), .val (.int ec1), .val (.int (1 : Int32)), .val (.int (1 : Int32))] [(.ref w_MOVED)]))
          refine endA X12 hx hlk Bd.returns rfl rfl (hb hby d5_53) (by decide) (by decide) ?_
          show Q5 Z a1 ec1 w_HELD w_RESPONSE w_OK w_MAILBOX_MOVED w_PROBE w_CANCEL w_FAILED w_SENT w_DELIVER w_MOVED w_MISSING w_FOUND w_REFUSED w_CANCELED_Operation w_ACKNOWLEDGE w_DELIVERED w_DONE w_CANCELED_Notice_State h0 n0 _ T12.heap _
          rw [e12]
          exact ⟨w_MOVED, rfl, E_MOVED, (Fld.ne F_ordinal_MOVED F_ordinal_HELD (by simp)), (Fld.ne F_ordinal_MOVED F_ordinal_SENT (by simp)), N5, rfl⟩
        · refine ogo (fun t k => Jvm.RoadKit.acmp (g := (mkF m 47 #[.val (.ref a1), .val (.int ec1), .val (.int (1 : Int32)), .val (.int (1 : Int32))] [(.ref w_PROBE), (.ref a1)])) X10 hx rfl rfl rfl (pc0 := 47) (pc' := 54) (same := false) rfl (hb hby d5_47) rfl (decide_eq_false fun q => hc11 (Value.ref.inj q)) (by decide) (by decide) k) ?_
          show OwnEnds _ _ _ _ _ _ _ (T10.setTop (mkF m 54 #[.val (.ref a1), .val (.int ec1), .val (.int (1 : Int32)), .val (.int (1 : Int32))] []))
          refine ogo (fun t k => XS.aloadN X10.here hx rfl (hb hby d5_54) rfl rfl k) ?_
          show OwnEnds _ _ _ _ _ _ _ (T10.setTop (mkF m 55 #[.val (.ref a1), .val (.int ec1), .val (.int (1 : Int32)), .val (.int (1 : Int32))] [(.ref a1)]))
          obtain ⟨T13, X13, e13, st13⟩ := getS2 X10 hx hZ hown (host := "") (Or.inl (hw _ (List.mem_of_getElem? (i := 35) rfl))) Via.refl e10 S_PROBE (g := (mkF m 55 #[.val (.ref a1), .val (.int ec1), .val (.int (1 : Int32)), .val (.int (1 : Int32))] [(.ref a1)])) rfl (hb hby d5_55)
          refine ogo st13 ?_
          show OwnEnds _ _ _ _ _ _ _ (T13.setTop (mkF m 58 #[.val (.ref a1), .val (.int ec1), .val (.int (1 : Int32)), .val (.int (1 : Int32))] [(.ref w_PROBE), (.ref a1)]))
          refine ogo (fun t k => Jvm.RoadKit.acmp (g := (mkF m 58 #[.val (.ref a1), .val (.int ec1), .val (.int (1 : Int32)), .val (.int (1 : Int32))] [(.ref w_PROBE), (.ref a1)])) X13 hx rfl rfl rfl (pc0 := 58) (pc' := 75) (same := false) rfl (hb hby d5_58) rfl (decide_eq_false fun q => hc11 (Value.ref.inj q)) (by decide) (by decide) k) ?_
          show OwnEnds _ _ _ _ _ _ _ (T13.setTop (mkF m 75 #[.val (.ref a1), .val (.int ec1), .val (.int (1 : Int32)), .val (.int (1 : Int32))] []))
          refine ogo (fun t k => XS.aloadN X13.here hx rfl (hb hby d5_75) rfl rfl k) ?_
          show OwnEnds _ _ _ _ _ _ _ (T13.setTop (mkF m 76 #[.val (.ref a1), .val (.int ec1), .val (.int (1 : Int32)), .val (.int (1 : Int32))] [(.ref a1)]))
          obtain ⟨T14, X14, e14, st14⟩ := getS2 X13 hx hZ hown (host := "") (Or.inl (hw _ (List.mem_of_getElem? (i := 37) rfl))) Via.refl e13 S_CANCEL (g := (mkF m 76 #[.val (.ref a1), .val (.int ec1), .val (.int (1 : Int32)), .val (.int (1 : Int32))] [(.ref a1)])) rfl (hb hby d5_76)
          refine ogo st14 ?_
          show OwnEnds _ _ _ _ _ _ _ (T14.setTop (mkF m 79 #[.val (.ref a1), .val (.int ec1), .val (.int (1 : Int32)), .val (.int (1 : Int32))] [(.ref w_CANCEL), (.ref a1)]))
          by_cases hc15 : a1 = w_CANCEL
          · refine ogo (fun t k => Jvm.RoadKit.acmp (g := (mkF m 79 #[.val (.ref a1), .val (.int ec1), .val (.int (1 : Int32)), .val (.int (1 : Int32))] [(.ref w_CANCEL), (.ref a1)])) X14 hx rfl rfl rfl (pc0 := 79) (pc' := 82) (same := true) rfl (hb hby d5_79) rfl (decide_eq_true (congrArg Value.ref hc15)) (by decide) (by decide) k) ?_
            show OwnEnds _ _ _ _ _ _ _ (T14.setTop (mkF m 82 #[.val (.ref a1), .val (.int ec1), .val (.int (1 : Int32)), .val (.int (1 : Int32))] []))
            refine ogo (fun t k => XS.iloadN X14.here hx rfl (hb hby d5_82) rfl k) ?_
            show OwnEnds _ _ _ _ _ _ _ (T14.setTop (mkF m 83 #[.val (.ref a1), .val (.int ec1), .val (.int (1 : Int32)), .val (.int (1 : Int32))] [(.int (1 : Int32))]))
            refine ogo (fun t k => XS.ifNo X14.here hx rfl (hb hby d5_83) rfl ((if0 _ _).trans (feq (by decide : ¬ ((1 : Int32) = (0 : Int32)))).1) k) ?_
            show OwnEnds _ _ _ _ _ _ _ (T14.setTop (mkF m 86 #[.val (.ref a1), .val (.int ec1), .val (.int (1 : Int32)), .val (.int (1 : Int32))] []))
            obtain ⟨T16, X16, e16, st16⟩ := getS2 X14 hx hZ hown (host := "") (Or.inl (hw _ (List.mem_of_getElem? (i := 73) rfl))) Via.refl e14 S_DONE (g := (mkF m 86 #[.val (.ref a1), .val (.int ec1), .val (.int (1 : Int32)), .val (.int (1 : Int32))] [])) rfl (hb hby d5_86)
            refine ogo st16 ?_
            show OwnEnds _ _ _ _ _ _ _ (T16.setTop (mkF m 89 #[.val (.ref a1), .val (.int ec1), .val (.int (1 : Int32)), .val (.int (1 : Int32))] [(.ref w_DONE)]))
            refine ogo (fun t k => XS.goto X16.here hx rfl (pc0 := 89) (pc' := 95) rfl (hb hby d5_89) (by decide) (by decide) k) ?_
            show OwnEnds _ _ _ _ _ _ _ (T16.setTop (mkF m 95 #[.val (.ref a1), .val (.int ec1), .val (.int (1 : Int32)), .val (.int (1 : Int32))] [(.ref w_DONE)]))
            refine endA X16 hx hlk Bd.returns rfl rfl (hb hby d5_95) (by decide) (by decide) ?_
            show Q5 Z a1 ec1 w_HELD w_RESPONSE w_OK w_MAILBOX_MOVED w_PROBE w_CANCEL w_FAILED w_SENT w_DELIVER w_MOVED w_MISSING w_FOUND w_REFUSED w_CANCELED_Operation w_ACKNOWLEDGE w_DELIVERED w_DONE w_CANCELED_Notice_State h0 n0 _ T16.heap _
            rw [e16]
            exact ⟨w_DONE, rfl, E_DONE, (Fld.ne F_ordinal_DONE F_ordinal_HELD (by simp)), (Fld.ne F_ordinal_DONE F_ordinal_SENT (by simp)), N5, rfl⟩
          · refine ogo (fun t k => Jvm.RoadKit.acmp (g := (mkF m 79 #[.val (.ref a1), .val (.int ec1), .val (.int (1 : Int32)), .val (.int (1 : Int32))] [(.ref w_CANCEL), (.ref a1)])) X14 hx rfl rfl rfl (pc0 := 79) (pc' := 96) (same := false) rfl (hb hby d5_79) rfl (decide_eq_false fun q => hc15 (Value.ref.inj q)) (by decide) (by decide) k) ?_
            show OwnEnds _ _ _ _ _ _ _ (T14.setTop (mkF m 96 #[.val (.ref a1), .val (.int ec1), .val (.int (1 : Int32)), .val (.int (1 : Int32))] []))
            refine ogo (fun t k => XS.iloadN X14.here hx rfl (hb hby d5_96) rfl k) ?_
            show OwnEnds _ _ _ _ _ _ _ (T14.setTop (mkF m 97 #[.val (.ref a1), .val (.int ec1), .val (.int (1 : Int32)), .val (.int (1 : Int32))] [(.int (1 : Int32))]))
            refine ogo (fun t k => XS.ifNo X14.here hx rfl (hb hby d5_97) rfl ((if0 _ _).trans (feq (by decide : ¬ ((1 : Int32) = (0 : Int32)))).1) k) ?_
            show OwnEnds _ _ _ _ _ _ _ (T14.setTop (mkF m 100 #[.val (.ref a1), .val (.int ec1), .val (.int (1 : Int32)), .val (.int (1 : Int32))] []))
            obtain ⟨T17, X17, e17, st17⟩ := getS2 X14 hx hZ hown (host := "") (Or.inl (hw _ (List.mem_of_getElem? (i := 62) rfl))) Via.refl e14 S_DELIVERED (g := (mkF m 100 #[.val (.ref a1), .val (.int ec1), .val (.int (1 : Int32)), .val (.int (1 : Int32))] [])) rfl (hb hby d5_100)
            refine ogo st17 ?_
            show OwnEnds _ _ _ _ _ _ _ (T17.setTop (mkF m 103 #[.val (.ref a1), .val (.int ec1), .val (.int (1 : Int32)), .val (.int (1 : Int32))] [(.ref w_DELIVERED)]))
            refine ogo (fun t k => XS.goto X17.here hx rfl (pc0 := 103) (pc' := 109) rfl (hb hby d5_103) (by decide) (by decide) k) ?_
            show OwnEnds _ _ _ _ _ _ _ (T17.setTop (mkF m 109 #[.val (.ref a1), .val (.int ec1), .val (.int (1 : Int32)), .val (.int (1 : Int32))] [(.ref w_DELIVERED)]))
            refine endA X17 hx hlk Bd.returns rfl rfl (hb hby d5_109) (by decide) (by decide) ?_
            show Q5 Z a1 ec1 w_HELD w_RESPONSE w_OK w_MAILBOX_MOVED w_PROBE w_CANCEL w_FAILED w_SENT w_DELIVER w_MOVED w_MISSING w_FOUND w_REFUSED w_CANCELED_Operation w_ACKNOWLEDGE w_DELIVERED w_DONE w_CANCELED_Notice_State h0 n0 _ T17.heap _
            rw [e17]
            exact ⟨w_DELIVERED, rfl, E_DELIVERED, (Fld.ne F_ordinal_DELIVERED F_ordinal_HELD (by simp)), (Fld.ne F_ordinal_DELIVERED F_ordinal_SENT (by simp)), N5, rfl⟩
    · refine ogo (fun t k => XS.icmpYes X5.here hx rfl (pc0 := 23) (pc' := 30) rfl (hb hby d5_23) rfl (feq hc6).2 (by decide) (by decide) k) ?_
      show OwnEnds _ _ _ _ _ _ _ (T5.setTop (mkF m 30 #[.val (.ref a1), .val (.int ec1), .val (.int (1 : Int32)), .unset] []))
      refine ogo (fun t k => XS.iconst X5.here hx rfl (hb hby d5_30) k) ?_
      show OwnEnds _ _ _ _ _ _ _ (T5.setTop (mkF m 31 #[.val (.ref a1), .val (.int ec1), .val (.int (1 : Int32)), .unset] [(.int (0 : Int32))]))
      refine ogo (fun t k => XS.istoreN X5.here hx rfl (hb hby d5_31) rfl (l' := #[.val (.ref a1), .val (.int ec1), .val (.int (1 : Int32)), .val (.int (0 : Int32))]) rfl k) ?_
      show OwnEnds _ _ _ _ _ _ _ (T5.setTop (mkF m 32 #[.val (.ref a1), .val (.int ec1), .val (.int (1 : Int32)), .val (.int (0 : Int32))] []))
      refine ogo (fun t k => XS.iloadN X5.here hx rfl (hb hby d5_32) rfl k) ?_
      show OwnEnds _ _ _ _ _ _ _ (T5.setTop (mkF m 33 #[.val (.ref a1), .val (.int ec1), .val (.int (1 : Int32)), .val (.int (0 : Int32))] [(.int (0 : Int32))]))
      refine ogo (fun t k => XS.ifYes X5.here hx rfl (pc0 := 33) (pc' := 54) rfl (hb hby d5_33) rfl ((if0 _ _).trans (teq (by decide : (0 : Int32) = (0 : Int32))).1) (by decide) (by decide) k) ?_
      show OwnEnds _ _ _ _ _ _ _ (T5.setTop (mkF m 54 #[.val (.ref a1), .val (.int ec1), .val (.int (1 : Int32)), .val (.int (0 : Int32))] []))
      refine ogo (fun t k => XS.aloadN X5.here hx rfl (hb hby d5_54) rfl rfl k) ?_
      show OwnEnds _ _ _ _ _ _ _ (T5.setTop (mkF m 55 #[.val (.ref a1), .val (.int ec1), .val (.int (1 : Int32)), .val (.int (0 : Int32))] [(.ref a1)]))
      obtain ⟨T18, X18, e18, st18⟩ := getS2 X5 hx hZ hown (host := "") (Or.inl (hw _ (List.mem_of_getElem? (i := 35) rfl))) Via.refl e5 S_PROBE (g := (mkF m 55 #[.val (.ref a1), .val (.int ec1), .val (.int (1 : Int32)), .val (.int (0 : Int32))] [(.ref a1)])) rfl (hb hby d5_55)
      refine ogo st18 ?_
      show OwnEnds _ _ _ _ _ _ _ (T18.setTop (mkF m 58 #[.val (.ref a1), .val (.int ec1), .val (.int (1 : Int32)), .val (.int (0 : Int32))] [(.ref w_PROBE), (.ref a1)]))
      by_cases hc19 : a1 = w_PROBE
      · refine ogo (fun t k => Jvm.RoadKit.acmp (g := (mkF m 58 #[.val (.ref a1), .val (.int ec1), .val (.int (1 : Int32)), .val (.int (0 : Int32))] [(.ref w_PROBE), (.ref a1)])) X18 hx rfl rfl rfl (pc0 := 58) (pc' := 61) (same := true) rfl (hb hby d5_58) rfl (decide_eq_true (congrArg Value.ref hc19)) (by decide) (by decide) k) ?_
        show OwnEnds _ _ _ _ _ _ _ (T18.setTop (mkF m 61 #[.val (.ref a1), .val (.int ec1), .val (.int (1 : Int32)), .val (.int (0 : Int32))] []))
        refine ogo (fun t k => XS.iloadN X18.here hx rfl (hb hby d5_61) rfl k) ?_
        show OwnEnds _ _ _ _ _ _ _ (T18.setTop (mkF m 62 #[.val (.ref a1), .val (.int ec1), .val (.int (1 : Int32)), .val (.int (0 : Int32))] [(.int (1 : Int32))]))
        refine ogo (fun t k => XS.ifNo X18.here hx rfl (hb hby d5_62) rfl ((if0 _ _).trans (feq (by decide : ¬ ((1 : Int32) = (0 : Int32)))).1) k) ?_
        show OwnEnds _ _ _ _ _ _ _ (T18.setTop (mkF m 65 #[.val (.ref a1), .val (.int ec1), .val (.int (1 : Int32)), .val (.int (0 : Int32))] []))
        obtain ⟨T20, X20, e20, st20⟩ := getS2 X18 hx hZ hown (host := "") (Or.inl (hw _ (List.mem_of_getElem? (i := 72) rfl))) Via.refl e18 S_FOUND (g := (mkF m 65 #[.val (.ref a1), .val (.int ec1), .val (.int (1 : Int32)), .val (.int (0 : Int32))] [])) rfl (hb hby d5_65)
        refine ogo st20 ?_
        show OwnEnds _ _ _ _ _ _ _ (T20.setTop (mkF m 68 #[.val (.ref a1), .val (.int ec1), .val (.int (1 : Int32)), .val (.int (0 : Int32))] [(.ref w_FOUND)]))
        refine ogo (fun t k => XS.goto X20.here hx rfl (pc0 := 68) (pc' := 74) rfl (hb hby d5_68) (by decide) (by decide) k) ?_
        show OwnEnds _ _ _ _ _ _ _ (T20.setTop (mkF m 74 #[.val (.ref a1), .val (.int ec1), .val (.int (1 : Int32)), .val (.int (0 : Int32))] [(.ref w_FOUND)]))
        refine endA X20 hx hlk Bd.returns rfl rfl (hb hby d5_74) (by decide) (by decide) ?_
        show Q5 Z a1 ec1 w_HELD w_RESPONSE w_OK w_MAILBOX_MOVED w_PROBE w_CANCEL w_FAILED w_SENT w_DELIVER w_MOVED w_MISSING w_FOUND w_REFUSED w_CANCELED_Operation w_ACKNOWLEDGE w_DELIVERED w_DONE w_CANCELED_Notice_State h0 n0 _ T20.heap _
        rw [e20]
        exact ⟨w_FOUND, rfl, E_FOUND, (Fld.ne F_ordinal_FOUND F_ordinal_HELD (by simp)), (Fld.ne F_ordinal_FOUND F_ordinal_SENT (by simp)), N5, rfl⟩
      · refine ogo (fun t k => Jvm.RoadKit.acmp (g := (mkF m 58 #[.val (.ref a1), .val (.int ec1), .val (.int (1 : Int32)), .val (.int (0 : Int32))] [(.ref w_PROBE), (.ref a1)])) X18 hx rfl rfl rfl (pc0 := 58) (pc' := 75) (same := false) rfl (hb hby d5_58) rfl (decide_eq_false fun q => hc19 (Value.ref.inj q)) (by decide) (by decide) k) ?_
        show OwnEnds _ _ _ _ _ _ _ (T18.setTop (mkF m 75 #[.val (.ref a1), .val (.int ec1), .val (.int (1 : Int32)), .val (.int (0 : Int32))] []))
        refine ogo (fun t k => XS.aloadN X18.here hx rfl (hb hby d5_75) rfl rfl k) ?_
        show OwnEnds _ _ _ _ _ _ _ (T18.setTop (mkF m 76 #[.val (.ref a1), .val (.int ec1), .val (.int (1 : Int32)), .val (.int (0 : Int32))] [(.ref a1)]))
        obtain ⟨T21, X21, e21, st21⟩ := getS2 X18 hx hZ hown (host := "") (Or.inl (hw _ (List.mem_of_getElem? (i := 37) rfl))) Via.refl e18 S_CANCEL (g := (mkF m 76 #[.val (.ref a1), .val (.int ec1), .val (.int (1 : Int32)), .val (.int (0 : Int32))] [(.ref a1)])) rfl (hb hby d5_76)
        refine ogo st21 ?_
        show OwnEnds _ _ _ _ _ _ _ (T21.setTop (mkF m 79 #[.val (.ref a1), .val (.int ec1), .val (.int (1 : Int32)), .val (.int (0 : Int32))] [(.ref w_CANCEL), (.ref a1)]))
        by_cases hc22 : a1 = w_CANCEL
        · refine ogo (fun t k => Jvm.RoadKit.acmp (g := (mkF m 79 #[.val (.ref a1), .val (.int ec1), .val (.int (1 : Int32)), .val (.int (0 : Int32))] [(.ref w_CANCEL), (.ref a1)])) X21 hx rfl rfl rfl (pc0 := 79) (pc' := 82) (same := true) rfl (hb hby d5_79) rfl (decide_eq_true (congrArg Value.ref hc22)) (by decide) (by decide) k) ?_
          show OwnEnds _ _ _ _ _ _ _ (T21.setTop (mkF m 82 #[.val (.ref a1), .val (.int ec1), .val (.int (1 : Int32)), .val (.int (0 : Int32))] []))
          refine ogo (fun t k => XS.iloadN X21.here hx rfl (hb hby d5_82) rfl k) ?_
          show OwnEnds _ _ _ _ _ _ _ (T21.setTop (mkF m 83 #[.val (.ref a1), .val (.int ec1), .val (.int (1 : Int32)), .val (.int (0 : Int32))] [(.int (1 : Int32))]))
          refine ogo (fun t k => XS.ifNo X21.here hx rfl (hb hby d5_83) rfl ((if0 _ _).trans (feq (by decide : ¬ ((1 : Int32) = (0 : Int32)))).1) k) ?_
          show OwnEnds _ _ _ _ _ _ _ (T21.setTop (mkF m 86 #[.val (.ref a1), .val (.int ec1), .val (.int (1 : Int32)), .val (.int (0 : Int32))] []))
          obtain ⟨T23, X23, e23, st23⟩ := getS2 X21 hx hZ hown (host := "") (Or.inl (hw _ (List.mem_of_getElem? (i := 73) rfl))) Via.refl e21 S_DONE (g := (mkF m 86 #[.val (.ref a1), .val (.int ec1), .val (.int (1 : Int32)), .val (.int (0 : Int32))] [])) rfl (hb hby d5_86)
          refine ogo st23 ?_
          show OwnEnds _ _ _ _ _ _ _ (T23.setTop (mkF m 89 #[.val (.ref a1), .val (.int ec1), .val (.int (1 : Int32)), .val (.int (0 : Int32))] [(.ref w_DONE)]))
          refine ogo (fun t k => XS.goto X23.here hx rfl (pc0 := 89) (pc' := 95) rfl (hb hby d5_89) (by decide) (by decide) k) ?_
          show OwnEnds _ _ _ _ _ _ _ (T23.setTop (mkF m 95 #[.val (.ref a1), .val (.int ec1), .val (.int (1 : Int32)), .val (.int (0 : Int32))] [(.ref w_DONE)]))
          refine endA X23 hx hlk Bd.returns rfl rfl (hb hby d5_95) (by decide) (by decide) ?_
          show Q5 Z a1 ec1 w_HELD w_RESPONSE w_OK w_MAILBOX_MOVED w_PROBE w_CANCEL w_FAILED w_SENT w_DELIVER w_MOVED w_MISSING w_FOUND w_REFUSED w_CANCELED_Operation w_ACKNOWLEDGE w_DELIVERED w_DONE w_CANCELED_Notice_State h0 n0 _ T23.heap _
          rw [e23]
          exact ⟨w_DONE, rfl, E_DONE, (Fld.ne F_ordinal_DONE F_ordinal_HELD (by simp)), (Fld.ne F_ordinal_DONE F_ordinal_SENT (by simp)), N5, rfl⟩
        · refine ogo (fun t k => Jvm.RoadKit.acmp (g := (mkF m 79 #[.val (.ref a1), .val (.int ec1), .val (.int (1 : Int32)), .val (.int (0 : Int32))] [(.ref w_CANCEL), (.ref a1)])) X21 hx rfl rfl rfl (pc0 := 79) (pc' := 96) (same := false) rfl (hb hby d5_79) rfl (decide_eq_false fun q => hc22 (Value.ref.inj q)) (by decide) (by decide) k) ?_
          show OwnEnds _ _ _ _ _ _ _ (T21.setTop (mkF m 96 #[.val (.ref a1), .val (.int ec1), .val (.int (1 : Int32)), .val (.int (0 : Int32))] []))
          refine ogo (fun t k => XS.iloadN X21.here hx rfl (hb hby d5_96) rfl k) ?_
          show OwnEnds _ _ _ _ _ _ _ (T21.setTop (mkF m 97 #[.val (.ref a1), .val (.int ec1), .val (.int (1 : Int32)), .val (.int (0 : Int32))] [(.int (1 : Int32))]))
          refine ogo (fun t k => XS.ifNo X21.here hx rfl (hb hby d5_97) rfl ((if0 _ _).trans (feq (by decide : ¬ ((1 : Int32) = (0 : Int32)))).1) k) ?_
          show OwnEnds _ _ _ _ _ _ _ (T21.setTop (mkF m 100 #[.val (.ref a1), .val (.int ec1), .val (.int (1 : Int32)), .val (.int (0 : Int32))] []))
          obtain ⟨T24, X24, e24, st24⟩ := getS2 X21 hx hZ hown (host := "") (Or.inl (hw _ (List.mem_of_getElem? (i := 62) rfl))) Via.refl e21 S_DELIVERED (g := (mkF m 100 #[.val (.ref a1), .val (.int ec1), .val (.int (1 : Int32)), .val (.int (0 : Int32))] [])) rfl (hb hby d5_100)
          refine ogo st24 ?_
          show OwnEnds _ _ _ _ _ _ _ (T24.setTop (mkF m 103 #[.val (.ref a1), .val (.int ec1), .val (.int (1 : Int32)), .val (.int (0 : Int32))] [(.ref w_DELIVERED)]))
          refine ogo (fun t k => XS.goto X24.here hx rfl (pc0 := 103) (pc' := 109) rfl (hb hby d5_103) (by decide) (by decide) k) ?_
          show OwnEnds _ _ _ _ _ _ _ (T24.setTop (mkF m 109 #[.val (.ref a1), .val (.int ec1), .val (.int (1 : Int32)), .val (.int (0 : Int32))] [(.ref w_DELIVERED)]))
          refine endA X24 hx hlk Bd.returns rfl rfl (hb hby d5_109) (by decide) (by decide) ?_
          show Q5 Z a1 ec1 w_HELD w_RESPONSE w_OK w_MAILBOX_MOVED w_PROBE w_CANCEL w_FAILED w_SENT w_DELIVER w_MOVED w_MISSING w_FOUND w_REFUSED w_CANCELED_Operation w_ACKNOWLEDGE w_DELIVERED w_DONE w_CANCELED_Notice_State h0 n0 _ T24.heap _
          rw [e24]
          exact ⟨w_DELIVERED, rfl, E_DELIVERED, (Fld.ne F_ordinal_DELIVERED F_ordinal_HELD (by simp)), (Fld.ne F_ordinal_DELIVERED F_ordinal_SENT (by simp)), N5, rfl⟩
  · refine ogo (fun t k => XS.icmpYes X2.here hx rfl (pc0 := 7) (pc' := 14) rfl (hb hby d5_7) rfl (feq hc3).2 (by decide) (by decide) k) ?_
    show OwnEnds _ _ _ _ _ _ _ (T2.setTop (mkF m 14 #[.val (.ref a1), .val (.int ec1), .unset, .unset] []))
    refine ogo (fun t k => XS.iconst X2.here hx rfl (hb hby d5_14) k) ?_
    show OwnEnds _ _ _ _ _ _ _ (T2.setTop (mkF m 15 #[.val (.ref a1), .val (.int ec1), .unset, .unset] [(.int (0 : Int32))]))
    refine ogo (fun t k => XS.istoreN X2.here hx rfl (hb hby d5_15) rfl (l' := #[.val (.ref a1), .val (.int ec1), .val (.int (0 : Int32)), .unset]) rfl k) ?_
    show OwnEnds _ _ _ _ _ _ _ (T2.setTop (mkF m 16 #[.val (.ref a1), .val (.int ec1), .val (.int (0 : Int32)), .unset] []))
    refine ogo (fun t k => XS.iloadN X2.here hx rfl (hb hby d5_16) rfl k) ?_
    show OwnEnds _ _ _ _ _ _ _ (T2.setTop (mkF m 17 #[.val (.ref a1), .val (.int ec1), .val (.int (0 : Int32)), .unset] [(.int ec1)]))
    obtain ⟨T25, X25, e25, st25⟩ := getS2 X2 hx hZ hown (host := "") (Or.inl (hw _ (List.mem_of_getElem? (i := 33) rfl))) Via.refl e2 S_MAILBOX_MOVED (g := (mkF m 17 #[.val (.ref a1), .val (.int ec1), .val (.int (0 : Int32)), .unset] [(.int ec1)])) rfl (hb hby d5_17)
    refine ogo st25 ?_
    show OwnEnds _ _ _ _ _ _ _ (T25.setTop (mkF m 20 #[.val (.ref a1), .val (.int ec1), .val (.int (0 : Int32)), .unset] [(.ref w_MAILBOX_MOVED), (.int ec1)]))
    obtain ⟨cq26, kq26, q26a, q26b, q26c⟩ := isOf hZ e25 E_MAILBOX_MOVED
    obtain ⟨v26, _, ⟨T26, L26, k26, n26⟩, -, X26, ⟨Lc26, hQ26, l26, y26, z26⟩, st26⟩ := X25.virtualBack hx (y := (⟨"com/example/tidingsd/tidingsd/model/Outcome", "errorClass", "()I"⟩ : MethodName)) (z := (⟨"com/example/tidingsd/tidingsd/model/Outcome", "errorClass", "()I"⟩ : MethodName)) hown (mvT hZ (hw _ (List.mem_of_getElem? (i := 26) rfl))) (mvT hZ (hw _ (List.mem_of_getElem? (i := 27) rfl))) (notFace_of_selects (args := #[]) (mvT hZ (hw _ (List.mem_of_getElem? (i := 29) rfl)))) (mvT hZ (hw _ (List.mem_of_getElem? (i := 29) rfl))) (mvT hZ (hw _ (List.mem_of_getElem? (i := 28) rfl))) (by decide) (backOf (W := 1) (rm4 l Z a0 hw [] w_MAILBOX_MOVED (1 : Int32) h0 n0 Z0 F_errorClass_MAILBOX_MOVED) hZ (hw _ (List.mem_of_getElem? (i := 30) rfl)) (hw _ (List.mem_of_getElem? (i := 24) rfl)) (by decide) (by decide)) q26a q26c (g := (mkF m 20 #[.val (.ref a1), .val (.int ec1), .val (.int (0 : Int32)), .unset] [(.ref w_MAILBOX_MOVED), (.int ec1)])) rfl (by rw [hml]; rfl) (Steps.refl _) (argsL := []) (rest := [(.int ec1)]) (lenOf pd___I rfl) rfl (by show 2 * 0 + _ ≤ _; exact Nat.le_of_eq rfl) (hb hby d5_20) (fun _ _ => ⟨rfl, e25, (by decide : 0 + 0 ≤ _), (by decide : 0 + 0 ≤ _)⟩)
    dsimp only [Pt.U, Pt.locs, Pt.cells, Pt.slots] at X26 l26 y26 z26 st26 hQ26
    subst l26 y26 z26
    obtain ⟨rfl, N26q, e26⟩ := hQ26
    have N26 := Fr.app N2 N26q
    refine ogo (fun t k => st26.trans k) ?_
    show OwnEnds _ _ _ _ _ _ _ (T26.setTop (mkF m 23 #[.val (.ref a1), .val (.int ec1), .val (.int (0 : Int32)), .unset] [(.int (1 : Int32)), (.int ec1)]))
    by_cases hc27 : ec1 = (1 : Int32)
    · refine ogo (fun t k => XS.icmpNo X26.here hx rfl (hb hby d5_23) rfl (teq hc27).2 k) ?_
      show OwnEnds _ _ _ _ _ _ _ (T26.setTop (mkF m 26 #[.val (.ref a1), .val (.int ec1), .val (.int (0 : Int32)), .unset] []))
      refine ogo (fun t k => XS.iconst X26.here hx rfl (hb hby d5_26) k) ?_
      show OwnEnds _ _ _ _ _ _ _ (T26.setTop (mkF m 27 #[.val (.ref a1), .val (.int ec1), .val (.int (0 : Int32)), .unset] [(.int (1 : Int32))]))
      refine ogo (fun t k => XS.goto X26.here hx rfl (pc0 := 27) (pc' := 31) rfl (hb hby d5_27) (by decide) (by decide) k) ?_
      show OwnEnds _ _ _ _ _ _ _ (T26.setTop (mkF m 31 #[.val (.ref a1), .val (.int ec1), .val (.int (0 : Int32)), .unset] [(.int (1 : Int32))]))
      refine ogo (fun t k => XS.istoreN X26.here hx rfl (hb hby d5_31) rfl (l' := #[.val (.ref a1), .val (.int ec1), .val (.int (0 : Int32)), .val (.int (1 : Int32))]) rfl k) ?_
      show OwnEnds _ _ _ _ _ _ _ (T26.setTop (mkF m 32 #[.val (.ref a1), .val (.int ec1), .val (.int (0 : Int32)), .val (.int (1 : Int32))] []))
      refine ogo (fun t k => XS.iloadN X26.here hx rfl (hb hby d5_32) rfl k) ?_
      show OwnEnds _ _ _ _ _ _ _ (T26.setTop (mkF m 33 #[.val (.ref a1), .val (.int ec1), .val (.int (0 : Int32)), .val (.int (1 : Int32))] [(.int (1 : Int32))]))
      refine ogo (fun t k => XS.ifNo X26.here hx rfl (hb hby d5_33) rfl ((if0 _ _).trans (feq (by decide : ¬ ((1 : Int32) = (0 : Int32)))).1) k) ?_
      show OwnEnds _ _ _ _ _ _ _ (T26.setTop (mkF m 36 #[.val (.ref a1), .val (.int ec1), .val (.int (0 : Int32)), .val (.int (1 : Int32))] []))
      refine ogo (fun t k => XS.aloadN X26.here hx rfl (hb hby d5_36) rfl rfl k) ?_
      show OwnEnds _ _ _ _ _ _ _ (T26.setTop (mkF m 37 #[.val (.ref a1), .val (.int ec1), .val (.int (0 : Int32)), .val (.int (1 : Int32))] [(.ref a1)]))
      obtain ⟨T28, X28, e28, st28⟩ := getS2 X26 hx hZ hown (host := "") (Or.inl (hw _ (List.mem_of_getElem? (i := 70) rfl))) Via.refl e26 S_DELIVER (g := (mkF m 37 #[.val (.ref a1), .val (.int ec1), .val (.int (0 : Int32)), .val (.int (1 : Int32))] [(.ref a1)])) rfl (hb hby d5_37)
      refine ogo st28 ?_
      show OwnEnds _ _ _ _ _ _ _ (T28.setTop (mkF m 40 #[.val (.ref a1), .val (.int ec1), .val (.int (0 : Int32)), .val (.int (1 : Int32))] [(.ref w_DELIVER), (.ref a1)]))
      by_cases hc29 : a1 = w_DELIVER
      · refine ogo (fun t k => Jvm.RoadKit.acmp (g := (mkF m 40 #[.val (.ref a1), .val (.int ec1), .val (.int (0 : Int32)), .val (.int (1 : Int32))] [(.ref w_DELIVER), (.ref a1)])) X28 hx rfl rfl rfl (pc0 := 40) (pc' := 50) (same := true) rfl (hb hby d5_40) rfl (decide_eq_true (congrArg Value.ref hc29)) (by decide) (by decide) k) ?_
        show OwnEnds _ _ _ _ _ _ _ (T28.setTop (mkF m 50 #[.val (.ref a1), .val (.int ec1), .val (.int (0 : Int32)), .val (.int (1 : Int32))] []))
        obtain ⟨T30, X30, e30, st30⟩ := getS2 X28 hx hZ hown (host := "") (Or.inl (hw _ (List.mem_of_getElem? (i := 71) rfl))) Via.refl e28 S_MOVED (g := (mkF m 50 #[.val (.ref a1), .val (.int ec1), .val (.int (0 : Int32)), .val (.int (1 : Int32))] [])) rfl (hb hby d5_50)
        refine ogo st30 ?_
        show OwnEnds _ _ _ _ _ _ _ (T30.setTop (mkF m 53 #[.val (.ref a1), .val (.int ec1), .val (.int (0 : Int32)), .val (.int (1 : Int32))] [(.ref w_MOVED)]))
        refine endA X30 hx hlk Bd.returns rfl rfl (hb hby d5_53) (by decide) (by decide) ?_
        show Q5 Z a1 ec1 w_HELD w_RESPONSE w_OK w_MAILBOX_MOVED w_PROBE w_CANCEL w_FAILED w_SENT w_DELIVER w_MOVED w_MISSING w_FOUND w_REFUSED w_CANCELED_Operation w_ACKNOWLEDGE w_DELIVERED w_DONE w_CANCELED_Notice_State h0 n0 _ T30.heap _
        rw [e30]
        exact ⟨w_MOVED, rfl, E_MOVED, (Fld.ne F_ordinal_MOVED F_ordinal_HELD (by simp)), (Fld.ne F_ordinal_MOVED F_ordinal_SENT (by simp)), N26, rfl⟩
      · refine ogo (fun t k => Jvm.RoadKit.acmp (g := (mkF m 40 #[.val (.ref a1), .val (.int ec1), .val (.int (0 : Int32)), .val (.int (1 : Int32))] [(.ref w_DELIVER), (.ref a1)])) X28 hx rfl rfl rfl (pc0 := 40) (pc' := 43) (same := false) rfl (hb hby d5_40) rfl (decide_eq_false fun q => hc29 (Value.ref.inj q)) (by decide) (by decide) k) ?_
        show OwnEnds _ _ _ _ _ _ _ (T28.setTop (mkF m 43 #[.val (.ref a1), .val (.int ec1), .val (.int (0 : Int32)), .val (.int (1 : Int32))] []))
        refine ogo (fun t k => XS.aloadN X28.here hx rfl (hb hby d5_43) rfl rfl k) ?_
        show OwnEnds _ _ _ _ _ _ _ (T28.setTop (mkF m 44 #[.val (.ref a1), .val (.int ec1), .val (.int (0 : Int32)), .val (.int (1 : Int32))] [(.ref a1)]))
        obtain ⟨T31, X31, e31, st31⟩ := getS2 X28 hx hZ hown (host := "") (Or.inl (hw _ (List.mem_of_getElem? (i := 35) rfl))) Via.refl e28 S_PROBE (g := (mkF m 44 #[.val (.ref a1), .val (.int ec1), .val (.int (0 : Int32)), .val (.int (1 : Int32))] [(.ref a1)])) rfl (hb hby d5_44)
        refine ogo st31 ?_
        show OwnEnds _ _ _ _ _ _ _ (T31.setTop (mkF m 47 #[.val (.ref a1), .val (.int ec1), .val (.int (0 : Int32)), .val (.int (1 : Int32))] [(.ref w_PROBE), (.ref a1)]))
        by_cases hc32 : a1 = w_PROBE
        · refine ogo (fun t k => Jvm.RoadKit.acmp (g := (mkF m 47 #[.val (.ref a1), .val (.int ec1), .val (.int (0 : Int32)), .val (.int (1 : Int32))] [(.ref w_PROBE), (.ref a1)])) X31 hx rfl rfl rfl (pc0 := 47) (pc' := 50) (same := true) rfl (hb hby d5_47) rfl (decide_eq_true (congrArg Value.ref hc32)) (by decide) (by decide) k) ?_
          show OwnEnds _ _ _ _ _ _ _ (T31.setTop (mkF m 50 #[.val (.ref a1), .val (.int ec1), .val (.int (0 : Int32)), .val (.int (1 : Int32))] []))
          obtain ⟨T33, X33, e33, st33⟩ := getS2 X31 hx hZ hown (host := "") (Or.inl (hw _ (List.mem_of_getElem? (i := 71) rfl))) Via.refl e31 S_MOVED (g := (mkF m 50 #[.val (.ref a1), .val (.int ec1), .val (.int (0 : Int32)), .val (.int (1 : Int32))] [])) rfl (hb hby d5_50)
          refine ogo st33 ?_
          show OwnEnds _ _ _ _ _ _ _ (T33.setTop (mkF m 53 #[.val (.ref a1), .val (.int ec1), .val (.int (0 : Int32)), .val (.int (1 : Int32))] [(.ref w_MOVED)]))
          refine endA X33 hx hlk Bd.returns rfl rfl (hb hby d5_53) (by decide) (by decide) ?_
          show Q5 Z a1 ec1 w_HELD w_RESPONSE w_OK w_MAILBOX_MOVED w_PROBE w_CANCEL w_FAILED w_SENT w_DELIVER w_MOVED w_MISSING w_FOUND w_REFUSED w_CANCELED_Operation w_ACKNOWLEDGE w_DELIVERED w_DONE w_CANCELED_Notice_State h0 n0 _ T33.heap _
          rw [e33]
          exact ⟨w_MOVED, rfl, E_MOVED, (Fld.ne F_ordinal_MOVED F_ordinal_HELD (by simp)), (Fld.ne F_ordinal_MOVED F_ordinal_SENT (by simp)), N26, rfl⟩
        · refine ogo (fun t k => Jvm.RoadKit.acmp (g := (mkF m 47 #[.val (.ref a1), .val (.int ec1), .val (.int (0 : Int32)), .val (.int (1 : Int32))] [(.ref w_PROBE), (.ref a1)])) X31 hx rfl rfl rfl (pc0 := 47) (pc' := 54) (same := false) rfl (hb hby d5_47) rfl (decide_eq_false fun q => hc32 (Value.ref.inj q)) (by decide) (by decide) k) ?_
          show OwnEnds _ _ _ _ _ _ _ (T31.setTop (mkF m 54 #[.val (.ref a1), .val (.int ec1), .val (.int (0 : Int32)), .val (.int (1 : Int32))] []))
          refine ogo (fun t k => XS.aloadN X31.here hx rfl (hb hby d5_54) rfl rfl k) ?_
          show OwnEnds _ _ _ _ _ _ _ (T31.setTop (mkF m 55 #[.val (.ref a1), .val (.int ec1), .val (.int (0 : Int32)), .val (.int (1 : Int32))] [(.ref a1)]))
          obtain ⟨T34, X34, e34, st34⟩ := getS2 X31 hx hZ hown (host := "") (Or.inl (hw _ (List.mem_of_getElem? (i := 35) rfl))) Via.refl e31 S_PROBE (g := (mkF m 55 #[.val (.ref a1), .val (.int ec1), .val (.int (0 : Int32)), .val (.int (1 : Int32))] [(.ref a1)])) rfl (hb hby d5_55)
          refine ogo st34 ?_
          show OwnEnds _ _ _ _ _ _ _ (T34.setTop (mkF m 58 #[.val (.ref a1), .val (.int ec1), .val (.int (0 : Int32)), .val (.int (1 : Int32))] [(.ref w_PROBE), (.ref a1)]))
          refine ogo (fun t k => Jvm.RoadKit.acmp (g := (mkF m 58 #[.val (.ref a1), .val (.int ec1), .val (.int (0 : Int32)), .val (.int (1 : Int32))] [(.ref w_PROBE), (.ref a1)])) X34 hx rfl rfl rfl (pc0 := 58) (pc' := 75) (same := false) rfl (hb hby d5_58) rfl (decide_eq_false fun q => hc32 (Value.ref.inj q)) (by decide) (by decide) k) ?_
          show OwnEnds _ _ _ _ _ _ _ (T34.setTop (mkF m 75 #[.val (.ref a1), .val (.int ec1), .val (.int (0 : Int32)), .val (.int (1 : Int32))] []))
          refine ogo (fun t k => XS.aloadN X34.here hx rfl (hb hby d5_75) rfl rfl k) ?_
          show OwnEnds _ _ _ _ _ _ _ (T34.setTop (mkF m 76 #[.val (.ref a1), .val (.int ec1), .val (.int (0 : Int32)), .val (.int (1 : Int32))] [(.ref a1)]))
          obtain ⟨T35, X35, e35, st35⟩ := getS2 X34 hx hZ hown (host := "") (Or.inl (hw _ (List.mem_of_getElem? (i := 37) rfl))) Via.refl e34 S_CANCEL (g := (mkF m 76 #[.val (.ref a1), .val (.int ec1), .val (.int (0 : Int32)), .val (.int (1 : Int32))] [(.ref a1)])) rfl (hb hby d5_76)
          refine ogo st35 ?_
          show OwnEnds _ _ _ _ _ _ _ (T35.setTop (mkF m 79 #[.val (.ref a1), .val (.int ec1), .val (.int (0 : Int32)), .val (.int (1 : Int32))] [(.ref w_CANCEL), (.ref a1)]))
          by_cases hc36 : a1 = w_CANCEL
          · refine ogo (fun t k => Jvm.RoadKit.acmp (g := (mkF m 79 #[.val (.ref a1), .val (.int ec1), .val (.int (0 : Int32)), .val (.int (1 : Int32))] [(.ref w_CANCEL), (.ref a1)])) X35 hx rfl rfl rfl (pc0 := 79) (pc' := 82) (same := true) rfl (hb hby d5_79) rfl (decide_eq_true (congrArg Value.ref hc36)) (by decide) (by decide) k) ?_
            show OwnEnds _ _ _ _ _ _ _ (T35.setTop (mkF m 82 #[.val (.ref a1), .val (.int ec1), .val (.int (0 : Int32)), .val (.int (1 : Int32))] []))
            refine ogo (fun t k => XS.iloadN X35.here hx rfl (hb hby d5_82) rfl k) ?_
            show OwnEnds _ _ _ _ _ _ _ (T35.setTop (mkF m 83 #[.val (.ref a1), .val (.int ec1), .val (.int (0 : Int32)), .val (.int (1 : Int32))] [(.int (0 : Int32))]))
            refine ogo (fun t k => XS.ifYes X35.here hx rfl (pc0 := 83) (pc' := 92) rfl (hb hby d5_83) rfl ((if0 _ _).trans (teq (by decide : (0 : Int32) = (0 : Int32))).1) (by decide) (by decide) k) ?_
            show OwnEnds _ _ _ _ _ _ _ (T35.setTop (mkF m 92 #[.val (.ref a1), .val (.int ec1), .val (.int (0 : Int32)), .val (.int (1 : Int32))] []))
            obtain ⟨T37, X37, e37, st37⟩ := getS2 X35 hx hZ hown (host := "") (Or.inl (hw _ (List.mem_of_getElem? (i := 54) rfl))) Via.refl e35 S_REFUSED (g := (mkF m 92 #[.val (.ref a1), .val (.int ec1), .val (.int (0 : Int32)), .val (.int (1 : Int32))] [])) rfl (hb hby d5_92)
            refine ogo st37 ?_
            show OwnEnds _ _ _ _ _ _ _ (T37.setTop (mkF m 95 #[.val (.ref a1), .val (.int ec1), .val (.int (0 : Int32)), .val (.int (1 : Int32))] [(.ref w_REFUSED)]))
            refine endA X37 hx hlk Bd.returns rfl rfl (hb hby d5_95) (by decide) (by decide) ?_
            show Q5 Z a1 ec1 w_HELD w_RESPONSE w_OK w_MAILBOX_MOVED w_PROBE w_CANCEL w_FAILED w_SENT w_DELIVER w_MOVED w_MISSING w_FOUND w_REFUSED w_CANCELED_Operation w_ACKNOWLEDGE w_DELIVERED w_DONE w_CANCELED_Notice_State h0 n0 _ T37.heap _
            rw [e37]
            exact ⟨w_REFUSED, rfl, E_REFUSED, (Fld.ne F_ordinal_REFUSED F_ordinal_HELD (by simp)), (Fld.ne F_ordinal_REFUSED F_ordinal_SENT (by simp)), N26, rfl⟩
          · refine ogo (fun t k => Jvm.RoadKit.acmp (g := (mkF m 79 #[.val (.ref a1), .val (.int ec1), .val (.int (0 : Int32)), .val (.int (1 : Int32))] [(.ref w_CANCEL), (.ref a1)])) X35 hx rfl rfl rfl (pc0 := 79) (pc' := 96) (same := false) rfl (hb hby d5_79) rfl (decide_eq_false fun q => hc36 (Value.ref.inj q)) (by decide) (by decide) k) ?_
            show OwnEnds _ _ _ _ _ _ _ (T35.setTop (mkF m 96 #[.val (.ref a1), .val (.int ec1), .val (.int (0 : Int32)), .val (.int (1 : Int32))] []))
            refine ogo (fun t k => XS.iloadN X35.here hx rfl (hb hby d5_96) rfl k) ?_
            show OwnEnds _ _ _ _ _ _ _ (T35.setTop (mkF m 97 #[.val (.ref a1), .val (.int ec1), .val (.int (0 : Int32)), .val (.int (1 : Int32))] [(.int (0 : Int32))]))
            refine ogo (fun t k => XS.ifYes X35.here hx rfl (pc0 := 97) (pc' := 106) rfl (hb hby d5_97) rfl ((if0 _ _).trans (teq (by decide : (0 : Int32) = (0 : Int32))).1) (by decide) (by decide) k) ?_
            show OwnEnds _ _ _ _ _ _ _ (T35.setTop (mkF m 106 #[.val (.ref a1), .val (.int ec1), .val (.int (0 : Int32)), .val (.int (1 : Int32))] []))
            obtain ⟨T38, X38, e38, st38⟩ := getS2 X35 hx hZ hown (host := "") (Or.inl (hw _ (List.mem_of_getElem? (i := 39) rfl))) Via.refl e35 S_FAILED (g := (mkF m 106 #[.val (.ref a1), .val (.int ec1), .val (.int (0 : Int32)), .val (.int (1 : Int32))] [])) rfl (hb hby d5_106)
            refine ogo st38 ?_
            show OwnEnds _ _ _ _ _ _ _ (T38.setTop (mkF m 109 #[.val (.ref a1), .val (.int ec1), .val (.int (0 : Int32)), .val (.int (1 : Int32))] [(.ref w_FAILED)]))
            refine endA X38 hx hlk Bd.returns rfl rfl (hb hby d5_109) (by decide) (by decide) ?_
            show Q5 Z a1 ec1 w_HELD w_RESPONSE w_OK w_MAILBOX_MOVED w_PROBE w_CANCEL w_FAILED w_SENT w_DELIVER w_MOVED w_MISSING w_FOUND w_REFUSED w_CANCELED_Operation w_ACKNOWLEDGE w_DELIVERED w_DONE w_CANCELED_Notice_State h0 n0 _ T38.heap _
            rw [e38]
            exact ⟨w_FAILED, rfl, E_FAILED, (Fld.ne F_ordinal_FAILED F_ordinal_HELD (by simp)), (Fld.ne F_ordinal_FAILED F_ordinal_SENT (by simp)), N26, rfl⟩
    · refine ogo (fun t k => XS.icmpYes X26.here hx rfl (pc0 := 23) (pc' := 30) rfl (hb hby d5_23) rfl (feq hc27).2 (by decide) (by decide) k) ?_
      show OwnEnds _ _ _ _ _ _ _ (T26.setTop (mkF m 30 #[.val (.ref a1), .val (.int ec1), .val (.int (0 : Int32)), .unset] []))
      refine ogo (fun t k => XS.iconst X26.here hx rfl (hb hby d5_30) k) ?_
      show OwnEnds _ _ _ _ _ _ _ (T26.setTop (mkF m 31 #[.val (.ref a1), .val (.int ec1), .val (.int (0 : Int32)), .unset] [(.int (0 : Int32))]))
      refine ogo (fun t k => XS.istoreN X26.here hx rfl (hb hby d5_31) rfl (l' := #[.val (.ref a1), .val (.int ec1), .val (.int (0 : Int32)), .val (.int (0 : Int32))]) rfl k) ?_
      show OwnEnds _ _ _ _ _ _ _ (T26.setTop (mkF m 32 #[.val (.ref a1), .val (.int ec1), .val (.int (0 : Int32)), .val (.int (0 : Int32))] []))
      refine ogo (fun t k => XS.iloadN X26.here hx rfl (hb hby d5_32) rfl k) ?_
      show OwnEnds _ _ _ _ _ _ _ (T26.setTop (mkF m 33 #[.val (.ref a1), .val (.int ec1), .val (.int (0 : Int32)), .val (.int (0 : Int32))] [(.int (0 : Int32))]))
      refine ogo (fun t k => XS.ifYes X26.here hx rfl (pc0 := 33) (pc' := 54) rfl (hb hby d5_33) rfl ((if0 _ _).trans (teq (by decide : (0 : Int32) = (0 : Int32))).1) (by decide) (by decide) k) ?_
      show OwnEnds _ _ _ _ _ _ _ (T26.setTop (mkF m 54 #[.val (.ref a1), .val (.int ec1), .val (.int (0 : Int32)), .val (.int (0 : Int32))] []))
      refine ogo (fun t k => XS.aloadN X26.here hx rfl (hb hby d5_54) rfl rfl k) ?_
      show OwnEnds _ _ _ _ _ _ _ (T26.setTop (mkF m 55 #[.val (.ref a1), .val (.int ec1), .val (.int (0 : Int32)), .val (.int (0 : Int32))] [(.ref a1)]))
      obtain ⟨T39, X39, e39, st39⟩ := getS2 X26 hx hZ hown (host := "") (Or.inl (hw _ (List.mem_of_getElem? (i := 35) rfl))) Via.refl e26 S_PROBE (g := (mkF m 55 #[.val (.ref a1), .val (.int ec1), .val (.int (0 : Int32)), .val (.int (0 : Int32))] [(.ref a1)])) rfl (hb hby d5_55)
      refine ogo st39 ?_
      show OwnEnds _ _ _ _ _ _ _ (T39.setTop (mkF m 58 #[.val (.ref a1), .val (.int ec1), .val (.int (0 : Int32)), .val (.int (0 : Int32))] [(.ref w_PROBE), (.ref a1)]))
      by_cases hc40 : a1 = w_PROBE
      · refine ogo (fun t k => Jvm.RoadKit.acmp (g := (mkF m 58 #[.val (.ref a1), .val (.int ec1), .val (.int (0 : Int32)), .val (.int (0 : Int32))] [(.ref w_PROBE), (.ref a1)])) X39 hx rfl rfl rfl (pc0 := 58) (pc' := 61) (same := true) rfl (hb hby d5_58) rfl (decide_eq_true (congrArg Value.ref hc40)) (by decide) (by decide) k) ?_
        show OwnEnds _ _ _ _ _ _ _ (T39.setTop (mkF m 61 #[.val (.ref a1), .val (.int ec1), .val (.int (0 : Int32)), .val (.int (0 : Int32))] []))
        refine ogo (fun t k => XS.iloadN X39.here hx rfl (hb hby d5_61) rfl k) ?_
        show OwnEnds _ _ _ _ _ _ _ (T39.setTop (mkF m 62 #[.val (.ref a1), .val (.int ec1), .val (.int (0 : Int32)), .val (.int (0 : Int32))] [(.int (0 : Int32))]))
        refine ogo (fun t k => XS.ifYes X39.here hx rfl (pc0 := 62) (pc' := 71) rfl (hb hby d5_62) rfl ((if0 _ _).trans (teq (by decide : (0 : Int32) = (0 : Int32))).1) (by decide) (by decide) k) ?_
        show OwnEnds _ _ _ _ _ _ _ (T39.setTop (mkF m 71 #[.val (.ref a1), .val (.int ec1), .val (.int (0 : Int32)), .val (.int (0 : Int32))] []))
        obtain ⟨T41, X41, e41, st41⟩ := getS2 X39 hx hZ hown (host := "") (Or.inl (hw _ (List.mem_of_getElem? (i := 49) rfl))) Via.refl e39 S_MISSING (g := (mkF m 71 #[.val (.ref a1), .val (.int ec1), .val (.int (0 : Int32)), .val (.int (0 : Int32))] [])) rfl (hb hby d5_71)
        refine ogo st41 ?_
        show OwnEnds _ _ _ _ _ _ _ (T41.setTop (mkF m 74 #[.val (.ref a1), .val (.int ec1), .val (.int (0 : Int32)), .val (.int (0 : Int32))] [(.ref w_MISSING)]))
        refine endA X41 hx hlk Bd.returns rfl rfl (hb hby d5_74) (by decide) (by decide) ?_
        show Q5 Z a1 ec1 w_HELD w_RESPONSE w_OK w_MAILBOX_MOVED w_PROBE w_CANCEL w_FAILED w_SENT w_DELIVER w_MOVED w_MISSING w_FOUND w_REFUSED w_CANCELED_Operation w_ACKNOWLEDGE w_DELIVERED w_DONE w_CANCELED_Notice_State h0 n0 _ T41.heap _
        rw [e41]
        exact ⟨w_MISSING, rfl, E_MISSING, (Fld.ne F_ordinal_MISSING F_ordinal_HELD (by simp)), (Fld.ne F_ordinal_MISSING F_ordinal_SENT (by simp)), N26, rfl⟩
      · refine ogo (fun t k => Jvm.RoadKit.acmp (g := (mkF m 58 #[.val (.ref a1), .val (.int ec1), .val (.int (0 : Int32)), .val (.int (0 : Int32))] [(.ref w_PROBE), (.ref a1)])) X39 hx rfl rfl rfl (pc0 := 58) (pc' := 75) (same := false) rfl (hb hby d5_58) rfl (decide_eq_false fun q => hc40 (Value.ref.inj q)) (by decide) (by decide) k) ?_
        show OwnEnds _ _ _ _ _ _ _ (T39.setTop (mkF m 75 #[.val (.ref a1), .val (.int ec1), .val (.int (0 : Int32)), .val (.int (0 : Int32))] []))
        refine ogo (fun t k => XS.aloadN X39.here hx rfl (hb hby d5_75) rfl rfl k) ?_
        show OwnEnds _ _ _ _ _ _ _ (T39.setTop (mkF m 76 #[.val (.ref a1), .val (.int ec1), .val (.int (0 : Int32)), .val (.int (0 : Int32))] [(.ref a1)]))
        obtain ⟨T42, X42, e42, st42⟩ := getS2 X39 hx hZ hown (host := "") (Or.inl (hw _ (List.mem_of_getElem? (i := 37) rfl))) Via.refl e39 S_CANCEL (g := (mkF m 76 #[.val (.ref a1), .val (.int ec1), .val (.int (0 : Int32)), .val (.int (0 : Int32))] [(.ref a1)])) rfl (hb hby d5_76)
        refine ogo st42 ?_
        show OwnEnds _ _ _ _ _ _ _ (T42.setTop (mkF m 79 #[.val (.ref a1), .val (.int ec1), .val (.int (0 : Int32)), .val (.int (0 : Int32))] [(.ref w_CANCEL), (.ref a1)]))
        by_cases hc43 : a1 = w_CANCEL
        · refine ogo (fun t k => Jvm.RoadKit.acmp (g := (mkF m 79 #[.val (.ref a1), .val (.int ec1), .val (.int (0 : Int32)), .val (.int (0 : Int32))] [(.ref w_CANCEL), (.ref a1)])) X42 hx rfl rfl rfl (pc0 := 79) (pc' := 82) (same := true) rfl (hb hby d5_79) rfl (decide_eq_true (congrArg Value.ref hc43)) (by decide) (by decide) k) ?_
          show OwnEnds _ _ _ _ _ _ _ (T42.setTop (mkF m 82 #[.val (.ref a1), .val (.int ec1), .val (.int (0 : Int32)), .val (.int (0 : Int32))] []))
          refine ogo (fun t k => XS.iloadN X42.here hx rfl (hb hby d5_82) rfl k) ?_
          show OwnEnds _ _ _ _ _ _ _ (T42.setTop (mkF m 83 #[.val (.ref a1), .val (.int ec1), .val (.int (0 : Int32)), .val (.int (0 : Int32))] [(.int (0 : Int32))]))
          refine ogo (fun t k => XS.ifYes X42.here hx rfl (pc0 := 83) (pc' := 92) rfl (hb hby d5_83) rfl ((if0 _ _).trans (teq (by decide : (0 : Int32) = (0 : Int32))).1) (by decide) (by decide) k) ?_
          show OwnEnds _ _ _ _ _ _ _ (T42.setTop (mkF m 92 #[.val (.ref a1), .val (.int ec1), .val (.int (0 : Int32)), .val (.int (0 : Int32))] []))
          obtain ⟨T44, X44, e44, st44⟩ := getS2 X42 hx hZ hown (host := "") (Or.inl (hw _ (List.mem_of_getElem? (i := 54) rfl))) Via.refl e42 S_REFUSED (g := (mkF m 92 #[.val (.ref a1), .val (.int ec1), .val (.int (0 : Int32)), .val (.int (0 : Int32))] [])) rfl (hb hby d5_92)
          refine ogo st44 ?_
          show OwnEnds _ _ _ _ _ _ _ (T44.setTop (mkF m 95 #[.val (.ref a1), .val (.int ec1), .val (.int (0 : Int32)), .val (.int (0 : Int32))] [(.ref w_REFUSED)]))
          refine endA X44 hx hlk Bd.returns rfl rfl (hb hby d5_95) (by decide) (by decide) ?_
          show Q5 Z a1 ec1 w_HELD w_RESPONSE w_OK w_MAILBOX_MOVED w_PROBE w_CANCEL w_FAILED w_SENT w_DELIVER w_MOVED w_MISSING w_FOUND w_REFUSED w_CANCELED_Operation w_ACKNOWLEDGE w_DELIVERED w_DONE w_CANCELED_Notice_State h0 n0 _ T44.heap _
          rw [e44]
          exact ⟨w_REFUSED, rfl, E_REFUSED, (Fld.ne F_ordinal_REFUSED F_ordinal_HELD (by simp)), (Fld.ne F_ordinal_REFUSED F_ordinal_SENT (by simp)), N26, rfl⟩
        · refine ogo (fun t k => Jvm.RoadKit.acmp (g := (mkF m 79 #[.val (.ref a1), .val (.int ec1), .val (.int (0 : Int32)), .val (.int (0 : Int32))] [(.ref w_CANCEL), (.ref a1)])) X42 hx rfl rfl rfl (pc0 := 79) (pc' := 96) (same := false) rfl (hb hby d5_79) rfl (decide_eq_false fun q => hc43 (Value.ref.inj q)) (by decide) (by decide) k) ?_
          show OwnEnds _ _ _ _ _ _ _ (T42.setTop (mkF m 96 #[.val (.ref a1), .val (.int ec1), .val (.int (0 : Int32)), .val (.int (0 : Int32))] []))
          refine ogo (fun t k => XS.iloadN X42.here hx rfl (hb hby d5_96) rfl k) ?_
          show OwnEnds _ _ _ _ _ _ _ (T42.setTop (mkF m 97 #[.val (.ref a1), .val (.int ec1), .val (.int (0 : Int32)), .val (.int (0 : Int32))] [(.int (0 : Int32))]))
          refine ogo (fun t k => XS.ifYes X42.here hx rfl (pc0 := 97) (pc' := 106) rfl (hb hby d5_97) rfl ((if0 _ _).trans (teq (by decide : (0 : Int32) = (0 : Int32))).1) (by decide) (by decide) k) ?_
          show OwnEnds _ _ _ _ _ _ _ (T42.setTop (mkF m 106 #[.val (.ref a1), .val (.int ec1), .val (.int (0 : Int32)), .val (.int (0 : Int32))] []))
          obtain ⟨T45, X45, e45, st45⟩ := getS2 X42 hx hZ hown (host := "") (Or.inl (hw _ (List.mem_of_getElem? (i := 39) rfl))) Via.refl e42 S_FAILED (g := (mkF m 106 #[.val (.ref a1), .val (.int ec1), .val (.int (0 : Int32)), .val (.int (0 : Int32))] [])) rfl (hb hby d5_106)
          refine ogo st45 ?_
          show OwnEnds _ _ _ _ _ _ _ (T45.setTop (mkF m 109 #[.val (.ref a1), .val (.int ec1), .val (.int (0 : Int32)), .val (.int (0 : Int32))] [(.ref w_FAILED)]))
          refine endA X45 hx hlk Bd.returns rfl rfl (hb hby d5_109) (by decide) (by decide) ?_
          show Q5 Z a1 ec1 w_HELD w_RESPONSE w_OK w_MAILBOX_MOVED w_PROBE w_CANCEL w_FAILED w_SENT w_DELIVER w_MOVED w_MISSING w_FOUND w_REFUSED w_CANCELED_Operation w_ACKNOWLEDGE w_DELIVERED w_DONE w_CANCELED_Notice_State h0 n0 _ T45.heap _
          rw [e45]
          exact ⟨w_FAILED, rfl, E_FAILED, (Fld.ne F_ordinal_FAILED F_ordinal_HELD (by simp)), (Fld.ne F_ordinal_FAILED F_ordinal_SENT (by simp)), N26, rfl⟩
theorem pd__I_Lcom_example_tidingsd_tidingsd_model_Notice_State_ : parseMethodDescriptor "(I)Lcom/example/tidingsd/tidingsd/model/Notice$State;" = some ⟨[.int], some (.object "com/example/tidingsd/tidingsd/model/Notice$State")⟩ := by decide +kernel
theorem pd___Z : parseMethodDescriptor "()Z" = some ⟨[], some .boolean⟩ := by decide +kernel
theorem pd__I_Lcom_example_tidingsd_tidingsd_model_Operation_ : parseMethodDescriptor "(I)Lcom/example/tidingsd/tidingsd/model/Operation;" = some ⟨[.int], some (.object "com/example/tidingsd/tidingsd/model/Operation")⟩ := by decide +kernel
theorem pd_3a3b7d88 : parseMethodDescriptor "(Lcom/example/tidingsd/tidingsd/model/Operation;I)Lcom/example/tidingsd/tidingsd/model/Notice$State;" = some ⟨[(.object "com/example/tidingsd/tidingsd/model/Operation"), .int], some (.object "com/example/tidingsd/tidingsd/model/Notice$State")⟩ := by decide +kernel
theorem ef_0 (m : MethodId) (x0 : Int32) (x1 : Int32) (x2 : Int32) : entryFrame m #[(.int x0), (.int x1), (.int x2)] maxLocals = mkF m 0 #[.val (.int x0), .val (.int x1), .val (.int x2), .unset, .unset, .unset, .unset] [] := by first | (simp [entryFrame, mkF, argsToLocals, Value.category, maxLocals]; done) | rfl
def Q0 (Z : State) (p0 p1 p2 : Int32) (w_HELD w_RESPONSE w_OK w_MAILBOX_MOVED w_PROBE w_CANCEL w_FAILED w_SENT w_DELIVER w_MOVED w_MISSING w_FOUND w_REFUSED w_CANCELED_Operation w_ACKNOWLEDGE w_DELIVERED w_DONE w_CANCELED_Notice_State : Addr) (h0 : Heap) (n0 : Nat) (v : Option Value) (h : Heap) (L : List Loc) : Prop := v = some (.int 1) ∧ Fr n0 L
set_option maxRecDepth 65536 in
set_option maxHeartbeats 40000000 in
theorem rm0 (l : Launch) (Z : State) (a0 : Array Value) (hw : ∀ d ∈ tables_1, d.before a0 Z = true) (ws : List Jvm.Cond) (p0 p1 p2 : Int32) (w_HELD w_RESPONSE w_OK w_MAILBOX_MOVED w_PROBE w_CANCEL w_FAILED w_SENT w_DELIVER w_MOVED w_MISSING w_FOUND w_REFUSED w_CANCELED_Operation w_ACKNOWLEDGE w_DELIVERED w_DONE w_CANCELED_Notice_State : Addr) (h0 : Heap) (n0 : Nat) (Z0 : n0 ≤ h0.size) (S_HELD : Sta Z h0 "com/example/tidingsd/tidingsd/model/Notice$State" "HELD" "Lcom/example/tidingsd/tidingsd/model/Notice$State;" (.ref w_HELD)) (E_HELD : Exa Z h0 w_HELD "com/example/tidingsd/tidingsd/model/Notice$State") (F_ordinal_HELD : Fld Z h0 w_HELD "java/lang/Enum" "ordinal" "I" (.int (0 : Int32))) (S_RESPONSE : Sta Z h0 "com/example/tidingsd/tidingsd/model/Operation" "RESPONSE" "Lcom/example/tidingsd/tidingsd/model/Operation;" (.ref w_RESPONSE)) (E_RESPONSE : Exa Z h0 w_RESPONSE "com/example/tidingsd/tidingsd/model/Operation") (F_ordinal_RESPONSE : Fld Z h0 w_RESPONSE "java/lang/Enum" "ordinal" "I" (.int (3 : Int32))) (S_OK : Sta Z h0 "com/example/tidingsd/tidingsd/model/Outcome" "OK" "Lcom/example/tidingsd/tidingsd/model/Outcome;" (.ref w_OK)) (E_OK : Exa Z h0 w_OK "com/example/tidingsd/tidingsd/model/Outcome") (F_errorClass_OK : Fld Z h0 w_OK "com/example/tidingsd/tidingsd/model/Outcome" "errorClass" "I" (.int (0 : Int32))) (S_MAILBOX_MOVED : Sta Z h0 "com/example/tidingsd/tidingsd/model/Outcome" "MAILBOX_MOVED" "Lcom/example/tidingsd/tidingsd/model/Outcome;" (.ref w_MAILBOX_MOVED)) (E_MAILBOX_MOVED : Exa Z h0 w_MAILBOX_MOVED "com/example/tidingsd/tidingsd/model/Outcome") (F_errorClass_MAILBOX_MOVED : Fld Z h0 w_MAILBOX_MOVED "com/example/tidingsd/tidingsd/model/Outcome" "errorClass" "I" (.int (1 : Int32))) (S_PROBE : Sta Z h0 "com/example/tidingsd/tidingsd/model/Operation" "PROBE" "Lcom/example/tidingsd/tidingsd/model/Operation;" (.ref w_PROBE)) (E_PROBE : Exa Z h0 w_PROBE "com/example/tidingsd/tidingsd/model/Operation") (F_ordinal_PROBE : Fld Z h0 w_PROBE "java/lang/Enum" "ordinal" "I" (.int (2 : Int32))) (S_CANCEL : Sta Z h0 "com/example/tidingsd/tidingsd/model/Operation" "CANCEL" "Lcom/example/tidingsd/tidingsd/model/Operation;" (.ref w_CANCEL)) (E_CANCEL : Exa Z h0 w_CANCEL "com/example/tidingsd/tidingsd/model/Operation") (F_ordinal_CANCEL : Fld Z h0 w_CANCEL "java/lang/Enum" "ordinal" "I" (.int (4 : Int32))) (S_FAILED : Sta Z h0 "com/example/tidingsd/tidingsd/model/Notice$State" "FAILED" "Lcom/example/tidingsd/tidingsd/model/Notice$State;" (.ref w_FAILED)) (E_FAILED : Exa Z h0 w_FAILED "com/example/tidingsd/tidingsd/model/Notice$State") (F_ordinal_FAILED : Fld Z h0 w_FAILED "java/lang/Enum" "ordinal" "I" (.int (3 : Int32))) (S_SENT : Sta Z h0 "com/example/tidingsd/tidingsd/model/Notice$State" "SENT" "Lcom/example/tidingsd/tidingsd/model/Notice$State;" (.ref w_SENT)) (E_SENT : Exa Z h0 w_SENT "com/example/tidingsd/tidingsd/model/Notice$State") (F_ordinal_SENT : Fld Z h0 w_SENT "java/lang/Enum" "ordinal" "I" (.int (1 : Int32))) (S_DELIVER : Sta Z h0 "com/example/tidingsd/tidingsd/model/Operation" "DELIVER" "Lcom/example/tidingsd/tidingsd/model/Operation;" (.ref w_DELIVER)) (E_DELIVER : Exa Z h0 w_DELIVER "com/example/tidingsd/tidingsd/model/Operation") (F_ordinal_DELIVER : Fld Z h0 w_DELIVER "java/lang/Enum" "ordinal" "I" (.int (0 : Int32))) (S_MOVED : Sta Z h0 "com/example/tidingsd/tidingsd/model/Notice$State" "MOVED" "Lcom/example/tidingsd/tidingsd/model/Notice$State;" (.ref w_MOVED)) (E_MOVED : Exa Z h0 w_MOVED "com/example/tidingsd/tidingsd/model/Notice$State") (F_ordinal_MOVED : Fld Z h0 w_MOVED "java/lang/Enum" "ordinal" "I" (.int (4 : Int32))) (S_MISSING : Sta Z h0 "com/example/tidingsd/tidingsd/model/Notice$State" "MISSING" "Lcom/example/tidingsd/tidingsd/model/Notice$State;" (.ref w_MISSING)) (E_MISSING : Exa Z h0 w_MISSING "com/example/tidingsd/tidingsd/model/Notice$State") (F_ordinal_MISSING : Fld Z h0 w_MISSING "java/lang/Enum" "ordinal" "I" (.int (6 : Int32))) (S_FOUND : Sta Z h0 "com/example/tidingsd/tidingsd/model/Notice$State" "FOUND" "Lcom/example/tidingsd/tidingsd/model/Notice$State;" (.ref w_FOUND)) (E_FOUND : Exa Z h0 w_FOUND "com/example/tidingsd/tidingsd/model/Notice$State") (F_ordinal_FOUND : Fld Z h0 w_FOUND "java/lang/Enum" "ordinal" "I" (.int (5 : Int32))) (S_REFUSED : Sta Z h0 "com/example/tidingsd/tidingsd/model/Notice$State" "REFUSED" "Lcom/example/tidingsd/tidingsd/model/Notice$State;" (.ref w_REFUSED)) (E_REFUSED : Exa Z h0 w_REFUSED "com/example/tidingsd/tidingsd/model/Notice$State") (F_ordinal_REFUSED : Fld Z h0 w_REFUSED "java/lang/Enum" "ordinal" "I" (.int (8 : Int32))) (S_CANCELED_Operation : Sta Z h0 "com/example/tidingsd/tidingsd/model/Operation" "CANCELED" "Lcom/example/tidingsd/tidingsd/model/Operation;" (.ref w_CANCELED_Operation)) (E_CANCELED_Operation : Exa Z h0 w_CANCELED_Operation "com/example/tidingsd/tidingsd/model/Operation") (F_ordinal_CANCELED_Operation : Fld Z h0 w_CANCELED_Operation "java/lang/Enum" "ordinal" "I" (.int (5 : Int32))) (S_ACKNOWLEDGE : Sta Z h0 "com/example/tidingsd/tidingsd/model/Operation" "ACKNOWLEDGE" "Lcom/example/tidingsd/tidingsd/model/Operation;" (.ref w_ACKNOWLEDGE)) (E_ACKNOWLEDGE : Exa Z h0 w_ACKNOWLEDGE "com/example/tidingsd/tidingsd/model/Operation") (F_ordinal_ACKNOWLEDGE : Fld Z h0 w_ACKNOWLEDGE "java/lang/Enum" "ordinal" "I" (.int (1 : Int32))) (S_DELIVERED : Sta Z h0 "com/example/tidingsd/tidingsd/model/Notice$State" "DELIVERED" "Lcom/example/tidingsd/tidingsd/model/Notice$State;" (.ref w_DELIVERED)) (E_DELIVERED : Exa Z h0 w_DELIVERED "com/example/tidingsd/tidingsd/model/Notice$State") (F_ordinal_DELIVERED : Fld Z h0 w_DELIVERED "java/lang/Enum" "ordinal" "I" (.int (2 : Int32))) (S_DONE : Sta Z h0 "com/example/tidingsd/tidingsd/model/Notice$State" "DONE" "Lcom/example/tidingsd/tidingsd/model/Notice$State;" (.ref w_DONE)) (E_DONE : Exa Z h0 w_DONE "com/example/tidingsd/tidingsd/model/Notice$State") (F_ordinal_DONE : Fld Z h0 w_DONE "java/lang/Enum" "ordinal" "I" (.int (7 : Int32))) (S_CANCELED_Notice_State : Sta Z h0 "com/example/tidingsd/tidingsd/model/Notice$State" "CANCELED" "Lcom/example/tidingsd/tidingsd/model/Notice$State;" (.ref w_CANCELED_Notice_State)) (E_CANCELED_Notice_State : Exa Z h0 w_CANCELED_Notice_State "com/example/tidingsd/tidingsd/model/Notice$State") (F_ordinal_CANCELED_Notice_State : Fld Z h0 w_CANCELED_Notice_State "java/lang/Enum" "ordinal" "I" (.int (9 : Int32))) :
    MetFree l x (head1 (Jvm.Cond.code x code maxLocals ret :: ws) room_1) (fun a U => a = #[(.int p0), (.int p1), (.int p2)] ∧ Z.Warmed39 U.vm ∧ U.heap = h0) (fun _ _ _ _ _ => True) (fun _ U o U' => ∃ v L, o = .returned v ∧ Q0 Z p0 p1 p2 w_HELD w_RESPONSE w_OK w_MAILBOX_MOVED w_PROBE w_CANCEL w_FAILED w_SENT w_DELIVER w_MOVED w_MISSING w_FOUND w_REFUSED w_CANCELED_Operation w_ACKNOWLEDGE w_DELIVERED w_DONE w_CANCELED_Notice_State h0 n0 v U'.heap L ∧ FrameEnd U o U' L 0 0) := by
  refine MetFree.of_bodySF (plainFor_of_name pn_StateIsSettledPinLaw) hisR ?_
  intro p e s m args below meth c s₁ Bd hml0 hP hK
  obtain ⟨rfl, hZ, hh⟩ := hP
  have hx := Bd.exec
  have hby := Bd.bytes
  have hml : c.maxLocals = 7 := hml0
  have hown : s.vm.findClass "com/example/tidingsd/tidingsd/model/StateIsSettledPinLaw" = some m.cls := findClass_of_methodNamed Bd.named
  have hnm := (name_of_methodNamed Bd.named Bd.method).1
  have hlk : meth.locks = false := BodyLoose.notSynchronized Bd
  have X0 : Stand p l e room_1 s m #[(.int p0), (.int p1), (.int p2)] below meth c s₁ [] 0 0 := Stand.of_body Bd
  have e0 : s₁.heap = h0 := by rw [← hh, Bd.state]; rfl
  have N0 := Fr.nil n0
  refine ogo (U' := s₁.setTop (mkF m 0 #[.val (.int p0), .val (.int p1), .val (.int p2), .unset, .unset, .unset, .unset] [])) (Q := Q0 Z p0 p1 p2 w_HELD w_RESPONSE w_OK w_MAILBOX_MOVED w_PROBE w_CANCEL w_FAILED w_SENT w_DELIVER w_MOVED w_MISSING w_FOUND w_REFUSED w_CANCELED_Operation w_ACKNOWLEDGE w_DELIVERED w_DONE w_CANCELED_Notice_State h0 n0) (K := 0) (N := 0) (fun t k => castTop (ef_0 m p0 p1 p2) k) ?_
  show OwnEnds _ _ _ _ _ _ _ (s₁.setTop (mkF m 0 #[.val (.int p0), .val (.int p1), .val (.int p2), .unset, .unset, .unset, .unset] []))
  refine ogo (fun t k => XS.iloadN X0.here hx rfl (hb hby at_0) rfl k) ?_
  show OwnEnds _ _ _ _ _ _ _ (s₁.setTop (mkF m 1 #[.val (.int p0), .val (.int p1), .val (.int p2), .unset, .unset, .unset, .unset] [(.int p0)]))
  refine ogo (fun t k => X0.ldcInt hx hown (mvT hZ (hw _ (List.mem_of_getElem? (i := 0) rfl))) (g := (mkF m 1 #[.val (.int p0), .val (.int p1), .val (.int p2), .unset, .unset, .unset, .unset] [(.int p0)])) rfl (hb hby at_1) t k) ?_
  show OwnEnds _ _ _ _ _ _ _ (s₁.setTop (mkF m 3 #[.val (.int p0), .val (.int p1), .val (.int p2), .unset, .unset, .unset, .unset] [(.int (2147483647 : Int32)), (.int p0)]))
  refine ogo (fun t k => XS.iand X0.here hx rfl (hb hby at_3) rfl k) ?_
  show OwnEnds _ _ _ _ _ _ _ (s₁.setTop (mkF m 4 #[.val (.int p0), .val (.int p1), .val (.int p2), .unset, .unset, .unset, .unset] [(.int (p0 &&& (2147483647 : Int32)))]))
  refine ogo (fun t k => XS.bipush X0.here hx rfl (hb hby at_4) k) ?_
  show OwnEnds _ _ _ _ _ _ _ (s₁.setTop (mkF m 6 #[.val (.int p0), .val (.int p1), .val (.int p2), .unset, .unset, .unset, .unset] [(.int (10 : Int32)), (.int (p0 &&& (2147483647 : Int32)))]))
  refine ogo (fun t k => iremM (g := (mkF m 6 #[.val (.int p0), .val (.int p1), .val (.int p2), .unset, .unset, .unset, .unset] [(.int (10 : Int32)), (.int (p0 &&& (2147483647 : Int32)))])) X0 hx rfl (hb hby at_6) rfl (by decide) k) ?_
  generalize hk : ((p0 &&& (2147483647 : Int32)) % (10 : Int32)) = k
  rcases own_case10 (hk ▸ own_rng p0 10 (by decide)) with rfl | rfl | rfl | rfl | rfl | rfl | rfl | rfl | rfl | rfl
  · show OwnEnds _ _ _ _ _ _ _ (s₁.setTop (mkF m 7 #[.val (.int p0), .val (.int p1), .val (.int p2), .unset, .unset, .unset, .unset] [(.int (0 : Int32))]))
    refine ogo (fun t k => XS.istoreN X0.here hx rfl (hb hby at_7) rfl (l' := #[.val (.int p0), .val (.int p1), .val (.int p2), .val (.int (0 : Int32)), .unset, .unset, .unset]) rfl k) ?_
    show OwnEnds _ _ _ _ _ _ _ (s₁.setTop (mkF m 8 #[.val (.int p0), .val (.int p1), .val (.int p2), .val (.int (0 : Int32)), .unset, .unset, .unset] []))
    refine ogo (fun t k => XS.iloadN X0.here hx rfl (hb hby at_8) rfl k) ?_
    show OwnEnds _ _ _ _ _ _ _ (s₁.setTop (mkF m 9 #[.val (.int p0), .val (.int p1), .val (.int p2), .val (.int (0 : Int32)), .unset, .unset, .unset] [(.int (0 : Int32))]))
    obtain ⟨v1, _, ⟨T1, L1, k1, n1⟩, -, X1, ⟨Lc1, hQ1, l1, y1, z1⟩, st1⟩ := Jvm.LawKit.callS X0 hx (y := (⟨"com/example/tidingsd/tidingsd/model/StateIsSettledPinLaw", "state", "(I)Lcom/example/tidingsd/tidingsd/model/Notice$State;"⟩ : MethodName)) hown (mvT hZ (hw _ (List.mem_of_getElem? (i := 1) rfl))) (mvT hZ (hw _ (List.mem_of_getElem? (i := 2) rfl))) (mvT hZ (hw _ (List.mem_of_getElem? (i := 3) rfl))) (mvT hZ (hw _ (List.mem_of_getElem? (i := 4) rfl))) (by decide) (backOf (W := 0) (rm1 l Z a0 hw [] (0 : Int32) w_HELD w_SENT w_DELIVERED w_FAILED w_MOVED w_FOUND w_MISSING w_DONE w_REFUSED w_CANCELED_Notice_State h0 n0 Z0 S_HELD S_SENT S_DELIVERED S_FAILED S_MOVED S_FOUND S_MISSING S_DONE S_REFUSED S_CANCELED_Notice_State) hZ (hw _ (List.mem_of_getElem? (i := 4) rfl)) (hw _ (List.mem_of_getElem? (i := 3) rfl)) (by decide) (by decide)) (g := (mkF m 9 #[.val (.int p0), .val (.int p1), .val (.int p2), .val (.int (0 : Int32)), .unset, .unset, .unset] [(.int (0 : Int32))])) rfl (by rw [hml]; rfl) (argsL := [(.int (0 : Int32))]) (rest := []) (lenOf pd__I_Lcom_example_tidingsd_tidingsd_model_Notice_State_ rfl) rfl (by show 2 * 0 + _ ≤ _; exact Nat.le_of_eq rfl) (hb hby at_9) (fun _ _ => ⟨rfl, e0, (by decide : 0 + 0 ≤ _), (by decide : 0 + 0 ≤ _)⟩)
    dsimp only [Pt.U, Pt.locs, Pt.cells, Pt.slots] at X1 l1 y1 z1 st1 hQ1
    subst l1 y1 z1
    obtain ⟨hv1, N1q, e1⟩ := hQ1
    obtain rfl : v1 = some (.ref w_HELD) := hv1.trans (by simp [own_state])
    have N1 := Fr.app N0 N1q
    refine ogo (fun t k => st1 t k) ?_
    show OwnEnds _ _ _ _ _ _ _ (T1.setTop (mkF m 12 #[.val (.int p0), .val (.int p1), .val (.int p2), .val (.int (0 : Int32)), .unset, .unset, .unset] [(.ref w_HELD)]))
    refine ogo (fun t k => XS.astore X1.here hx rfl (hb hby at_12) rfl rfl (l' := #[.val (.int p0), .val (.int p1), .val (.int p2), .val (.int (0 : Int32)), .val (.ref w_HELD), .unset, .unset]) rfl k) ?_
    show OwnEnds _ _ _ _ _ _ _ (T1.setTop (mkF m 14 #[.val (.int p0), .val (.int p1), .val (.int p2), .val (.int (0 : Int32)), .val (.ref w_HELD), .unset, .unset] []))
    refine ogo (fun t k => XS.iloadN X1.here hx rfl (hb hby at_14) rfl k) ?_
    show OwnEnds _ _ _ _ _ _ _ (T1.setTop (mkF m 15 #[.val (.int p0), .val (.int p1), .val (.int p2), .val (.int (0 : Int32)), .val (.ref w_HELD), .unset, .unset] [(.int (0 : Int32))]))
    refine ogo (fun t k => XS.iconst X1.here hx rfl (hb hby at_15) k) ?_
    show OwnEnds _ _ _ _ _ _ _ (T1.setTop (mkF m 16 #[.val (.int p0), .val (.int p1), .val (.int p2), .val (.int (0 : Int32)), .val (.ref w_HELD), .unset, .unset] [(.int (2 : Int32)), (.int (0 : Int32))]))
    refine ogo (fun t k => XS.icmpYes X1.here hx rfl (pc0 := 16) (pc' := 23) rfl (hb hby at_16) rfl (tlt (by decide : (0 : Int32) < (2 : Int32))).1 (by decide) (by decide) k) ?_
    show OwnEnds _ _ _ _ _ _ _ (T1.setTop (mkF m 23 #[.val (.int p0), .val (.int p1), .val (.int p2), .val (.int (0 : Int32)), .val (.ref w_HELD), .unset, .unset] []))
    refine ogo (fun t k => XS.iconst X1.here hx rfl (hb hby at_23) k) ?_
    show OwnEnds _ _ _ _ _ _ _ (T1.setTop (mkF m 24 #[.val (.int p0), .val (.int p1), .val (.int p2), .val (.int (0 : Int32)), .val (.ref w_HELD), .unset, .unset] [(.int (0 : Int32))]))
    refine ogo (fun t k => XS.istore X1.here hx rfl (hb hby at_24) rfl (l' := #[.val (.int p0), .val (.int p1), .val (.int p2), .val (.int (0 : Int32)), .val (.ref w_HELD), .val (.int (0 : Int32)), .unset]) rfl k) ?_
    show OwnEnds _ _ _ _ _ _ _ (T1.setTop (mkF m 26 #[.val (.int p0), .val (.int p1), .val (.int p2), .val (.int (0 : Int32)), .val (.ref w_HELD), .val (.int (0 : Int32)), .unset] []))
    refine ogo (fun t k => XS.aload X1.here hx rfl (hb hby at_26) rfl rfl k) ?_
    show OwnEnds _ _ _ _ _ _ _ (T1.setTop (mkF m 28 #[.val (.int p0), .val (.int p1), .val (.int p2), .val (.int (0 : Int32)), .val (.ref w_HELD), .val (.int (0 : Int32)), .unset] [(.ref w_HELD)]))
    obtain ⟨cq2, kq2, q2a, q2b, q2c⟩ := isOf hZ e1 E_HELD
    obtain ⟨v2, _, ⟨T2, L2, k2, n2⟩, -, X2, ⟨Lc2, hQ2, l2, y2, z2⟩, st2⟩ := X1.virtualBack hx (y := (⟨"com/example/tidingsd/tidingsd/model/Notice$State", "isSettled", "()Z"⟩ : MethodName)) (z := (⟨"com/example/tidingsd/tidingsd/model/Notice$State", "isSettled", "()Z"⟩ : MethodName)) hown (mvT hZ (hw _ (List.mem_of_getElem? (i := 8) rfl))) (mvT hZ (hw _ (List.mem_of_getElem? (i := 9) rfl))) (notFace_of_selects (args := #[]) (mvT hZ (hw _ (List.mem_of_getElem? (i := 11) rfl)))) (mvT hZ (hw _ (List.mem_of_getElem? (i := 11) rfl))) (mvT hZ (hw _ (List.mem_of_getElem? (i := 10) rfl))) (by decide) (backOf (W := 0) (rm3 l Z a0 hw [] w_HELD w_HELD w_SENT h0 n0 Z0 S_HELD S_SENT) hZ (hw _ (List.mem_of_getElem? (i := 12) rfl)) (hw _ (List.mem_of_getElem? (i := 6) rfl)) (by decide) (by decide)) q2a q2c (g := (mkF m 28 #[.val (.int p0), .val (.int p1), .val (.int p2), .val (.int (0 : Int32)), .val (.ref w_HELD), .val (.int (0 : Int32)), .unset] [(.ref w_HELD)])) rfl (by rw [hml]; rfl) (Steps.refl _) (argsL := []) (rest := []) (lenOf pd___Z rfl) rfl (by show 2 * 0 + _ ≤ _; exact Nat.le_of_eq rfl) (hb hby at_28) (fun _ _ => ⟨rfl, e1, (by decide : 0 + 0 ≤ _), (by decide : 0 + 0 ≤ _)⟩)
    dsimp only [Pt.U, Pt.locs, Pt.cells, Pt.slots] at X2 l2 y2 z2 st2 hQ2
    subst l2 y2 z2
    obtain ⟨hv2, N2q, e2⟩ := hQ2
    obtain rfl : v2 = some (.int (0 : Int32)) := hv2.trans (by simp [(Fld.ne F_ordinal_HELD F_ordinal_SENT (by simp))])
    have N2 := Fr.app N1 N2q
    refine ogo (fun t k => st2.trans k) ?_
    show OwnEnds _ _ _ _ _ _ _ (T2.setTop (mkF m 31 #[.val (.int p0), .val (.int p1), .val (.int p2), .val (.int (0 : Int32)), .val (.ref w_HELD), .val (.int (0 : Int32)), .unset] [(.int (0 : Int32))]))
    refine ogo (fun t k => XS.iload X2.here hx rfl (hb hby at_31) rfl k) ?_
    show OwnEnds _ _ _ _ _ _ _ (T2.setTop (mkF m 33 #[.val (.int p0), .val (.int p1), .val (.int p2), .val (.int (0 : Int32)), .val (.ref w_HELD), .val (.int (0 : Int32)), .unset] [(.int (0 : Int32)), (.int (0 : Int32))]))
    refine ogo (fun t k => XS.icmpYes X2.here hx rfl (pc0 := 33) (pc' := 38) rfl (hb hby at_33) rfl (teq (by decide : (0 : Int32) = (0 : Int32))).1 (by decide) (by decide) k) ?_
    show OwnEnds _ _ _ _ _ _ _ (T2.setTop (mkF m 38 #[.val (.int p0), .val (.int p1), .val (.int p2), .val (.int (0 : Int32)), .val (.ref w_HELD), .val (.int (0 : Int32)), .unset] []))
    refine ogo (fun t k => XS.iloadN X2.here hx rfl (hb hby at_38) rfl k) ?_
    show OwnEnds _ _ _ _ _ _ _ (T2.setTop (mkF m 39 #[.val (.int p0), .val (.int p1), .val (.int p2), .val (.int (0 : Int32)), .val (.ref w_HELD), .val (.int (0 : Int32)), .unset] [(.int p1)]))
    refine ogo (fun t k => X2.ldcInt hx hown (mvT hZ (hw _ (List.mem_of_getElem? (i := 0) rfl))) (g := (mkF m 39 #[.val (.int p0), .val (.int p1), .val (.int p2), .val (.int (0 : Int32)), .val (.ref w_HELD), .val (.int (0 : Int32)), .unset] [(.int p1)])) rfl (hb hby at_39) t k) ?_
    show OwnEnds _ _ _ _ _ _ _ (T2.setTop (mkF m 41 #[.val (.int p0), .val (.int p1), .val (.int p2), .val (.int (0 : Int32)), .val (.ref w_HELD), .val (.int (0 : Int32)), .unset] [(.int (2147483647 : Int32)), (.int p1)]))
    refine ogo (fun t k => XS.iand X2.here hx rfl (hb hby at_41) rfl k) ?_
    show OwnEnds _ _ _ _ _ _ _ (T2.setTop (mkF m 42 #[.val (.int p0), .val (.int p1), .val (.int p2), .val (.int (0 : Int32)), .val (.ref w_HELD), .val (.int (0 : Int32)), .unset] [(.int (p1 &&& (2147483647 : Int32)))]))
    refine ogo (fun t k => XS.bipush X2.here hx rfl (hb hby at_42) k) ?_
    show OwnEnds _ _ _ _ _ _ _ (T2.setTop (mkF m 44 #[.val (.int p0), .val (.int p1), .val (.int p2), .val (.int (0 : Int32)), .val (.ref w_HELD), .val (.int (0 : Int32)), .unset] [(.int (6 : Int32)), (.int (p1 &&& (2147483647 : Int32)))]))
    refine ogo (fun t k => iremM (g := (mkF m 44 #[.val (.int p0), .val (.int p1), .val (.int p2), .val (.int (0 : Int32)), .val (.ref w_HELD), .val (.int (0 : Int32)), .unset] [(.int (6 : Int32)), (.int (p1 &&& (2147483647 : Int32)))])) X2 hx rfl (hb hby at_44) rfl (by decide) k) ?_
    show OwnEnds _ _ _ _ _ _ _ (T2.setTop (mkF m 45 #[.val (.int p0), .val (.int p1), .val (.int p2), .val (.int (0 : Int32)), .val (.ref w_HELD), .val (.int (0 : Int32)), .unset] [(.int ((p1 &&& (2147483647 : Int32)) % (6 : Int32)))]))
    obtain ⟨v3, _, ⟨T3, L3, k3, n3⟩, -, X3, ⟨Lc3, hQ3, l3, y3, z3⟩, st3⟩ := Jvm.LawKit.callS X2 hx (y := (⟨"com/example/tidingsd/tidingsd/model/StateIsSettledPinLaw", "op", "(I)Lcom/example/tidingsd/tidingsd/model/Operation;"⟩ : MethodName)) hown (mvT hZ (hw _ (List.mem_of_getElem? (i := 14) rfl))) (mvT hZ (hw _ (List.mem_of_getElem? (i := 15) rfl))) (mvT hZ (hw _ (List.mem_of_getElem? (i := 3) rfl))) (mvT hZ (hw _ (List.mem_of_getElem? (i := 16) rfl))) (by decide) (backOf (W := 0) (rm2 l Z a0 hw [] ((p1 &&& (2147483647 : Int32)) % (6 : Int32)) w_DELIVER w_ACKNOWLEDGE w_PROBE w_RESPONSE w_CANCEL w_CANCELED_Operation h0 n0 Z0 S_DELIVER S_ACKNOWLEDGE S_PROBE S_RESPONSE S_CANCEL S_CANCELED_Operation) hZ (hw _ (List.mem_of_getElem? (i := 16) rfl)) (hw _ (List.mem_of_getElem? (i := 3) rfl)) (by decide) (by decide)) (g := (mkF m 45 #[.val (.int p0), .val (.int p1), .val (.int p2), .val (.int (0 : Int32)), .val (.ref w_HELD), .val (.int (0 : Int32)), .unset] [(.int ((p1 &&& (2147483647 : Int32)) % (6 : Int32)))])) rfl (by rw [hml]; rfl) (argsL := [(.int ((p1 &&& (2147483647 : Int32)) % (6 : Int32)))]) (rest := []) (lenOf pd__I_Lcom_example_tidingsd_tidingsd_model_Operation_ rfl) rfl (by show 2 * 0 + _ ≤ _; exact Nat.le_of_eq rfl) (hb hby at_45) (fun _ _ => ⟨rfl, e2, (by decide : 0 + 0 ≤ _), (by decide : 0 + 0 ≤ _)⟩)
    dsimp only [Pt.U, Pt.locs, Pt.cells, Pt.slots] at X3 l3 y3 z3 st3 hQ3
    subst l3 y3 z3
    obtain ⟨rfl, N3q, e3⟩ := hQ3
    have N3 := Fr.app N2 N3q
    refine ogo (fun t k => st3 t k) ?_
    show OwnEnds _ _ _ _ _ _ _ (T3.setTop (mkF m 48 #[.val (.int p0), .val (.int p1), .val (.int p2), .val (.int (0 : Int32)), .val (.ref w_HELD), .val (.int (0 : Int32)), .unset] [(.ref (own_op ((p1 &&& (2147483647 : Int32)) % (6 : Int32)) w_DELIVER w_ACKNOWLEDGE w_PROBE w_RESPONSE w_CANCEL w_CANCELED_Operation))]))
    refine ogo (fun t k => XS.astore X3.here hx rfl (hb hby at_48) rfl rfl (l' := #[.val (.int p0), .val (.int p1), .val (.int p2), .val (.int (0 : Int32)), .val (.ref w_HELD), .val (.int (0 : Int32)), .val (.ref (own_op ((p1 &&& (2147483647 : Int32)) % (6 : Int32)) w_DELIVER w_ACKNOWLEDGE w_PROBE w_RESPONSE w_CANCEL w_CANCELED_Operation))]) rfl k) ?_
    show OwnEnds _ _ _ _ _ _ _ (T3.setTop (mkF m 50 #[.val (.int p0), .val (.int p1), .val (.int p2), .val (.int (0 : Int32)), .val (.ref w_HELD), .val (.int (0 : Int32)), .val (.ref (own_op ((p1 &&& (2147483647 : Int32)) % (6 : Int32)) w_DELIVER w_ACKNOWLEDGE w_PROBE w_RESPONSE w_CANCEL w_CANCELED_Operation))] []))
    refine ogo (fun t k => XS.aload X3.here hx rfl (hb hby at_50) rfl rfl k) ?_
    show OwnEnds _ _ _ _ _ _ _ (T3.setTop (mkF m 52 #[.val (.int p0), .val (.int p1), .val (.int p2), .val (.int (0 : Int32)), .val (.ref w_HELD), .val (.int (0 : Int32)), .val (.ref (own_op ((p1 &&& (2147483647 : Int32)) % (6 : Int32)) w_DELIVER w_ACKNOWLEDGE w_PROBE w_RESPONSE w_CANCEL w_CANCELED_Operation))] [(.ref (own_op ((p1 &&& (2147483647 : Int32)) % (6 : Int32)) w_DELIVER w_ACKNOWLEDGE w_PROBE w_RESPONSE w_CANCEL w_CANCELED_Operation))]))
    refine ogo (fun t k => XS.iloadN X3.here hx rfl (hb hby at_52) rfl k) ?_
    show OwnEnds _ _ _ _ _ _ _ (T3.setTop (mkF m 53 #[.val (.int p0), .val (.int p1), .val (.int p2), .val (.int (0 : Int32)), .val (.ref w_HELD), .val (.int (0 : Int32)), .val (.ref (own_op ((p1 &&& (2147483647 : Int32)) % (6 : Int32)) w_DELIVER w_ACKNOWLEDGE w_PROBE w_RESPONSE w_CANCEL w_CANCELED_Operation))] [(.int p2), (.ref (own_op ((p1 &&& (2147483647 : Int32)) % (6 : Int32)) w_DELIVER w_ACKNOWLEDGE w_PROBE w_RESPONSE w_CANCEL w_CANCELED_Operation))]))
    obtain ⟨v4, _, ⟨T4, L4, k4, n4⟩, -, X4, ⟨Lc4, hQ4, l4, y4, z4⟩, st4⟩ := Jvm.LawKit.callS X3 hx (y := (⟨"com/example/tidingsd/tidingsd/model/Notice$State", "settled", "(Lcom/example/tidingsd/tidingsd/model/Operation;I)Lcom/example/tidingsd/tidingsd/model/Notice$State;"⟩ : MethodName)) hown (mvT hZ (hw _ (List.mem_of_getElem? (i := 20) rfl))) (mvT hZ (hw _ (List.mem_of_getElem? (i := 21) rfl))) (mvT hZ (hw _ (List.mem_of_getElem? (i := 6) rfl))) (mvT hZ (hw _ (List.mem_of_getElem? (i := 22) rfl))) (by decide) (backOf (W := 0) (rm5 l Z a0 hw [] (own_op ((p1 &&& (2147483647 : Int32)) % (6 : Int32)) w_DELIVER w_ACKNOWLEDGE w_PROBE w_RESPONSE w_CANCEL w_CANCELED_Operation) p2 w_HELD w_RESPONSE w_OK w_MAILBOX_MOVED w_PROBE w_CANCEL w_FAILED w_SENT w_DELIVER w_MOVED w_MISSING w_FOUND w_REFUSED w_CANCELED_Operation w_ACKNOWLEDGE w_DELIVERED w_DONE w_CANCELED_Notice_State h0 n0 Z0 S_HELD E_HELD F_ordinal_HELD S_RESPONSE E_RESPONSE F_ordinal_RESPONSE S_OK E_OK F_errorClass_OK S_MAILBOX_MOVED E_MAILBOX_MOVED F_errorClass_MAILBOX_MOVED S_PROBE E_PROBE F_ordinal_PROBE S_CANCEL E_CANCEL F_ordinal_CANCEL S_FAILED E_FAILED F_ordinal_FAILED S_SENT E_SENT F_ordinal_SENT S_DELIVER E_DELIVER F_ordinal_DELIVER S_MOVED E_MOVED F_ordinal_MOVED S_MISSING E_MISSING F_ordinal_MISSING S_FOUND E_FOUND F_ordinal_FOUND S_REFUSED E_REFUSED F_ordinal_REFUSED S_CANCELED_Operation E_CANCELED_Operation F_ordinal_CANCELED_Operation S_ACKNOWLEDGE E_ACKNOWLEDGE F_ordinal_ACKNOWLEDGE S_DELIVERED E_DELIVERED F_ordinal_DELIVERED S_DONE E_DONE F_ordinal_DONE S_CANCELED_Notice_State E_CANCELED_Notice_State F_ordinal_CANCELED_Notice_State) hZ (hw _ (List.mem_of_getElem? (i := 22) rfl)) (hw _ (List.mem_of_getElem? (i := 6) rfl)) (by decide) (by decide)) (g := (mkF m 53 #[.val (.int p0), .val (.int p1), .val (.int p2), .val (.int (0 : Int32)), .val (.ref w_HELD), .val (.int (0 : Int32)), .val (.ref (own_op ((p1 &&& (2147483647 : Int32)) % (6 : Int32)) w_DELIVER w_ACKNOWLEDGE w_PROBE w_RESPONSE w_CANCEL w_CANCELED_Operation))] [(.int p2), (.ref (own_op ((p1 &&& (2147483647 : Int32)) % (6 : Int32)) w_DELIVER w_ACKNOWLEDGE w_PROBE w_RESPONSE w_CANCEL w_CANCELED_Operation))])) rfl (by rw [hml]; rfl) (argsL := [(.ref (own_op ((p1 &&& (2147483647 : Int32)) % (6 : Int32)) w_DELIVER w_ACKNOWLEDGE w_PROBE w_RESPONSE w_CANCEL w_CANCELED_Operation)), (.int p2)]) (rest := []) (lenOf pd_3a3b7d88 rfl) rfl (by show 2 * 0 + _ ≤ _; exact Nat.le_of_eq rfl) (hb hby at_53) (fun _ _ => ⟨rfl, e3, (by decide : 0 + 0 ≤ _), (by decide : 0 + 0 ≤ _)⟩)
    dsimp only [Pt.U, Pt.locs, Pt.cells, Pt.slots] at X4 l4 y4 z4 st4 hQ4
    subst l4 y4 z4
    obtain ⟨r, rfl, hrE, hrH, hrS, N4q, e4⟩ := hQ4
    have N4 := Fr.app N3 N4q
    refine ogo (fun t k => st4 t k) ?_
    show OwnEnds _ _ _ _ _ _ _ (T4.setTop (mkF m 56 #[.val (.int p0), .val (.int p1), .val (.int p2), .val (.int (0 : Int32)), .val (.ref w_HELD), .val (.int (0 : Int32)), .val (.ref (own_op ((p1 &&& (2147483647 : Int32)) % (6 : Int32)) w_DELIVER w_ACKNOWLEDGE w_PROBE w_RESPONSE w_CANCEL w_CANCELED_Operation))] [(.ref r)]))
    obtain ⟨cq5, kq5, q5a, q5b, q5c⟩ := isOf hZ e4 hrE
    obtain ⟨v5, _, ⟨T5, L5, k5, n5⟩, -, X5, ⟨Lc5, hQ5, l5, y5, z5⟩, st5⟩ := X4.virtualBack hx (y := (⟨"com/example/tidingsd/tidingsd/model/Notice$State", "isSettled", "()Z"⟩ : MethodName)) (z := (⟨"com/example/tidingsd/tidingsd/model/Notice$State", "isSettled", "()Z"⟩ : MethodName)) hown (mvT hZ (hw _ (List.mem_of_getElem? (i := 8) rfl))) (mvT hZ (hw _ (List.mem_of_getElem? (i := 9) rfl))) (notFace_of_selects (args := #[]) (mvT hZ (hw _ (List.mem_of_getElem? (i := 11) rfl)))) (mvT hZ (hw _ (List.mem_of_getElem? (i := 11) rfl))) (mvT hZ (hw _ (List.mem_of_getElem? (i := 10) rfl))) (by decide) (backOf (W := 0) (rm3 l Z a0 hw [] r w_HELD w_SENT h0 n0 Z0 S_HELD S_SENT) hZ (hw _ (List.mem_of_getElem? (i := 12) rfl)) (hw _ (List.mem_of_getElem? (i := 6) rfl)) (by decide) (by decide)) q5a q5c (g := (mkF m 56 #[.val (.int p0), .val (.int p1), .val (.int p2), .val (.int (0 : Int32)), .val (.ref w_HELD), .val (.int (0 : Int32)), .val (.ref (own_op ((p1 &&& (2147483647 : Int32)) % (6 : Int32)) w_DELIVER w_ACKNOWLEDGE w_PROBE w_RESPONSE w_CANCEL w_CANCELED_Operation))] [(.ref r)])) rfl (by rw [hml]; rfl) (Steps.refl _) (argsL := []) (rest := []) (lenOf pd___Z rfl) rfl (by show 2 * 0 + _ ≤ _; exact Nat.le_of_eq rfl) (hb hby at_56) (fun _ _ => ⟨rfl, e4, (by decide : 0 + 0 ≤ _), (by decide : 0 + 0 ≤ _)⟩)
    dsimp only [Pt.U, Pt.locs, Pt.cells, Pt.slots] at X5 l5 y5 z5 st5 hQ5
    subst l5 y5 z5
    obtain ⟨hv5, N5q, e5⟩ := hQ5
    obtain rfl : v5 = some (.int (1 : Int32)) := hv5.trans (by simp [hrH, hrS])
    have N5 := Fr.app N4 N5q
    refine ogo (fun t k => st5.trans k) ?_
    show OwnEnds _ _ _ _ _ _ _ (T5.setTop (mkF m 59 #[.val (.int p0), .val (.int p1), .val (.int p2), .val (.int (0 : Int32)), .val (.ref w_HELD), .val (.int (0 : Int32)), .val (.ref (own_op ((p1 &&& (2147483647 : Int32)) % (6 : Int32)) w_DELIVER w_ACKNOWLEDGE w_PROBE w_RESPONSE w_CANCEL w_CANCELED_Operation))] [(.int (1 : Int32))]))
    refine endZ X5 hx hlk Bd.returns rfl (hb hby at_59) (by decide) (by decide) ?_
    show Q0 Z p0 p1 p2 w_HELD w_RESPONSE w_OK w_MAILBOX_MOVED w_PROBE w_CANCEL w_FAILED w_SENT w_DELIVER w_MOVED w_MISSING w_FOUND w_REFUSED w_CANCELED_Operation w_ACKNOWLEDGE w_DELIVERED w_DONE w_CANCELED_Notice_State h0 n0 _ T5.heap _
    rw [e5]
    exact ⟨rfl, N5⟩
  · show OwnEnds _ _ _ _ _ _ _ (s₁.setTop (mkF m 7 #[.val (.int p0), .val (.int p1), .val (.int p2), .unset, .unset, .unset, .unset] [(.int (1 : Int32))]))
    refine ogo (fun t k => XS.istoreN X0.here hx rfl (hb hby at_7) rfl (l' := #[.val (.int p0), .val (.int p1), .val (.int p2), .val (.int (1 : Int32)), .unset, .unset, .unset]) rfl k) ?_
    show OwnEnds _ _ _ _ _ _ _ (s₁.setTop (mkF m 8 #[.val (.int p0), .val (.int p1), .val (.int p2), .val (.int (1 : Int32)), .unset, .unset, .unset] []))
    refine ogo (fun t k => XS.iloadN X0.here hx rfl (hb hby at_8) rfl k) ?_
    show OwnEnds _ _ _ _ _ _ _ (s₁.setTop (mkF m 9 #[.val (.int p0), .val (.int p1), .val (.int p2), .val (.int (1 : Int32)), .unset, .unset, .unset] [(.int (1 : Int32))]))
    obtain ⟨v6, _, ⟨T6, L6, k6, n6⟩, -, X6, ⟨Lc6, hQ6, l6, y6, z6⟩, st6⟩ := Jvm.LawKit.callS X0 hx (y := (⟨"com/example/tidingsd/tidingsd/model/StateIsSettledPinLaw", "state", "(I)Lcom/example/tidingsd/tidingsd/model/Notice$State;"⟩ : MethodName)) hown (mvT hZ (hw _ (List.mem_of_getElem? (i := 1) rfl))) (mvT hZ (hw _ (List.mem_of_getElem? (i := 2) rfl))) (mvT hZ (hw _ (List.mem_of_getElem? (i := 3) rfl))) (mvT hZ (hw _ (List.mem_of_getElem? (i := 4) rfl))) (by decide) (backOf (W := 0) (rm1 l Z a0 hw [] (1 : Int32) w_HELD w_SENT w_DELIVERED w_FAILED w_MOVED w_FOUND w_MISSING w_DONE w_REFUSED w_CANCELED_Notice_State h0 n0 Z0 S_HELD S_SENT S_DELIVERED S_FAILED S_MOVED S_FOUND S_MISSING S_DONE S_REFUSED S_CANCELED_Notice_State) hZ (hw _ (List.mem_of_getElem? (i := 4) rfl)) (hw _ (List.mem_of_getElem? (i := 3) rfl)) (by decide) (by decide)) (g := (mkF m 9 #[.val (.int p0), .val (.int p1), .val (.int p2), .val (.int (1 : Int32)), .unset, .unset, .unset] [(.int (1 : Int32))])) rfl (by rw [hml]; rfl) (argsL := [(.int (1 : Int32))]) (rest := []) (lenOf pd__I_Lcom_example_tidingsd_tidingsd_model_Notice_State_ rfl) rfl (by show 2 * 0 + _ ≤ _; exact Nat.le_of_eq rfl) (hb hby at_9) (fun _ _ => ⟨rfl, e0, (by decide : 0 + 0 ≤ _), (by decide : 0 + 0 ≤ _)⟩)
    dsimp only [Pt.U, Pt.locs, Pt.cells, Pt.slots] at X6 l6 y6 z6 st6 hQ6
    subst l6 y6 z6
    obtain ⟨hv6, N6q, e6⟩ := hQ6
    obtain rfl : v6 = some (.ref w_SENT) := hv6.trans (by simp [own_state])
    have N6 := Fr.app N0 N6q
    refine ogo (fun t k => st6 t k) ?_
    show OwnEnds _ _ _ _ _ _ _ (T6.setTop (mkF m 12 #[.val (.int p0), .val (.int p1), .val (.int p2), .val (.int (1 : Int32)), .unset, .unset, .unset] [(.ref w_SENT)]))
    refine ogo (fun t k => XS.astore X6.here hx rfl (hb hby at_12) rfl rfl (l' := #[.val (.int p0), .val (.int p1), .val (.int p2), .val (.int (1 : Int32)), .val (.ref w_SENT), .unset, .unset]) rfl k) ?_
    show OwnEnds _ _ _ _ _ _ _ (T6.setTop (mkF m 14 #[.val (.int p0), .val (.int p1), .val (.int p2), .val (.int (1 : Int32)), .val (.ref w_SENT), .unset, .unset] []))
    refine ogo (fun t k => XS.iloadN X6.here hx rfl (hb hby at_14) rfl k) ?_
    show OwnEnds _ _ _ _ _ _ _ (T6.setTop (mkF m 15 #[.val (.int p0), .val (.int p1), .val (.int p2), .val (.int (1 : Int32)), .val (.ref w_SENT), .unset, .unset] [(.int (1 : Int32))]))
    refine ogo (fun t k => XS.iconst X6.here hx rfl (hb hby at_15) k) ?_
    show OwnEnds _ _ _ _ _ _ _ (T6.setTop (mkF m 16 #[.val (.int p0), .val (.int p1), .val (.int p2), .val (.int (1 : Int32)), .val (.ref w_SENT), .unset, .unset] [(.int (2 : Int32)), (.int (1 : Int32))]))
    refine ogo (fun t k => XS.icmpYes X6.here hx rfl (pc0 := 16) (pc' := 23) rfl (hb hby at_16) rfl (tlt (by decide : (1 : Int32) < (2 : Int32))).1 (by decide) (by decide) k) ?_
    show OwnEnds _ _ _ _ _ _ _ (T6.setTop (mkF m 23 #[.val (.int p0), .val (.int p1), .val (.int p2), .val (.int (1 : Int32)), .val (.ref w_SENT), .unset, .unset] []))
    refine ogo (fun t k => XS.iconst X6.here hx rfl (hb hby at_23) k) ?_
    show OwnEnds _ _ _ _ _ _ _ (T6.setTop (mkF m 24 #[.val (.int p0), .val (.int p1), .val (.int p2), .val (.int (1 : Int32)), .val (.ref w_SENT), .unset, .unset] [(.int (0 : Int32))]))
    refine ogo (fun t k => XS.istore X6.here hx rfl (hb hby at_24) rfl (l' := #[.val (.int p0), .val (.int p1), .val (.int p2), .val (.int (1 : Int32)), .val (.ref w_SENT), .val (.int (0 : Int32)), .unset]) rfl k) ?_
    show OwnEnds _ _ _ _ _ _ _ (T6.setTop (mkF m 26 #[.val (.int p0), .val (.int p1), .val (.int p2), .val (.int (1 : Int32)), .val (.ref w_SENT), .val (.int (0 : Int32)), .unset] []))
    refine ogo (fun t k => XS.aload X6.here hx rfl (hb hby at_26) rfl rfl k) ?_
    show OwnEnds _ _ _ _ _ _ _ (T6.setTop (mkF m 28 #[.val (.int p0), .val (.int p1), .val (.int p2), .val (.int (1 : Int32)), .val (.ref w_SENT), .val (.int (0 : Int32)), .unset] [(.ref w_SENT)]))
    obtain ⟨cq7, kq7, q7a, q7b, q7c⟩ := isOf hZ e6 E_SENT
    obtain ⟨v7, _, ⟨T7, L7, k7, n7⟩, -, X7, ⟨Lc7, hQ7, l7, y7, z7⟩, st7⟩ := X6.virtualBack hx (y := (⟨"com/example/tidingsd/tidingsd/model/Notice$State", "isSettled", "()Z"⟩ : MethodName)) (z := (⟨"com/example/tidingsd/tidingsd/model/Notice$State", "isSettled", "()Z"⟩ : MethodName)) hown (mvT hZ (hw _ (List.mem_of_getElem? (i := 8) rfl))) (mvT hZ (hw _ (List.mem_of_getElem? (i := 9) rfl))) (notFace_of_selects (args := #[]) (mvT hZ (hw _ (List.mem_of_getElem? (i := 11) rfl)))) (mvT hZ (hw _ (List.mem_of_getElem? (i := 11) rfl))) (mvT hZ (hw _ (List.mem_of_getElem? (i := 10) rfl))) (by decide) (backOf (W := 0) (rm3 l Z a0 hw [] w_SENT w_HELD w_SENT h0 n0 Z0 S_HELD S_SENT) hZ (hw _ (List.mem_of_getElem? (i := 12) rfl)) (hw _ (List.mem_of_getElem? (i := 6) rfl)) (by decide) (by decide)) q7a q7c (g := (mkF m 28 #[.val (.int p0), .val (.int p1), .val (.int p2), .val (.int (1 : Int32)), .val (.ref w_SENT), .val (.int (0 : Int32)), .unset] [(.ref w_SENT)])) rfl (by rw [hml]; rfl) (Steps.refl _) (argsL := []) (rest := []) (lenOf pd___Z rfl) rfl (by show 2 * 0 + _ ≤ _; exact Nat.le_of_eq rfl) (hb hby at_28) (fun _ _ => ⟨rfl, e6, (by decide : 0 + 0 ≤ _), (by decide : 0 + 0 ≤ _)⟩)
    dsimp only [Pt.U, Pt.locs, Pt.cells, Pt.slots] at X7 l7 y7 z7 st7 hQ7
    subst l7 y7 z7
    obtain ⟨hv7, N7q, e7⟩ := hQ7
    obtain rfl : v7 = some (.int (0 : Int32)) := hv7.trans (by simp [(Fld.ne F_ordinal_SENT F_ordinal_HELD (by simp))])
    have N7 := Fr.app N6 N7q
    refine ogo (fun t k => st7.trans k) ?_
    show OwnEnds _ _ _ _ _ _ _ (T7.setTop (mkF m 31 #[.val (.int p0), .val (.int p1), .val (.int p2), .val (.int (1 : Int32)), .val (.ref w_SENT), .val (.int (0 : Int32)), .unset] [(.int (0 : Int32))]))
    refine ogo (fun t k => XS.iload X7.here hx rfl (hb hby at_31) rfl k) ?_
    show OwnEnds _ _ _ _ _ _ _ (T7.setTop (mkF m 33 #[.val (.int p0), .val (.int p1), .val (.int p2), .val (.int (1 : Int32)), .val (.ref w_SENT), .val (.int (0 : Int32)), .unset] [(.int (0 : Int32)), (.int (0 : Int32))]))
    refine ogo (fun t k => XS.icmpYes X7.here hx rfl (pc0 := 33) (pc' := 38) rfl (hb hby at_33) rfl (teq (by decide : (0 : Int32) = (0 : Int32))).1 (by decide) (by decide) k) ?_
    show OwnEnds _ _ _ _ _ _ _ (T7.setTop (mkF m 38 #[.val (.int p0), .val (.int p1), .val (.int p2), .val (.int (1 : Int32)), .val (.ref w_SENT), .val (.int (0 : Int32)), .unset] []))
    refine ogo (fun t k => XS.iloadN X7.here hx rfl (hb hby at_38) rfl k) ?_
    show OwnEnds _ _ _ _ _ _ _ (T7.setTop (mkF m 39 #[.val (.int p0), .val (.int p1), .val (.int p2), .val (.int (1 : Int32)), .val (.ref w_SENT), .val (.int (0 : Int32)), .unset] [(.int p1)]))
    refine ogo (fun t k => X7.ldcInt hx hown (mvT hZ (hw _ (List.mem_of_getElem? (i := 0) rfl))) (g := (mkF m 39 #[.val (.int p0), .val (.int p1), .val (.int p2), .val (.int (1 : Int32)), .val (.ref w_SENT), .val (.int (0 : Int32)), .unset] [(.int p1)])) rfl (hb hby at_39) t k) ?_
    show OwnEnds _ _ _ _ _ _ _ (T7.setTop (mkF m 41 #[.val (.int p0), .val (.int p1), .val (.int p2), .val (.int (1 : Int32)), .val (.ref w_SENT), .val (.int (0 : Int32)), .unset] [(.int (2147483647 : Int32)), (.int p1)]))
    refine ogo (fun t k => XS.iand X7.here hx rfl (hb hby at_41) rfl k) ?_
    show OwnEnds _ _ _ _ _ _ _ (T7.setTop (mkF m 42 #[.val (.int p0), .val (.int p1), .val (.int p2), .val (.int (1 : Int32)), .val (.ref w_SENT), .val (.int (0 : Int32)), .unset] [(.int (p1 &&& (2147483647 : Int32)))]))
    refine ogo (fun t k => XS.bipush X7.here hx rfl (hb hby at_42) k) ?_
    show OwnEnds _ _ _ _ _ _ _ (T7.setTop (mkF m 44 #[.val (.int p0), .val (.int p1), .val (.int p2), .val (.int (1 : Int32)), .val (.ref w_SENT), .val (.int (0 : Int32)), .unset] [(.int (6 : Int32)), (.int (p1 &&& (2147483647 : Int32)))]))
    refine ogo (fun t k => iremM (g := (mkF m 44 #[.val (.int p0), .val (.int p1), .val (.int p2), .val (.int (1 : Int32)), .val (.ref w_SENT), .val (.int (0 : Int32)), .unset] [(.int (6 : Int32)), (.int (p1 &&& (2147483647 : Int32)))])) X7 hx rfl (hb hby at_44) rfl (by decide) k) ?_
    show OwnEnds _ _ _ _ _ _ _ (T7.setTop (mkF m 45 #[.val (.int p0), .val (.int p1), .val (.int p2), .val (.int (1 : Int32)), .val (.ref w_SENT), .val (.int (0 : Int32)), .unset] [(.int ((p1 &&& (2147483647 : Int32)) % (6 : Int32)))]))
    obtain ⟨v8, _, ⟨T8, L8, k8, n8⟩, -, X8, ⟨Lc8, hQ8, l8, y8, z8⟩, st8⟩ := Jvm.LawKit.callS X7 hx (y := (⟨"com/example/tidingsd/tidingsd/model/StateIsSettledPinLaw", "op", "(I)Lcom/example/tidingsd/tidingsd/model/Operation;"⟩ : MethodName)) hown (mvT hZ (hw _ (List.mem_of_getElem? (i := 14) rfl))) (mvT hZ (hw _ (List.mem_of_getElem? (i := 15) rfl))) (mvT hZ (hw _ (List.mem_of_getElem? (i := 3) rfl))) (mvT hZ (hw _ (List.mem_of_getElem? (i := 16) rfl))) (by decide) (backOf (W := 0) (rm2 l Z a0 hw [] ((p1 &&& (2147483647 : Int32)) % (6 : Int32)) w_DELIVER w_ACKNOWLEDGE w_PROBE w_RESPONSE w_CANCEL w_CANCELED_Operation h0 n0 Z0 S_DELIVER S_ACKNOWLEDGE S_PROBE S_RESPONSE S_CANCEL S_CANCELED_Operation) hZ (hw _ (List.mem_of_getElem? (i := 16) rfl)) (hw _ (List.mem_of_getElem? (i := 3) rfl)) (by decide) (by decide)) (g := (mkF m 45 #[.val (.int p0), .val (.int p1), .val (.int p2), .val (.int (1 : Int32)), .val (.ref w_SENT), .val (.int (0 : Int32)), .unset] [(.int ((p1 &&& (2147483647 : Int32)) % (6 : Int32)))])) rfl (by rw [hml]; rfl) (argsL := [(.int ((p1 &&& (2147483647 : Int32)) % (6 : Int32)))]) (rest := []) (lenOf pd__I_Lcom_example_tidingsd_tidingsd_model_Operation_ rfl) rfl (by show 2 * 0 + _ ≤ _; exact Nat.le_of_eq rfl) (hb hby at_45) (fun _ _ => ⟨rfl, e7, (by decide : 0 + 0 ≤ _), (by decide : 0 + 0 ≤ _)⟩)
    dsimp only [Pt.U, Pt.locs, Pt.cells, Pt.slots] at X8 l8 y8 z8 st8 hQ8
    subst l8 y8 z8
    obtain ⟨rfl, N8q, e8⟩ := hQ8
    have N8 := Fr.app N7 N8q
    refine ogo (fun t k => st8 t k) ?_
    show OwnEnds _ _ _ _ _ _ _ (T8.setTop (mkF m 48 #[.val (.int p0), .val (.int p1), .val (.int p2), .val (.int (1 : Int32)), .val (.ref w_SENT), .val (.int (0 : Int32)), .unset] [(.ref (own_op ((p1 &&& (2147483647 : Int32)) % (6 : Int32)) w_DELIVER w_ACKNOWLEDGE w_PROBE w_RESPONSE w_CANCEL w_CANCELED_Operation))]))
    refine ogo (fun t k => XS.astore X8.here hx rfl (hb hby at_48) rfl rfl (l' := #[.val (.int p0), .val (.int p1), .val (.int p2), .val (.int (1 : Int32)), .val (.ref w_SENT), .val (.int (0 : Int32)), .val (.ref (own_op ((p1 &&& (2147483647 : Int32)) % (6 : Int32)) w_DELIVER w_ACKNOWLEDGE w_PROBE w_RESPONSE w_CANCEL w_CANCELED_Operation))]) rfl k) ?_
    show OwnEnds _ _ _ _ _ _ _ (T8.setTop (mkF m 50 #[.val (.int p0), .val (.int p1), .val (.int p2), .val (.int (1 : Int32)), .val (.ref w_SENT), .val (.int (0 : Int32)), .val (.ref (own_op ((p1 &&& (2147483647 : Int32)) % (6 : Int32)) w_DELIVER w_ACKNOWLEDGE w_PROBE w_RESPONSE w_CANCEL w_CANCELED_Operation))] []))
    refine ogo (fun t k => XS.aload X8.here hx rfl (hb hby at_50) rfl rfl k) ?_
    show OwnEnds _ _ _ _ _ _ _ (T8.setTop (mkF m 52 #[.val (.int p0), .val (.int p1), .val (.int p2), .val (.int (1 : Int32)), .val (.ref w_SENT), .val (.int (0 : Int32)), .val (.ref (own_op ((p1 &&& (2147483647 : Int32)) % (6 : Int32)) w_DELIVER w_ACKNOWLEDGE w_PROBE w_RESPONSE w_CANCEL w_CANCELED_Operation))] [(.ref (own_op ((p1 &&& (2147483647 : Int32)) % (6 : Int32)) w_DELIVER w_ACKNOWLEDGE w_PROBE w_RESPONSE w_CANCEL w_CANCELED_Operation))]))
    refine ogo (fun t k => XS.iloadN X8.here hx rfl (hb hby at_52) rfl k) ?_
    show OwnEnds _ _ _ _ _ _ _ (T8.setTop (mkF m 53 #[.val (.int p0), .val (.int p1), .val (.int p2), .val (.int (1 : Int32)), .val (.ref w_SENT), .val (.int (0 : Int32)), .val (.ref (own_op ((p1 &&& (2147483647 : Int32)) % (6 : Int32)) w_DELIVER w_ACKNOWLEDGE w_PROBE w_RESPONSE w_CANCEL w_CANCELED_Operation))] [(.int p2), (.ref (own_op ((p1 &&& (2147483647 : Int32)) % (6 : Int32)) w_DELIVER w_ACKNOWLEDGE w_PROBE w_RESPONSE w_CANCEL w_CANCELED_Operation))]))
    obtain ⟨v9, _, ⟨T9, L9, k9, n9⟩, -, X9, ⟨Lc9, hQ9, l9, y9, z9⟩, st9⟩ := Jvm.LawKit.callS X8 hx (y := (⟨"com/example/tidingsd/tidingsd/model/Notice$State", "settled", "(Lcom/example/tidingsd/tidingsd/model/Operation;I)Lcom/example/tidingsd/tidingsd/model/Notice$State;"⟩ : MethodName)) hown (mvT hZ (hw _ (List.mem_of_getElem? (i := 20) rfl))) (mvT hZ (hw _ (List.mem_of_getElem? (i := 21) rfl))) (mvT hZ (hw _ (List.mem_of_getElem? (i := 6) rfl))) (mvT hZ (hw _ (List.mem_of_getElem? (i := 22) rfl))) (by decide) (backOf (W := 0) (rm5 l Z a0 hw [] (own_op ((p1 &&& (2147483647 : Int32)) % (6 : Int32)) w_DELIVER w_ACKNOWLEDGE w_PROBE w_RESPONSE w_CANCEL w_CANCELED_Operation) p2 w_HELD w_RESPONSE w_OK w_MAILBOX_MOVED w_PROBE w_CANCEL w_FAILED w_SENT w_DELIVER w_MOVED w_MISSING w_FOUND w_REFUSED w_CANCELED_Operation w_ACKNOWLEDGE w_DELIVERED w_DONE w_CANCELED_Notice_State h0 n0 Z0 S_HELD E_HELD F_ordinal_HELD S_RESPONSE E_RESPONSE F_ordinal_RESPONSE S_OK E_OK F_errorClass_OK S_MAILBOX_MOVED E_MAILBOX_MOVED F_errorClass_MAILBOX_MOVED S_PROBE E_PROBE F_ordinal_PROBE S_CANCEL E_CANCEL F_ordinal_CANCEL S_FAILED E_FAILED F_ordinal_FAILED S_SENT E_SENT F_ordinal_SENT S_DELIVER E_DELIVER F_ordinal_DELIVER S_MOVED E_MOVED F_ordinal_MOVED S_MISSING E_MISSING F_ordinal_MISSING S_FOUND E_FOUND F_ordinal_FOUND S_REFUSED E_REFUSED F_ordinal_REFUSED S_CANCELED_Operation E_CANCELED_Operation F_ordinal_CANCELED_Operation S_ACKNOWLEDGE E_ACKNOWLEDGE F_ordinal_ACKNOWLEDGE S_DELIVERED E_DELIVERED F_ordinal_DELIVERED S_DONE E_DONE F_ordinal_DONE S_CANCELED_Notice_State E_CANCELED_Notice_State F_ordinal_CANCELED_Notice_State) hZ (hw _ (List.mem_of_getElem? (i := 22) rfl)) (hw _ (List.mem_of_getElem? (i := 6) rfl)) (by decide) (by decide)) (g := (mkF m 53 #[.val (.int p0), .val (.int p1), .val (.int p2), .val (.int (1 : Int32)), .val (.ref w_SENT), .val (.int (0 : Int32)), .val (.ref (own_op ((p1 &&& (2147483647 : Int32)) % (6 : Int32)) w_DELIVER w_ACKNOWLEDGE w_PROBE w_RESPONSE w_CANCEL w_CANCELED_Operation))] [(.int p2), (.ref (own_op ((p1 &&& (2147483647 : Int32)) % (6 : Int32)) w_DELIVER w_ACKNOWLEDGE w_PROBE w_RESPONSE w_CANCEL w_CANCELED_Operation))])) rfl (by rw [hml]; rfl) (argsL := [(.ref (own_op ((p1 &&& (2147483647 : Int32)) % (6 : Int32)) w_DELIVER w_ACKNOWLEDGE w_PROBE w_RESPONSE w_CANCEL w_CANCELED_Operation)), (.int p2)]) (rest := []) (lenOf pd_3a3b7d88 rfl) rfl (by show 2 * 0 + _ ≤ _; exact Nat.le_of_eq rfl) (hb hby at_53) (fun _ _ => ⟨rfl, e8, (by decide : 0 + 0 ≤ _), (by decide : 0 + 0 ≤ _)⟩)
    dsimp only [Pt.U, Pt.locs, Pt.cells, Pt.slots] at X9 l9 y9 z9 st9 hQ9
    subst l9 y9 z9
    obtain ⟨r, rfl, hrE, hrH, hrS, N9q, e9⟩ := hQ9
    have N9 := Fr.app N8 N9q
    refine ogo (fun t k => st9 t k) ?_
    show OwnEnds _ _ _ _ _ _ _ (T9.setTop (mkF m 56 #[.val (.int p0), .val (.int p1), .val (.int p2), .val (.int (1 : Int32)), .val (.ref w_SENT), .val (.int (0 : Int32)), .val (.ref (own_op ((p1 &&& (2147483647 : Int32)) % (6 : Int32)) w_DELIVER w_ACKNOWLEDGE w_PROBE w_RESPONSE w_CANCEL w_CANCELED_Operation))] [(.ref r)]))
    obtain ⟨cq10, kq10, q10a, q10b, q10c⟩ := isOf hZ e9 hrE
    obtain ⟨v10, _, ⟨T10, L10, k10, n10⟩, -, X10, ⟨Lc10, hQ10, l10, y10, z10⟩, st10⟩ := X9.virtualBack hx (y := (⟨"com/example/tidingsd/tidingsd/model/Notice$State", "isSettled", "()Z"⟩ : MethodName)) (z := (⟨"com/example/tidingsd/tidingsd/model/Notice$State", "isSettled", "()Z"⟩ : MethodName)) hown (mvT hZ (hw _ (List.mem_of_getElem? (i := 8) rfl))) (mvT hZ (hw _ (List.mem_of_getElem? (i := 9) rfl))) (notFace_of_selects (args := #[]) (mvT hZ (hw _ (List.mem_of_getElem? (i := 11) rfl)))) (mvT hZ (hw _ (List.mem_of_getElem? (i := 11) rfl))) (mvT hZ (hw _ (List.mem_of_getElem? (i := 10) rfl))) (by decide) (backOf (W := 0) (rm3 l Z a0 hw [] r w_HELD w_SENT h0 n0 Z0 S_HELD S_SENT) hZ (hw _ (List.mem_of_getElem? (i := 12) rfl)) (hw _ (List.mem_of_getElem? (i := 6) rfl)) (by decide) (by decide)) q10a q10c (g := (mkF m 56 #[.val (.int p0), .val (.int p1), .val (.int p2), .val (.int (1 : Int32)), .val (.ref w_SENT), .val (.int (0 : Int32)), .val (.ref (own_op ((p1 &&& (2147483647 : Int32)) % (6 : Int32)) w_DELIVER w_ACKNOWLEDGE w_PROBE w_RESPONSE w_CANCEL w_CANCELED_Operation))] [(.ref r)])) rfl (by rw [hml]; rfl) (Steps.refl _) (argsL := []) (rest := []) (lenOf pd___Z rfl) rfl (by show 2 * 0 + _ ≤ _; exact Nat.le_of_eq rfl) (hb hby at_56) (fun _ _ => ⟨rfl, e9, (by decide : 0 + 0 ≤ _), (by decide : 0 + 0 ≤ _)⟩)
    dsimp only [Pt.U, Pt.locs, Pt.cells, Pt.slots] at X10 l10 y10 z10 st10 hQ10
    subst l10 y10 z10
    obtain ⟨hv10, N10q, e10⟩ := hQ10
    obtain rfl : v10 = some (.int (1 : Int32)) := hv10.trans (by simp [hrH, hrS])
    have N10 := Fr.app N9 N10q
    refine ogo (fun t k => st10.trans k) ?_
    show OwnEnds _ _ _ _ _ _ _ (T10.setTop (mkF m 59 #[.val (.int p0), .val (.int p1), .val (.int p2), .val (.int (1 : Int32)), .val (.ref w_SENT), .val (.int (0 : Int32)), .val (.ref (own_op ((p1 &&& (2147483647 : Int32)) % (6 : Int32)) w_DELIVER w_ACKNOWLEDGE w_PROBE w_RESPONSE w_CANCEL w_CANCELED_Operation))] [(.int (1 : Int32))]))
    refine endZ X10 hx hlk Bd.returns rfl (hb hby at_59) (by decide) (by decide) ?_
    show Q0 Z p0 p1 p2 w_HELD w_RESPONSE w_OK w_MAILBOX_MOVED w_PROBE w_CANCEL w_FAILED w_SENT w_DELIVER w_MOVED w_MISSING w_FOUND w_REFUSED w_CANCELED_Operation w_ACKNOWLEDGE w_DELIVERED w_DONE w_CANCELED_Notice_State h0 n0 _ T10.heap _
    rw [e10]
    exact ⟨rfl, N10⟩
  · show OwnEnds _ _ _ _ _ _ _ (s₁.setTop (mkF m 7 #[.val (.int p0), .val (.int p1), .val (.int p2), .unset, .unset, .unset, .unset] [(.int (2 : Int32))]))
    refine ogo (fun t k => XS.istoreN X0.here hx rfl (hb hby at_7) rfl (l' := #[.val (.int p0), .val (.int p1), .val (.int p2), .val (.int (2 : Int32)), .unset, .unset, .unset]) rfl k) ?_
    show OwnEnds _ _ _ _ _ _ _ (s₁.setTop (mkF m 8 #[.val (.int p0), .val (.int p1), .val (.int p2), .val (.int (2 : Int32)), .unset, .unset, .unset] []))
    refine ogo (fun t k => XS.iloadN X0.here hx rfl (hb hby at_8) rfl k) ?_
    show OwnEnds _ _ _ _ _ _ _ (s₁.setTop (mkF m 9 #[.val (.int p0), .val (.int p1), .val (.int p2), .val (.int (2 : Int32)), .unset, .unset, .unset] [(.int (2 : Int32))]))
    obtain ⟨v11, _, ⟨T11, L11, k11, n11⟩, -, X11, ⟨Lc11, hQ11, l11, y11, z11⟩, st11⟩ := Jvm.LawKit.callS X0 hx (y := (⟨"com/example/tidingsd/tidingsd/model/StateIsSettledPinLaw", "state", "(I)Lcom/example/tidingsd/tidingsd/model/Notice$State;"⟩ : MethodName)) hown (mvT hZ (hw _ (List.mem_of_getElem? (i := 1) rfl))) (mvT hZ (hw _ (List.mem_of_getElem? (i := 2) rfl))) (mvT hZ (hw _ (List.mem_of_getElem? (i := 3) rfl))) (mvT hZ (hw _ (List.mem_of_getElem? (i := 4) rfl))) (by decide) (backOf (W := 0) (rm1 l Z a0 hw [] (2 : Int32) w_HELD w_SENT w_DELIVERED w_FAILED w_MOVED w_FOUND w_MISSING w_DONE w_REFUSED w_CANCELED_Notice_State h0 n0 Z0 S_HELD S_SENT S_DELIVERED S_FAILED S_MOVED S_FOUND S_MISSING S_DONE S_REFUSED S_CANCELED_Notice_State) hZ (hw _ (List.mem_of_getElem? (i := 4) rfl)) (hw _ (List.mem_of_getElem? (i := 3) rfl)) (by decide) (by decide)) (g := (mkF m 9 #[.val (.int p0), .val (.int p1), .val (.int p2), .val (.int (2 : Int32)), .unset, .unset, .unset] [(.int (2 : Int32))])) rfl (by rw [hml]; rfl) (argsL := [(.int (2 : Int32))]) (rest := []) (lenOf pd__I_Lcom_example_tidingsd_tidingsd_model_Notice_State_ rfl) rfl (by show 2 * 0 + _ ≤ _; exact Nat.le_of_eq rfl) (hb hby at_9) (fun _ _ => ⟨rfl, e0, (by decide : 0 + 0 ≤ _), (by decide : 0 + 0 ≤ _)⟩)
    dsimp only [Pt.U, Pt.locs, Pt.cells, Pt.slots] at X11 l11 y11 z11 st11 hQ11
    subst l11 y11 z11
    obtain ⟨hv11, N11q, e11⟩ := hQ11
    obtain rfl : v11 = some (.ref w_DELIVERED) := hv11.trans (by simp [own_state])
    have N11 := Fr.app N0 N11q
    refine ogo (fun t k => st11 t k) ?_
    show OwnEnds _ _ _ _ _ _ _ (T11.setTop (mkF m 12 #[.val (.int p0), .val (.int p1), .val (.int p2), .val (.int (2 : Int32)), .unset, .unset, .unset] [(.ref w_DELIVERED)]))
    refine ogo (fun t k => XS.astore X11.here hx rfl (hb hby at_12) rfl rfl (l' := #[.val (.int p0), .val (.int p1), .val (.int p2), .val (.int (2 : Int32)), .val (.ref w_DELIVERED), .unset, .unset]) rfl k) ?_
    show OwnEnds _ _ _ _ _ _ _ (T11.setTop (mkF m 14 #[.val (.int p0), .val (.int p1), .val (.int p2), .val (.int (2 : Int32)), .val (.ref w_DELIVERED), .unset, .unset] []))
    refine ogo (fun t k => XS.iloadN X11.here hx rfl (hb hby at_14) rfl k) ?_
    show OwnEnds _ _ _ _ _ _ _ (T11.setTop (mkF m 15 #[.val (.int p0), .val (.int p1), .val (.int p2), .val (.int (2 : Int32)), .val (.ref w_DELIVERED), .unset, .unset] [(.int (2 : Int32))]))
    refine ogo (fun t k => XS.iconst X11.here hx rfl (hb hby at_15) k) ?_
    show OwnEnds _ _ _ _ _ _ _ (T11.setTop (mkF m 16 #[.val (.int p0), .val (.int p1), .val (.int p2), .val (.int (2 : Int32)), .val (.ref w_DELIVERED), .unset, .unset] [(.int (2 : Int32)), (.int (2 : Int32))]))
    refine ogo (fun t k => XS.icmpNo X11.here hx rfl (hb hby at_16) rfl (flt (by decide : ¬ ((2 : Int32) < (2 : Int32)))).1 k) ?_
    show OwnEnds _ _ _ _ _ _ _ (T11.setTop (mkF m 19 #[.val (.int p0), .val (.int p1), .val (.int p2), .val (.int (2 : Int32)), .val (.ref w_DELIVERED), .unset, .unset] []))
    refine ogo (fun t k => XS.iconst X11.here hx rfl (hb hby at_19) k) ?_
    show OwnEnds _ _ _ _ _ _ _ (T11.setTop (mkF m 20 #[.val (.int p0), .val (.int p1), .val (.int p2), .val (.int (2 : Int32)), .val (.ref w_DELIVERED), .unset, .unset] [(.int (1 : Int32))]))
    refine ogo (fun t k => XS.goto X11.here hx rfl (pc0 := 20) (pc' := 24) rfl (hb hby at_20) (by decide) (by decide) k) ?_
    show OwnEnds _ _ _ _ _ _ _ (T11.setTop (mkF m 24 #[.val (.int p0), .val (.int p1), .val (.int p2), .val (.int (2 : Int32)), .val (.ref w_DELIVERED), .unset, .unset] [(.int (1 : Int32))]))
    refine ogo (fun t k => XS.istore X11.here hx rfl (hb hby at_24) rfl (l' := #[.val (.int p0), .val (.int p1), .val (.int p2), .val (.int (2 : Int32)), .val (.ref w_DELIVERED), .val (.int (1 : Int32)), .unset]) rfl k) ?_
    show OwnEnds _ _ _ _ _ _ _ (T11.setTop (mkF m 26 #[.val (.int p0), .val (.int p1), .val (.int p2), .val (.int (2 : Int32)), .val (.ref w_DELIVERED), .val (.int (1 : Int32)), .unset] []))
    refine ogo (fun t k => XS.aload X11.here hx rfl (hb hby at_26) rfl rfl k) ?_
    show OwnEnds _ _ _ _ _ _ _ (T11.setTop (mkF m 28 #[.val (.int p0), .val (.int p1), .val (.int p2), .val (.int (2 : Int32)), .val (.ref w_DELIVERED), .val (.int (1 : Int32)), .unset] [(.ref w_DELIVERED)]))
    obtain ⟨cq12, kq12, q12a, q12b, q12c⟩ := isOf hZ e11 E_DELIVERED
    obtain ⟨v12, _, ⟨T12, L12, k12, n12⟩, -, X12, ⟨Lc12, hQ12, l12, y12, z12⟩, st12⟩ := X11.virtualBack hx (y := (⟨"com/example/tidingsd/tidingsd/model/Notice$State", "isSettled", "()Z"⟩ : MethodName)) (z := (⟨"com/example/tidingsd/tidingsd/model/Notice$State", "isSettled", "()Z"⟩ : MethodName)) hown (mvT hZ (hw _ (List.mem_of_getElem? (i := 8) rfl))) (mvT hZ (hw _ (List.mem_of_getElem? (i := 9) rfl))) (notFace_of_selects (args := #[]) (mvT hZ (hw _ (List.mem_of_getElem? (i := 11) rfl)))) (mvT hZ (hw _ (List.mem_of_getElem? (i := 11) rfl))) (mvT hZ (hw _ (List.mem_of_getElem? (i := 10) rfl))) (by decide) (backOf (W := 0) (rm3 l Z a0 hw [] w_DELIVERED w_HELD w_SENT h0 n0 Z0 S_HELD S_SENT) hZ (hw _ (List.mem_of_getElem? (i := 12) rfl)) (hw _ (List.mem_of_getElem? (i := 6) rfl)) (by decide) (by decide)) q12a q12c (g := (mkF m 28 #[.val (.int p0), .val (.int p1), .val (.int p2), .val (.int (2 : Int32)), .val (.ref w_DELIVERED), .val (.int (1 : Int32)), .unset] [(.ref w_DELIVERED)])) rfl (by rw [hml]; rfl) (Steps.refl _) (argsL := []) (rest := []) (lenOf pd___Z rfl) rfl (by show 2 * 0 + _ ≤ _; exact Nat.le_of_eq rfl) (hb hby at_28) (fun _ _ => ⟨rfl, e11, (by decide : 0 + 0 ≤ _), (by decide : 0 + 0 ≤ _)⟩)
    dsimp only [Pt.U, Pt.locs, Pt.cells, Pt.slots] at X12 l12 y12 z12 st12 hQ12
    subst l12 y12 z12
    obtain ⟨hv12, N12q, e12⟩ := hQ12
    obtain rfl : v12 = some (.int (1 : Int32)) := hv12.trans (by simp [(Fld.ne F_ordinal_DELIVERED F_ordinal_HELD (by simp)), (Fld.ne F_ordinal_DELIVERED F_ordinal_SENT (by simp))])
    have N12 := Fr.app N11 N12q
    refine ogo (fun t k => st12.trans k) ?_
    show OwnEnds _ _ _ _ _ _ _ (T12.setTop (mkF m 31 #[.val (.int p0), .val (.int p1), .val (.int p2), .val (.int (2 : Int32)), .val (.ref w_DELIVERED), .val (.int (1 : Int32)), .unset] [(.int (1 : Int32))]))
    refine ogo (fun t k => XS.iload X12.here hx rfl (hb hby at_31) rfl k) ?_
    show OwnEnds _ _ _ _ _ _ _ (T12.setTop (mkF m 33 #[.val (.int p0), .val (.int p1), .val (.int p2), .val (.int (2 : Int32)), .val (.ref w_DELIVERED), .val (.int (1 : Int32)), .unset] [(.int (1 : Int32)), (.int (1 : Int32))]))
    refine ogo (fun t k => XS.icmpYes X12.here hx rfl (pc0 := 33) (pc' := 38) rfl (hb hby at_33) rfl (teq (by decide : (1 : Int32) = (1 : Int32))).1 (by decide) (by decide) k) ?_
    show OwnEnds _ _ _ _ _ _ _ (T12.setTop (mkF m 38 #[.val (.int p0), .val (.int p1), .val (.int p2), .val (.int (2 : Int32)), .val (.ref w_DELIVERED), .val (.int (1 : Int32)), .unset] []))
    refine ogo (fun t k => XS.iloadN X12.here hx rfl (hb hby at_38) rfl k) ?_
    show OwnEnds _ _ _ _ _ _ _ (T12.setTop (mkF m 39 #[.val (.int p0), .val (.int p1), .val (.int p2), .val (.int (2 : Int32)), .val (.ref w_DELIVERED), .val (.int (1 : Int32)), .unset] [(.int p1)]))
    refine ogo (fun t k => X12.ldcInt hx hown (mvT hZ (hw _ (List.mem_of_getElem? (i := 0) rfl))) (g := (mkF m 39 #[.val (.int p0), .val (.int p1), .val (.int p2), .val (.int (2 : Int32)), .val (.ref w_DELIVERED), .val (.int (1 : Int32)), .unset] [(.int p1)])) rfl (hb hby at_39) t k) ?_
    show OwnEnds _ _ _ _ _ _ _ (T12.setTop (mkF m 41 #[.val (.int p0), .val (.int p1), .val (.int p2), .val (.int (2 : Int32)), .val (.ref w_DELIVERED), .val (.int (1 : Int32)), .unset] [(.int (2147483647 : Int32)), (.int p1)]))
    refine ogo (fun t k => XS.iand X12.here hx rfl (hb hby at_41) rfl k) ?_
    show OwnEnds _ _ _ _ _ _ _ (T12.setTop (mkF m 42 #[.val (.int p0), .val (.int p1), .val (.int p2), .val (.int (2 : Int32)), .val (.ref w_DELIVERED), .val (.int (1 : Int32)), .unset] [(.int (p1 &&& (2147483647 : Int32)))]))
    refine ogo (fun t k => XS.bipush X12.here hx rfl (hb hby at_42) k) ?_
    show OwnEnds _ _ _ _ _ _ _ (T12.setTop (mkF m 44 #[.val (.int p0), .val (.int p1), .val (.int p2), .val (.int (2 : Int32)), .val (.ref w_DELIVERED), .val (.int (1 : Int32)), .unset] [(.int (6 : Int32)), (.int (p1 &&& (2147483647 : Int32)))]))
    refine ogo (fun t k => iremM (g := (mkF m 44 #[.val (.int p0), .val (.int p1), .val (.int p2), .val (.int (2 : Int32)), .val (.ref w_DELIVERED), .val (.int (1 : Int32)), .unset] [(.int (6 : Int32)), (.int (p1 &&& (2147483647 : Int32)))])) X12 hx rfl (hb hby at_44) rfl (by decide) k) ?_
    show OwnEnds _ _ _ _ _ _ _ (T12.setTop (mkF m 45 #[.val (.int p0), .val (.int p1), .val (.int p2), .val (.int (2 : Int32)), .val (.ref w_DELIVERED), .val (.int (1 : Int32)), .unset] [(.int ((p1 &&& (2147483647 : Int32)) % (6 : Int32)))]))
    obtain ⟨v13, _, ⟨T13, L13, k13, n13⟩, -, X13, ⟨Lc13, hQ13, l13, y13, z13⟩, st13⟩ := Jvm.LawKit.callS X12 hx (y := (⟨"com/example/tidingsd/tidingsd/model/StateIsSettledPinLaw", "op", "(I)Lcom/example/tidingsd/tidingsd/model/Operation;"⟩ : MethodName)) hown (mvT hZ (hw _ (List.mem_of_getElem? (i := 14) rfl))) (mvT hZ (hw _ (List.mem_of_getElem? (i := 15) rfl))) (mvT hZ (hw _ (List.mem_of_getElem? (i := 3) rfl))) (mvT hZ (hw _ (List.mem_of_getElem? (i := 16) rfl))) (by decide) (backOf (W := 0) (rm2 l Z a0 hw [] ((p1 &&& (2147483647 : Int32)) % (6 : Int32)) w_DELIVER w_ACKNOWLEDGE w_PROBE w_RESPONSE w_CANCEL w_CANCELED_Operation h0 n0 Z0 S_DELIVER S_ACKNOWLEDGE S_PROBE S_RESPONSE S_CANCEL S_CANCELED_Operation) hZ (hw _ (List.mem_of_getElem? (i := 16) rfl)) (hw _ (List.mem_of_getElem? (i := 3) rfl)) (by decide) (by decide)) (g := (mkF m 45 #[.val (.int p0), .val (.int p1), .val (.int p2), .val (.int (2 : Int32)), .val (.ref w_DELIVERED), .val (.int (1 : Int32)), .unset] [(.int ((p1 &&& (2147483647 : Int32)) % (6 : Int32)))])) rfl (by rw [hml]; rfl) (argsL := [(.int ((p1 &&& (2147483647 : Int32)) % (6 : Int32)))]) (rest := []) (lenOf pd__I_Lcom_example_tidingsd_tidingsd_model_Operation_ rfl) rfl (by show 2 * 0 + _ ≤ _; exact Nat.le_of_eq rfl) (hb hby at_45) (fun _ _ => ⟨rfl, e12, (by decide : 0 + 0 ≤ _), (by decide : 0 + 0 ≤ _)⟩)
    dsimp only [Pt.U, Pt.locs, Pt.cells, Pt.slots] at X13 l13 y13 z13 st13 hQ13
    subst l13 y13 z13
    obtain ⟨rfl, N13q, e13⟩ := hQ13
    have N13 := Fr.app N12 N13q
    refine ogo (fun t k => st13 t k) ?_
    show OwnEnds _ _ _ _ _ _ _ (T13.setTop (mkF m 48 #[.val (.int p0), .val (.int p1), .val (.int p2), .val (.int (2 : Int32)), .val (.ref w_DELIVERED), .val (.int (1 : Int32)), .unset] [(.ref (own_op ((p1 &&& (2147483647 : Int32)) % (6 : Int32)) w_DELIVER w_ACKNOWLEDGE w_PROBE w_RESPONSE w_CANCEL w_CANCELED_Operation))]))
    refine ogo (fun t k => XS.astore X13.here hx rfl (hb hby at_48) rfl rfl (l' := #[.val (.int p0), .val (.int p1), .val (.int p2), .val (.int (2 : Int32)), .val (.ref w_DELIVERED), .val (.int (1 : Int32)), .val (.ref (own_op ((p1 &&& (2147483647 : Int32)) % (6 : Int32)) w_DELIVER w_ACKNOWLEDGE w_PROBE w_RESPONSE w_CANCEL w_CANCELED_Operation))]) rfl k) ?_
    show OwnEnds _ _ _ _ _ _ _ (T13.setTop (mkF m 50 #[.val (.int p0), .val (.int p1), .val (.int p2), .val (.int (2 : Int32)), .val (.ref w_DELIVERED), .val (.int (1 : Int32)), .val (.ref (own_op ((p1 &&& (2147483647 : Int32)) % (6 : Int32)) w_DELIVER w_ACKNOWLEDGE w_PROBE w_RESPONSE w_CANCEL w_CANCELED_Operation))] []))
    refine ogo (fun t k => XS.aload X13.here hx rfl (hb hby at_50) rfl rfl k) ?_
    show OwnEnds _ _ _ _ _ _ _ (T13.setTop (mkF m 52 #[.val (.int p0), .val (.int p1), .val (.int p2), .val (.int (2 : Int32)), .val (.ref w_DELIVERED), .val (.int (1 : Int32)), .val (.ref (own_op ((p1 &&& (2147483647 : Int32)) % (6 : Int32)) w_DELIVER w_ACKNOWLEDGE w_PROBE w_RESPONSE w_CANCEL w_CANCELED_Operation))] [(.ref (own_op ((p1 &&& (2147483647 : Int32)) % (6 : Int32)) w_DELIVER w_ACKNOWLEDGE w_PROBE w_RESPONSE w_CANCEL w_CANCELED_Operation))]))
    refine ogo (fun t k => XS.iloadN X13.here hx rfl (hb hby at_52) rfl k) ?_
    show OwnEnds _ _ _ _ _ _ _ (T13.setTop (mkF m 53 #[.val (.int p0), .val (.int p1), .val (.int p2), .val (.int (2 : Int32)), .val (.ref w_DELIVERED), .val (.int (1 : Int32)), .val (.ref (own_op ((p1 &&& (2147483647 : Int32)) % (6 : Int32)) w_DELIVER w_ACKNOWLEDGE w_PROBE w_RESPONSE w_CANCEL w_CANCELED_Operation))] [(.int p2), (.ref (own_op ((p1 &&& (2147483647 : Int32)) % (6 : Int32)) w_DELIVER w_ACKNOWLEDGE w_PROBE w_RESPONSE w_CANCEL w_CANCELED_Operation))]))
    obtain ⟨v14, _, ⟨T14, L14, k14, n14⟩, -, X14, ⟨Lc14, hQ14, l14, y14, z14⟩, st14⟩ := Jvm.LawKit.callS X13 hx (y := (⟨"com/example/tidingsd/tidingsd/model/Notice$State", "settled", "(Lcom/example/tidingsd/tidingsd/model/Operation;I)Lcom/example/tidingsd/tidingsd/model/Notice$State;"⟩ : MethodName)) hown (mvT hZ (hw _ (List.mem_of_getElem? (i := 20) rfl))) (mvT hZ (hw _ (List.mem_of_getElem? (i := 21) rfl))) (mvT hZ (hw _ (List.mem_of_getElem? (i := 6) rfl))) (mvT hZ (hw _ (List.mem_of_getElem? (i := 22) rfl))) (by decide) (backOf (W := 0) (rm5 l Z a0 hw [] (own_op ((p1 &&& (2147483647 : Int32)) % (6 : Int32)) w_DELIVER w_ACKNOWLEDGE w_PROBE w_RESPONSE w_CANCEL w_CANCELED_Operation) p2 w_HELD w_RESPONSE w_OK w_MAILBOX_MOVED w_PROBE w_CANCEL w_FAILED w_SENT w_DELIVER w_MOVED w_MISSING w_FOUND w_REFUSED w_CANCELED_Operation w_ACKNOWLEDGE w_DELIVERED w_DONE w_CANCELED_Notice_State h0 n0 Z0 S_HELD E_HELD F_ordinal_HELD S_RESPONSE E_RESPONSE F_ordinal_RESPONSE S_OK E_OK F_errorClass_OK S_MAILBOX_MOVED E_MAILBOX_MOVED F_errorClass_MAILBOX_MOVED S_PROBE E_PROBE F_ordinal_PROBE S_CANCEL E_CANCEL F_ordinal_CANCEL S_FAILED E_FAILED F_ordinal_FAILED S_SENT E_SENT F_ordinal_SENT S_DELIVER E_DELIVER F_ordinal_DELIVER S_MOVED E_MOVED F_ordinal_MOVED S_MISSING E_MISSING F_ordinal_MISSING S_FOUND E_FOUND F_ordinal_FOUND S_REFUSED E_REFUSED F_ordinal_REFUSED S_CANCELED_Operation E_CANCELED_Operation F_ordinal_CANCELED_Operation S_ACKNOWLEDGE E_ACKNOWLEDGE F_ordinal_ACKNOWLEDGE S_DELIVERED E_DELIVERED F_ordinal_DELIVERED S_DONE E_DONE F_ordinal_DONE S_CANCELED_Notice_State E_CANCELED_Notice_State F_ordinal_CANCELED_Notice_State) hZ (hw _ (List.mem_of_getElem? (i := 22) rfl)) (hw _ (List.mem_of_getElem? (i := 6) rfl)) (by decide) (by decide)) (g := (mkF m 53 #[.val (.int p0), .val (.int p1), .val (.int p2), .val (.int (2 : Int32)), .val (.ref w_DELIVERED), .val (.int (1 : Int32)), .val (.ref (own_op ((p1 &&& (2147483647 : Int32)) % (6 : Int32)) w_DELIVER w_ACKNOWLEDGE w_PROBE w_RESPONSE w_CANCEL w_CANCELED_Operation))] [(.int p2), (.ref (own_op ((p1 &&& (2147483647 : Int32)) % (6 : Int32)) w_DELIVER w_ACKNOWLEDGE w_PROBE w_RESPONSE w_CANCEL w_CANCELED_Operation))])) rfl (by rw [hml]; rfl) (argsL := [(.ref (own_op ((p1 &&& (2147483647 : Int32)) % (6 : Int32)) w_DELIVER w_ACKNOWLEDGE w_PROBE w_RESPONSE w_CANCEL w_CANCELED_Operation)), (.int p2)]) (rest := []) (lenOf pd_3a3b7d88 rfl) rfl (by show 2 * 0 + _ ≤ _; exact Nat.le_of_eq rfl) (hb hby at_53) (fun _ _ => ⟨rfl, e13, (by decide : 0 + 0 ≤ _), (by decide : 0 + 0 ≤ _)⟩)
    dsimp only [Pt.U, Pt.locs, Pt.cells, Pt.slots] at X14 l14 y14 z14 st14 hQ14
    subst l14 y14 z14
    obtain ⟨r, rfl, hrE, hrH, hrS, N14q, e14⟩ := hQ14
    have N14 := Fr.app N13 N14q
    refine ogo (fun t k => st14 t k) ?_
    show OwnEnds _ _ _ _ _ _ _ (T14.setTop (mkF m 56 #[.val (.int p0), .val (.int p1), .val (.int p2), .val (.int (2 : Int32)), .val (.ref w_DELIVERED), .val (.int (1 : Int32)), .val (.ref (own_op ((p1 &&& (2147483647 : Int32)) % (6 : Int32)) w_DELIVER w_ACKNOWLEDGE w_PROBE w_RESPONSE w_CANCEL w_CANCELED_Operation))] [(.ref r)]))
    obtain ⟨cq15, kq15, q15a, q15b, q15c⟩ := isOf hZ e14 hrE
    obtain ⟨v15, _, ⟨T15, L15, k15, n15⟩, -, X15, ⟨Lc15, hQ15, l15, y15, z15⟩, st15⟩ := X14.virtualBack hx (y := (⟨"com/example/tidingsd/tidingsd/model/Notice$State", "isSettled", "()Z"⟩ : MethodName)) (z := (⟨"com/example/tidingsd/tidingsd/model/Notice$State", "isSettled", "()Z"⟩ : MethodName)) hown (mvT hZ (hw _ (List.mem_of_getElem? (i := 8) rfl))) (mvT hZ (hw _ (List.mem_of_getElem? (i := 9) rfl))) (notFace_of_selects (args := #[]) (mvT hZ (hw _ (List.mem_of_getElem? (i := 11) rfl)))) (mvT hZ (hw _ (List.mem_of_getElem? (i := 11) rfl))) (mvT hZ (hw _ (List.mem_of_getElem? (i := 10) rfl))) (by decide) (backOf (W := 0) (rm3 l Z a0 hw [] r w_HELD w_SENT h0 n0 Z0 S_HELD S_SENT) hZ (hw _ (List.mem_of_getElem? (i := 12) rfl)) (hw _ (List.mem_of_getElem? (i := 6) rfl)) (by decide) (by decide)) q15a q15c (g := (mkF m 56 #[.val (.int p0), .val (.int p1), .val (.int p2), .val (.int (2 : Int32)), .val (.ref w_DELIVERED), .val (.int (1 : Int32)), .val (.ref (own_op ((p1 &&& (2147483647 : Int32)) % (6 : Int32)) w_DELIVER w_ACKNOWLEDGE w_PROBE w_RESPONSE w_CANCEL w_CANCELED_Operation))] [(.ref r)])) rfl (by rw [hml]; rfl) (Steps.refl _) (argsL := []) (rest := []) (lenOf pd___Z rfl) rfl (by show 2 * 0 + _ ≤ _; exact Nat.le_of_eq rfl) (hb hby at_56) (fun _ _ => ⟨rfl, e14, (by decide : 0 + 0 ≤ _), (by decide : 0 + 0 ≤ _)⟩)
    dsimp only [Pt.U, Pt.locs, Pt.cells, Pt.slots] at X15 l15 y15 z15 st15 hQ15
    subst l15 y15 z15
    obtain ⟨hv15, N15q, e15⟩ := hQ15
    obtain rfl : v15 = some (.int (1 : Int32)) := hv15.trans (by simp [hrH, hrS])
    have N15 := Fr.app N14 N15q
    refine ogo (fun t k => st15.trans k) ?_
    show OwnEnds _ _ _ _ _ _ _ (T15.setTop (mkF m 59 #[.val (.int p0), .val (.int p1), .val (.int p2), .val (.int (2 : Int32)), .val (.ref w_DELIVERED), .val (.int (1 : Int32)), .val (.ref (own_op ((p1 &&& (2147483647 : Int32)) % (6 : Int32)) w_DELIVER w_ACKNOWLEDGE w_PROBE w_RESPONSE w_CANCEL w_CANCELED_Operation))] [(.int (1 : Int32))]))
    refine endZ X15 hx hlk Bd.returns rfl (hb hby at_59) (by decide) (by decide) ?_
    show Q0 Z p0 p1 p2 w_HELD w_RESPONSE w_OK w_MAILBOX_MOVED w_PROBE w_CANCEL w_FAILED w_SENT w_DELIVER w_MOVED w_MISSING w_FOUND w_REFUSED w_CANCELED_Operation w_ACKNOWLEDGE w_DELIVERED w_DONE w_CANCELED_Notice_State h0 n0 _ T15.heap _
    rw [e15]
    exact ⟨rfl, N15⟩
  · show OwnEnds _ _ _ _ _ _ _ (s₁.setTop (mkF m 7 #[.val (.int p0), .val (.int p1), .val (.int p2), .unset, .unset, .unset, .unset] [(.int (3 : Int32))]))
    refine ogo (fun t k => XS.istoreN X0.here hx rfl (hb hby at_7) rfl (l' := #[.val (.int p0), .val (.int p1), .val (.int p2), .val (.int (3 : Int32)), .unset, .unset, .unset]) rfl k) ?_
    show OwnEnds _ _ _ _ _ _ _ (s₁.setTop (mkF m 8 #[.val (.int p0), .val (.int p1), .val (.int p2), .val (.int (3 : Int32)), .unset, .unset, .unset] []))
    refine ogo (fun t k => XS.iloadN X0.here hx rfl (hb hby at_8) rfl k) ?_
    show OwnEnds _ _ _ _ _ _ _ (s₁.setTop (mkF m 9 #[.val (.int p0), .val (.int p1), .val (.int p2), .val (.int (3 : Int32)), .unset, .unset, .unset] [(.int (3 : Int32))]))
    obtain ⟨v16, _, ⟨T16, L16, k16, n16⟩, -, X16, ⟨Lc16, hQ16, l16, y16, z16⟩, st16⟩ := Jvm.LawKit.callS X0 hx (y := (⟨"com/example/tidingsd/tidingsd/model/StateIsSettledPinLaw", "state", "(I)Lcom/example/tidingsd/tidingsd/model/Notice$State;"⟩ : MethodName)) hown (mvT hZ (hw _ (List.mem_of_getElem? (i := 1) rfl))) (mvT hZ (hw _ (List.mem_of_getElem? (i := 2) rfl))) (mvT hZ (hw _ (List.mem_of_getElem? (i := 3) rfl))) (mvT hZ (hw _ (List.mem_of_getElem? (i := 4) rfl))) (by decide) (backOf (W := 0) (rm1 l Z a0 hw [] (3 : Int32) w_HELD w_SENT w_DELIVERED w_FAILED w_MOVED w_FOUND w_MISSING w_DONE w_REFUSED w_CANCELED_Notice_State h0 n0 Z0 S_HELD S_SENT S_DELIVERED S_FAILED S_MOVED S_FOUND S_MISSING S_DONE S_REFUSED S_CANCELED_Notice_State) hZ (hw _ (List.mem_of_getElem? (i := 4) rfl)) (hw _ (List.mem_of_getElem? (i := 3) rfl)) (by decide) (by decide)) (g := (mkF m 9 #[.val (.int p0), .val (.int p1), .val (.int p2), .val (.int (3 : Int32)), .unset, .unset, .unset] [(.int (3 : Int32))])) rfl (by rw [hml]; rfl) (argsL := [(.int (3 : Int32))]) (rest := []) (lenOf pd__I_Lcom_example_tidingsd_tidingsd_model_Notice_State_ rfl) rfl (by show 2 * 0 + _ ≤ _; exact Nat.le_of_eq rfl) (hb hby at_9) (fun _ _ => ⟨rfl, e0, (by decide : 0 + 0 ≤ _), (by decide : 0 + 0 ≤ _)⟩)
    dsimp only [Pt.U, Pt.locs, Pt.cells, Pt.slots] at X16 l16 y16 z16 st16 hQ16
    subst l16 y16 z16
    obtain ⟨hv16, N16q, e16⟩ := hQ16
    obtain rfl : v16 = some (.ref w_FAILED) := hv16.trans (by simp [own_state])
    have N16 := Fr.app N0 N16q
    refine ogo (fun t k => st16 t k) ?_
    show OwnEnds _ _ _ _ _ _ _ (T16.setTop (mkF m 12 #[.val (.int p0), .val (.int p1), .val (.int p2), .val (.int (3 : Int32)), .unset, .unset, .unset] [(.ref w_FAILED)]))
    refine ogo (fun t k => XS.astore X16.here hx rfl (hb hby at_12) rfl rfl (l' := #[.val (.int p0), .val (.int p1), .val (.int p2), .val (.int (3 : Int32)), .val (.ref w_FAILED), .unset, .unset]) rfl k) ?_
    show OwnEnds _ _ _ _ _ _ _ (T16.setTop (mkF m 14 #[.val (.int p0), .val (.int p1), .val (.int p2), .val (.int (3 : Int32)), .val (.ref w_FAILED), .unset, .unset] []))
    refine ogo (fun t k => XS.iloadN X16.here hx rfl (hb hby at_14) rfl k) ?_
    show OwnEnds _ _ _ _ _ _ _ (T16.setTop (mkF m 15 #[.val (.int p0), .val (.int p1), .val (.int p2), .val (.int (3 : Int32)), .val (.ref w_FAILED), .unset, .unset] [(.int (3 : Int32))]))
    refine ogo (fun t k => XS.iconst X16.here hx rfl (hb hby at_15) k) ?_
    show OwnEnds _ _ _ _ _ _ _ (T16.setTop (mkF m 16 #[.val (.int p0), .val (.int p1), .val (.int p2), .val (.int (3 : Int32)), .val (.ref w_FAILED), .unset, .unset] [(.int (2 : Int32)), (.int (3 : Int32))]))
    refine ogo (fun t k => XS.icmpNo X16.here hx rfl (hb hby at_16) rfl (flt (by decide : ¬ ((3 : Int32) < (2 : Int32)))).1 k) ?_
    show OwnEnds _ _ _ _ _ _ _ (T16.setTop (mkF m 19 #[.val (.int p0), .val (.int p1), .val (.int p2), .val (.int (3 : Int32)), .val (.ref w_FAILED), .unset, .unset] []))
    refine ogo (fun t k => XS.iconst X16.here hx rfl (hb hby at_19) k) ?_
    show OwnEnds _ _ _ _ _ _ _ (T16.setTop (mkF m 20 #[.val (.int p0), .val (.int p1), .val (.int p2), .val (.int (3 : Int32)), .val (.ref w_FAILED), .unset, .unset] [(.int (1 : Int32))]))
    refine ogo (fun t k => XS.goto X16.here hx rfl (pc0 := 20) (pc' := 24) rfl (hb hby at_20) (by decide) (by decide) k) ?_
    show OwnEnds _ _ _ _ _ _ _ (T16.setTop (mkF m 24 #[.val (.int p0), .val (.int p1), .val (.int p2), .val (.int (3 : Int32)), .val (.ref w_FAILED), .unset, .unset] [(.int (1 : Int32))]))
    refine ogo (fun t k => XS.istore X16.here hx rfl (hb hby at_24) rfl (l' := #[.val (.int p0), .val (.int p1), .val (.int p2), .val (.int (3 : Int32)), .val (.ref w_FAILED), .val (.int (1 : Int32)), .unset]) rfl k) ?_
    show OwnEnds _ _ _ _ _ _ _ (T16.setTop (mkF m 26 #[.val (.int p0), .val (.int p1), .val (.int p2), .val (.int (3 : Int32)), .val (.ref w_FAILED), .val (.int (1 : Int32)), .unset] []))
    refine ogo (fun t k => XS.aload X16.here hx rfl (hb hby at_26) rfl rfl k) ?_
    show OwnEnds _ _ _ _ _ _ _ (T16.setTop (mkF m 28 #[.val (.int p0), .val (.int p1), .val (.int p2), .val (.int (3 : Int32)), .val (.ref w_FAILED), .val (.int (1 : Int32)), .unset] [(.ref w_FAILED)]))
    obtain ⟨cq17, kq17, q17a, q17b, q17c⟩ := isOf hZ e16 E_FAILED
    obtain ⟨v17, _, ⟨T17, L17, k17, n17⟩, -, X17, ⟨Lc17, hQ17, l17, y17, z17⟩, st17⟩ := X16.virtualBack hx (y := (⟨"com/example/tidingsd/tidingsd/model/Notice$State", "isSettled", "()Z"⟩ : MethodName)) (z := (⟨"com/example/tidingsd/tidingsd/model/Notice$State", "isSettled", "()Z"⟩ : MethodName)) hown (mvT hZ (hw _ (List.mem_of_getElem? (i := 8) rfl))) (mvT hZ (hw _ (List.mem_of_getElem? (i := 9) rfl))) (notFace_of_selects (args := #[]) (mvT hZ (hw _ (List.mem_of_getElem? (i := 11) rfl)))) (mvT hZ (hw _ (List.mem_of_getElem? (i := 11) rfl))) (mvT hZ (hw _ (List.mem_of_getElem? (i := 10) rfl))) (by decide) (backOf (W := 0) (rm3 l Z a0 hw [] w_FAILED w_HELD w_SENT h0 n0 Z0 S_HELD S_SENT) hZ (hw _ (List.mem_of_getElem? (i := 12) rfl)) (hw _ (List.mem_of_getElem? (i := 6) rfl)) (by decide) (by decide)) q17a q17c (g := (mkF m 28 #[.val (.int p0), .val (.int p1), .val (.int p2), .val (.int (3 : Int32)), .val (.ref w_FAILED), .val (.int (1 : Int32)), .unset] [(.ref w_FAILED)])) rfl (by rw [hml]; rfl) (Steps.refl _) (argsL := []) (rest := []) (lenOf pd___Z rfl) rfl (by show 2 * 0 + _ ≤ _; exact Nat.le_of_eq rfl) (hb hby at_28) (fun _ _ => ⟨rfl, e16, (by decide : 0 + 0 ≤ _), (by decide : 0 + 0 ≤ _)⟩)
    dsimp only [Pt.U, Pt.locs, Pt.cells, Pt.slots] at X17 l17 y17 z17 st17 hQ17
    subst l17 y17 z17
    obtain ⟨hv17, N17q, e17⟩ := hQ17
    obtain rfl : v17 = some (.int (1 : Int32)) := hv17.trans (by simp [(Fld.ne F_ordinal_FAILED F_ordinal_HELD (by simp)), (Fld.ne F_ordinal_FAILED F_ordinal_SENT (by simp))])
    have N17 := Fr.app N16 N17q
    refine ogo (fun t k => st17.trans k) ?_
    show OwnEnds _ _ _ _ _ _ _ (T17.setTop (mkF m 31 #[.val (.int p0), .val (.int p1), .val (.int p2), .val (.int (3 : Int32)), .val (.ref w_FAILED), .val (.int (1 : Int32)), .unset] [(.int (1 : Int32))]))
    refine ogo (fun t k => XS.iload X17.here hx rfl (hb hby at_31) rfl k) ?_
    show OwnEnds _ _ _ _ _ _ _ (T17.setTop (mkF m 33 #[.val (.int p0), .val (.int p1), .val (.int p2), .val (.int (3 : Int32)), .val (.ref w_FAILED), .val (.int (1 : Int32)), .unset] [(.int (1 : Int32)), (.int (1 : Int32))]))
    refine ogo (fun t k => XS.icmpYes X17.here hx rfl (pc0 := 33) (pc' := 38) rfl (hb hby at_33) rfl (teq (by decide : (1 : Int32) = (1 : Int32))).1 (by decide) (by decide) k) ?_
    show OwnEnds _ _ _ _ _ _ _ (T17.setTop (mkF m 38 #[.val (.int p0), .val (.int p1), .val (.int p2), .val (.int (3 : Int32)), .val (.ref w_FAILED), .val (.int (1 : Int32)), .unset] []))
    refine ogo (fun t k => XS.iloadN X17.here hx rfl (hb hby at_38) rfl k) ?_
    show OwnEnds _ _ _ _ _ _ _ (T17.setTop (mkF m 39 #[.val (.int p0), .val (.int p1), .val (.int p2), .val (.int (3 : Int32)), .val (.ref w_FAILED), .val (.int (1 : Int32)), .unset] [(.int p1)]))
    refine ogo (fun t k => X17.ldcInt hx hown (mvT hZ (hw _ (List.mem_of_getElem? (i := 0) rfl))) (g := (mkF m 39 #[.val (.int p0), .val (.int p1), .val (.int p2), .val (.int (3 : Int32)), .val (.ref w_FAILED), .val (.int (1 : Int32)), .unset] [(.int p1)])) rfl (hb hby at_39) t k) ?_
    show OwnEnds _ _ _ _ _ _ _ (T17.setTop (mkF m 41 #[.val (.int p0), .val (.int p1), .val (.int p2), .val (.int (3 : Int32)), .val (.ref w_FAILED), .val (.int (1 : Int32)), .unset] [(.int (2147483647 : Int32)), (.int p1)]))
    refine ogo (fun t k => XS.iand X17.here hx rfl (hb hby at_41) rfl k) ?_
    show OwnEnds _ _ _ _ _ _ _ (T17.setTop (mkF m 42 #[.val (.int p0), .val (.int p1), .val (.int p2), .val (.int (3 : Int32)), .val (.ref w_FAILED), .val (.int (1 : Int32)), .unset] [(.int (p1 &&& (2147483647 : Int32)))]))
    refine ogo (fun t k => XS.bipush X17.here hx rfl (hb hby at_42) k) ?_
    show OwnEnds _ _ _ _ _ _ _ (T17.setTop (mkF m 44 #[.val (.int p0), .val (.int p1), .val (.int p2), .val (.int (3 : Int32)), .val (.ref w_FAILED), .val (.int (1 : Int32)), .unset] [(.int (6 : Int32)), (.int (p1 &&& (2147483647 : Int32)))]))
    refine ogo (fun t k => iremM (g := (mkF m 44 #[.val (.int p0), .val (.int p1), .val (.int p2), .val (.int (3 : Int32)), .val (.ref w_FAILED), .val (.int (1 : Int32)), .unset] [(.int (6 : Int32)), (.int (p1 &&& (2147483647 : Int32)))])) X17 hx rfl (hb hby at_44) rfl (by decide) k) ?_
    show OwnEnds _ _ _ _ _ _ _ (T17.setTop (mkF m 45 #[.val (.int p0), .val (.int p1), .val (.int p2), .val (.int (3 : Int32)), .val (.ref w_FAILED), .val (.int (1 : Int32)), .unset] [(.int ((p1 &&& (2147483647 : Int32)) % (6 : Int32)))]))
    obtain ⟨v18, _, ⟨T18, L18, k18, n18⟩, -, X18, ⟨Lc18, hQ18, l18, y18, z18⟩, st18⟩ := Jvm.LawKit.callS X17 hx (y := (⟨"com/example/tidingsd/tidingsd/model/StateIsSettledPinLaw", "op", "(I)Lcom/example/tidingsd/tidingsd/model/Operation;"⟩ : MethodName)) hown (mvT hZ (hw _ (List.mem_of_getElem? (i := 14) rfl))) (mvT hZ (hw _ (List.mem_of_getElem? (i := 15) rfl))) (mvT hZ (hw _ (List.mem_of_getElem? (i := 3) rfl))) (mvT hZ (hw _ (List.mem_of_getElem? (i := 16) rfl))) (by decide) (backOf (W := 0) (rm2 l Z a0 hw [] ((p1 &&& (2147483647 : Int32)) % (6 : Int32)) w_DELIVER w_ACKNOWLEDGE w_PROBE w_RESPONSE w_CANCEL w_CANCELED_Operation h0 n0 Z0 S_DELIVER S_ACKNOWLEDGE S_PROBE S_RESPONSE S_CANCEL S_CANCELED_Operation) hZ (hw _ (List.mem_of_getElem? (i := 16) rfl)) (hw _ (List.mem_of_getElem? (i := 3) rfl)) (by decide) (by decide)) (g := (mkF m 45 #[.val (.int p0), .val (.int p1), .val (.int p2), .val (.int (3 : Int32)), .val (.ref w_FAILED), .val (.int (1 : Int32)), .unset] [(.int ((p1 &&& (2147483647 : Int32)) % (6 : Int32)))])) rfl (by rw [hml]; rfl) (argsL := [(.int ((p1 &&& (2147483647 : Int32)) % (6 : Int32)))]) (rest := []) (lenOf pd__I_Lcom_example_tidingsd_tidingsd_model_Operation_ rfl) rfl (by show 2 * 0 + _ ≤ _; exact Nat.le_of_eq rfl) (hb hby at_45) (fun _ _ => ⟨rfl, e17, (by decide : 0 + 0 ≤ _), (by decide : 0 + 0 ≤ _)⟩)
    dsimp only [Pt.U, Pt.locs, Pt.cells, Pt.slots] at X18 l18 y18 z18 st18 hQ18
    subst l18 y18 z18
    obtain ⟨rfl, N18q, e18⟩ := hQ18
    have N18 := Fr.app N17 N18q
    refine ogo (fun t k => st18 t k) ?_
    show OwnEnds _ _ _ _ _ _ _ (T18.setTop (mkF m 48 #[.val (.int p0), .val (.int p1), .val (.int p2), .val (.int (3 : Int32)), .val (.ref w_FAILED), .val (.int (1 : Int32)), .unset] [(.ref (own_op ((p1 &&& (2147483647 : Int32)) % (6 : Int32)) w_DELIVER w_ACKNOWLEDGE w_PROBE w_RESPONSE w_CANCEL w_CANCELED_Operation))]))
    refine ogo (fun t k => XS.astore X18.here hx rfl (hb hby at_48) rfl rfl (l' := #[.val (.int p0), .val (.int p1), .val (.int p2), .val (.int (3 : Int32)), .val (.ref w_FAILED), .val (.int (1 : Int32)), .val (.ref (own_op ((p1 &&& (2147483647 : Int32)) % (6 : Int32)) w_DELIVER w_ACKNOWLEDGE w_PROBE w_RESPONSE w_CANCEL w_CANCELED_Operation))]) rfl k) ?_
    show OwnEnds _ _ _ _ _ _ _ (T18.setTop (mkF m 50 #[.val (.int p0), .val (.int p1), .val (.int p2), .val (.int (3 : Int32)), .val (.ref w_FAILED), .val (.int (1 : Int32)), .val (.ref (own_op ((p1 &&& (2147483647 : Int32)) % (6 : Int32)) w_DELIVER w_ACKNOWLEDGE w_PROBE w_RESPONSE w_CANCEL w_CANCELED_Operation))] []))
    refine ogo (fun t k => XS.aload X18.here hx rfl (hb hby at_50) rfl rfl k) ?_
    show OwnEnds _ _ _ _ _ _ _ (T18.setTop (mkF m 52 #[.val (.int p0), .val (.int p1), .val (.int p2), .val (.int (3 : Int32)), .val (.ref w_FAILED), .val (.int (1 : Int32)), .val (.ref (own_op ((p1 &&& (2147483647 : Int32)) % (6 : Int32)) w_DELIVER w_ACKNOWLEDGE w_PROBE w_RESPONSE w_CANCEL w_CANCELED_Operation))] [(.ref (own_op ((p1 &&& (2147483647 : Int32)) % (6 : Int32)) w_DELIVER w_ACKNOWLEDGE w_PROBE w_RESPONSE w_CANCEL w_CANCELED_Operation))]))
    refine ogo (fun t k => XS.iloadN X18.here hx rfl (hb hby at_52) rfl k) ?_
    show OwnEnds _ _ _ _ _ _ _ (T18.setTop (mkF m 53 #[.val (.int p0), .val (.int p1), .val (.int p2), .val (.int (3 : Int32)), .val (.ref w_FAILED), .val (.int (1 : Int32)), .val (.ref (own_op ((p1 &&& (2147483647 : Int32)) % (6 : Int32)) w_DELIVER w_ACKNOWLEDGE w_PROBE w_RESPONSE w_CANCEL w_CANCELED_Operation))] [(.int p2), (.ref (own_op ((p1 &&& (2147483647 : Int32)) % (6 : Int32)) w_DELIVER w_ACKNOWLEDGE w_PROBE w_RESPONSE w_CANCEL w_CANCELED_Operation))]))
    obtain ⟨v19, _, ⟨T19, L19, k19, n19⟩, -, X19, ⟨Lc19, hQ19, l19, y19, z19⟩, st19⟩ := Jvm.LawKit.callS X18 hx (y := (⟨"com/example/tidingsd/tidingsd/model/Notice$State", "settled", "(Lcom/example/tidingsd/tidingsd/model/Operation;I)Lcom/example/tidingsd/tidingsd/model/Notice$State;"⟩ : MethodName)) hown (mvT hZ (hw _ (List.mem_of_getElem? (i := 20) rfl))) (mvT hZ (hw _ (List.mem_of_getElem? (i := 21) rfl))) (mvT hZ (hw _ (List.mem_of_getElem? (i := 6) rfl))) (mvT hZ (hw _ (List.mem_of_getElem? (i := 22) rfl))) (by decide) (backOf (W := 0) (rm5 l Z a0 hw [] (own_op ((p1 &&& (2147483647 : Int32)) % (6 : Int32)) w_DELIVER w_ACKNOWLEDGE w_PROBE w_RESPONSE w_CANCEL w_CANCELED_Operation) p2 w_HELD w_RESPONSE w_OK w_MAILBOX_MOVED w_PROBE w_CANCEL w_FAILED w_SENT w_DELIVER w_MOVED w_MISSING w_FOUND w_REFUSED w_CANCELED_Operation w_ACKNOWLEDGE w_DELIVERED w_DONE w_CANCELED_Notice_State h0 n0 Z0 S_HELD E_HELD F_ordinal_HELD S_RESPONSE E_RESPONSE F_ordinal_RESPONSE S_OK E_OK F_errorClass_OK S_MAILBOX_MOVED E_MAILBOX_MOVED F_errorClass_MAILBOX_MOVED S_PROBE E_PROBE F_ordinal_PROBE S_CANCEL E_CANCEL F_ordinal_CANCEL S_FAILED E_FAILED F_ordinal_FAILED S_SENT E_SENT F_ordinal_SENT S_DELIVER E_DELIVER F_ordinal_DELIVER S_MOVED E_MOVED F_ordinal_MOVED S_MISSING E_MISSING F_ordinal_MISSING S_FOUND E_FOUND F_ordinal_FOUND S_REFUSED E_REFUSED F_ordinal_REFUSED S_CANCELED_Operation E_CANCELED_Operation F_ordinal_CANCELED_Operation S_ACKNOWLEDGE E_ACKNOWLEDGE F_ordinal_ACKNOWLEDGE S_DELIVERED E_DELIVERED F_ordinal_DELIVERED S_DONE E_DONE F_ordinal_DONE S_CANCELED_Notice_State E_CANCELED_Notice_State F_ordinal_CANCELED_Notice_State) hZ (hw _ (List.mem_of_getElem? (i := 22) rfl)) (hw _ (List.mem_of_getElem? (i := 6) rfl)) (by decide) (by decide)) (g := (mkF m 53 #[.val (.int p0), .val (.int p1), .val (.int p2), .val (.int (3 : Int32)), .val (.ref w_FAILED), .val (.int (1 : Int32)), .val (.ref (own_op ((p1 &&& (2147483647 : Int32)) % (6 : Int32)) w_DELIVER w_ACKNOWLEDGE w_PROBE w_RESPONSE w_CANCEL w_CANCELED_Operation))] [(.int p2), (.ref (own_op ((p1 &&& (2147483647 : Int32)) % (6 : Int32)) w_DELIVER w_ACKNOWLEDGE w_PROBE w_RESPONSE w_CANCEL w_CANCELED_Operation))])) rfl (by rw [hml]; rfl) (argsL := [(.ref (own_op ((p1 &&& (2147483647 : Int32)) % (6 : Int32)) w_DELIVER w_ACKNOWLEDGE w_PROBE w_RESPONSE w_CANCEL w_CANCELED_Operation)), (.int p2)]) (rest := []) (lenOf pd_3a3b7d88 rfl) rfl (by show 2 * 0 + _ ≤ _; exact Nat.le_of_eq rfl) (hb hby at_53) (fun _ _ => ⟨rfl, e18, (by decide : 0 + 0 ≤ _), (by decide : 0 + 0 ≤ _)⟩)
    dsimp only [Pt.U, Pt.locs, Pt.cells, Pt.slots] at X19 l19 y19 z19 st19 hQ19
    subst l19 y19 z19
    obtain ⟨r, rfl, hrE, hrH, hrS, N19q, e19⟩ := hQ19
    have N19 := Fr.app N18 N19q
    refine ogo (fun t k => st19 t k) ?_
    show OwnEnds _ _ _ _ _ _ _ (T19.setTop (mkF m 56 #[.val (.int p0), .val (.int p1), .val (.int p2), .val (.int (3 : Int32)), .val (.ref w_FAILED), .val (.int (1 : Int32)), .val (.ref (own_op ((p1 &&& (2147483647 : Int32)) % (6 : Int32)) w_DELIVER w_ACKNOWLEDGE w_PROBE w_RESPONSE w_CANCEL w_CANCELED_Operation))] [(.ref r)]))
    obtain ⟨cq20, kq20, q20a, q20b, q20c⟩ := isOf hZ e19 hrE
    obtain ⟨v20, _, ⟨T20, L20, k20, n20⟩, -, X20, ⟨Lc20, hQ20, l20, y20, z20⟩, st20⟩ := X19.virtualBack hx (y := (⟨"com/example/tidingsd/tidingsd/model/Notice$State", "isSettled", "()Z"⟩ : MethodName)) (z := (⟨"com/example/tidingsd/tidingsd/model/Notice$State", "isSettled", "()Z"⟩ : MethodName)) hown (mvT hZ (hw _ (List.mem_of_getElem? (i := 8) rfl))) (mvT hZ (hw _ (List.mem_of_getElem? (i := 9) rfl))) (notFace_of_selects (args := #[]) (mvT hZ (hw _ (List.mem_of_getElem? (i := 11) rfl)))) (mvT hZ (hw _ (List.mem_of_getElem? (i := 11) rfl))) (mvT hZ (hw _ (List.mem_of_getElem? (i := 10) rfl))) (by decide) (backOf (W := 0) (rm3 l Z a0 hw [] r w_HELD w_SENT h0 n0 Z0 S_HELD S_SENT) hZ (hw _ (List.mem_of_getElem? (i := 12) rfl)) (hw _ (List.mem_of_getElem? (i := 6) rfl)) (by decide) (by decide)) q20a q20c (g := (mkF m 56 #[.val (.int p0), .val (.int p1), .val (.int p2), .val (.int (3 : Int32)), .val (.ref w_FAILED), .val (.int (1 : Int32)), .val (.ref (own_op ((p1 &&& (2147483647 : Int32)) % (6 : Int32)) w_DELIVER w_ACKNOWLEDGE w_PROBE w_RESPONSE w_CANCEL w_CANCELED_Operation))] [(.ref r)])) rfl (by rw [hml]; rfl) (Steps.refl _) (argsL := []) (rest := []) (lenOf pd___Z rfl) rfl (by show 2 * 0 + _ ≤ _; exact Nat.le_of_eq rfl) (hb hby at_56) (fun _ _ => ⟨rfl, e19, (by decide : 0 + 0 ≤ _), (by decide : 0 + 0 ≤ _)⟩)
    dsimp only [Pt.U, Pt.locs, Pt.cells, Pt.slots] at X20 l20 y20 z20 st20 hQ20
    subst l20 y20 z20
    obtain ⟨hv20, N20q, e20⟩ := hQ20
    obtain rfl : v20 = some (.int (1 : Int32)) := hv20.trans (by simp [hrH, hrS])
    have N20 := Fr.app N19 N20q
    refine ogo (fun t k => st20.trans k) ?_
    show OwnEnds _ _ _ _ _ _ _ (T20.setTop (mkF m 59 #[.val (.int p0), .val (.int p1), .val (.int p2), .val (.int (3 : Int32)), .val (.ref w_FAILED), .val (.int (1 : Int32)), .val (.ref (own_op ((p1 &&& (2147483647 : Int32)) % (6 : Int32)) w_DELIVER w_ACKNOWLEDGE w_PROBE w_RESPONSE w_CANCEL w_CANCELED_Operation))] [(.int (1 : Int32))]))
    refine endZ X20 hx hlk Bd.returns rfl (hb hby at_59) (by decide) (by decide) ?_
    show Q0 Z p0 p1 p2 w_HELD w_RESPONSE w_OK w_MAILBOX_MOVED w_PROBE w_CANCEL w_FAILED w_SENT w_DELIVER w_MOVED w_MISSING w_FOUND w_REFUSED w_CANCELED_Operation w_ACKNOWLEDGE w_DELIVERED w_DONE w_CANCELED_Notice_State h0 n0 _ T20.heap _
    rw [e20]
    exact ⟨rfl, N20⟩
  · show OwnEnds _ _ _ _ _ _ _ (s₁.setTop (mkF m 7 #[.val (.int p0), .val (.int p1), .val (.int p2), .unset, .unset, .unset, .unset] [(.int (4 : Int32))]))
    refine ogo (fun t k => XS.istoreN X0.here hx rfl (hb hby at_7) rfl (l' := #[.val (.int p0), .val (.int p1), .val (.int p2), .val (.int (4 : Int32)), .unset, .unset, .unset]) rfl k) ?_
    show OwnEnds _ _ _ _ _ _ _ (s₁.setTop (mkF m 8 #[.val (.int p0), .val (.int p1), .val (.int p2), .val (.int (4 : Int32)), .unset, .unset, .unset] []))
    refine ogo (fun t k => XS.iloadN X0.here hx rfl (hb hby at_8) rfl k) ?_
    show OwnEnds _ _ _ _ _ _ _ (s₁.setTop (mkF m 9 #[.val (.int p0), .val (.int p1), .val (.int p2), .val (.int (4 : Int32)), .unset, .unset, .unset] [(.int (4 : Int32))]))
    obtain ⟨v21, _, ⟨T21, L21, k21, n21⟩, -, X21, ⟨Lc21, hQ21, l21, y21, z21⟩, st21⟩ := Jvm.LawKit.callS X0 hx (y := (⟨"com/example/tidingsd/tidingsd/model/StateIsSettledPinLaw", "state", "(I)Lcom/example/tidingsd/tidingsd/model/Notice$State;"⟩ : MethodName)) hown (mvT hZ (hw _ (List.mem_of_getElem? (i := 1) rfl))) (mvT hZ (hw _ (List.mem_of_getElem? (i := 2) rfl))) (mvT hZ (hw _ (List.mem_of_getElem? (i := 3) rfl))) (mvT hZ (hw _ (List.mem_of_getElem? (i := 4) rfl))) (by decide) (backOf (W := 0) (rm1 l Z a0 hw [] (4 : Int32) w_HELD w_SENT w_DELIVERED w_FAILED w_MOVED w_FOUND w_MISSING w_DONE w_REFUSED w_CANCELED_Notice_State h0 n0 Z0 S_HELD S_SENT S_DELIVERED S_FAILED S_MOVED S_FOUND S_MISSING S_DONE S_REFUSED S_CANCELED_Notice_State) hZ (hw _ (List.mem_of_getElem? (i := 4) rfl)) (hw _ (List.mem_of_getElem? (i := 3) rfl)) (by decide) (by decide)) (g := (mkF m 9 #[.val (.int p0), .val (.int p1), .val (.int p2), .val (.int (4 : Int32)), .unset, .unset, .unset] [(.int (4 : Int32))])) rfl (by rw [hml]; rfl) (argsL := [(.int (4 : Int32))]) (rest := []) (lenOf pd__I_Lcom_example_tidingsd_tidingsd_model_Notice_State_ rfl) rfl (by show 2 * 0 + _ ≤ _; exact Nat.le_of_eq rfl) (hb hby at_9) (fun _ _ => ⟨rfl, e0, (by decide : 0 + 0 ≤ _), (by decide : 0 + 0 ≤ _)⟩)
    dsimp only [Pt.U, Pt.locs, Pt.cells, Pt.slots] at X21 l21 y21 z21 st21 hQ21
    subst l21 y21 z21
    obtain ⟨hv21, N21q, e21⟩ := hQ21
    obtain rfl : v21 = some (.ref w_MOVED) := hv21.trans (by simp [own_state])
    have N21 := Fr.app N0 N21q
    refine ogo (fun t k => st21 t k) ?_
    show OwnEnds _ _ _ _ _ _ _ (T21.setTop (mkF m 12 #[.val (.int p0), .val (.int p1), .val (.int p2), .val (.int (4 : Int32)), .unset, .unset, .unset] [(.ref w_MOVED)]))
    refine ogo (fun t k => XS.astore X21.here hx rfl (hb hby at_12) rfl rfl (l' := #[.val (.int p0), .val (.int p1), .val (.int p2), .val (.int (4 : Int32)), .val (.ref w_MOVED), .unset, .unset]) rfl k) ?_
    show OwnEnds _ _ _ _ _ _ _ (T21.setTop (mkF m 14 #[.val (.int p0), .val (.int p1), .val (.int p2), .val (.int (4 : Int32)), .val (.ref w_MOVED), .unset, .unset] []))
    refine ogo (fun t k => XS.iloadN X21.here hx rfl (hb hby at_14) rfl k) ?_
    show OwnEnds _ _ _ _ _ _ _ (T21.setTop (mkF m 15 #[.val (.int p0), .val (.int p1), .val (.int p2), .val (.int (4 : Int32)), .val (.ref w_MOVED), .unset, .unset] [(.int (4 : Int32))]))
    refine ogo (fun t k => XS.iconst X21.here hx rfl (hb hby at_15) k) ?_
    show OwnEnds _ _ _ _ _ _ _ (T21.setTop (mkF m 16 #[.val (.int p0), .val (.int p1), .val (.int p2), .val (.int (4 : Int32)), .val (.ref w_MOVED), .unset, .unset] [(.int (2 : Int32)), (.int (4 : Int32))]))
    refine ogo (fun t k => XS.icmpNo X21.here hx rfl (hb hby at_16) rfl (flt (by decide : ¬ ((4 : Int32) < (2 : Int32)))).1 k) ?_
    show OwnEnds _ _ _ _ _ _ _ (T21.setTop (mkF m 19 #[.val (.int p0), .val (.int p1), .val (.int p2), .val (.int (4 : Int32)), .val (.ref w_MOVED), .unset, .unset] []))
    refine ogo (fun t k => XS.iconst X21.here hx rfl (hb hby at_19) k) ?_
    show OwnEnds _ _ _ _ _ _ _ (T21.setTop (mkF m 20 #[.val (.int p0), .val (.int p1), .val (.int p2), .val (.int (4 : Int32)), .val (.ref w_MOVED), .unset, .unset] [(.int (1 : Int32))]))
    refine ogo (fun t k => XS.goto X21.here hx rfl (pc0 := 20) (pc' := 24) rfl (hb hby at_20) (by decide) (by decide) k) ?_
    show OwnEnds _ _ _ _ _ _ _ (T21.setTop (mkF m 24 #[.val (.int p0), .val (.int p1), .val (.int p2), .val (.int (4 : Int32)), .val (.ref w_MOVED), .unset, .unset] [(.int (1 : Int32))]))
    refine ogo (fun t k => XS.istore X21.here hx rfl (hb hby at_24) rfl (l' := #[.val (.int p0), .val (.int p1), .val (.int p2), .val (.int (4 : Int32)), .val (.ref w_MOVED), .val (.int (1 : Int32)), .unset]) rfl k) ?_
    show OwnEnds _ _ _ _ _ _ _ (T21.setTop (mkF m 26 #[.val (.int p0), .val (.int p1), .val (.int p2), .val (.int (4 : Int32)), .val (.ref w_MOVED), .val (.int (1 : Int32)), .unset] []))
    refine ogo (fun t k => XS.aload X21.here hx rfl (hb hby at_26) rfl rfl k) ?_
    show OwnEnds _ _ _ _ _ _ _ (T21.setTop (mkF m 28 #[.val (.int p0), .val (.int p1), .val (.int p2), .val (.int (4 : Int32)), .val (.ref w_MOVED), .val (.int (1 : Int32)), .unset] [(.ref w_MOVED)]))
    obtain ⟨cq22, kq22, q22a, q22b, q22c⟩ := isOf hZ e21 E_MOVED
    obtain ⟨v22, _, ⟨T22, L22, k22, n22⟩, -, X22, ⟨Lc22, hQ22, l22, y22, z22⟩, st22⟩ := X21.virtualBack hx (y := (⟨"com/example/tidingsd/tidingsd/model/Notice$State", "isSettled", "()Z"⟩ : MethodName)) (z := (⟨"com/example/tidingsd/tidingsd/model/Notice$State", "isSettled", "()Z"⟩ : MethodName)) hown (mvT hZ (hw _ (List.mem_of_getElem? (i := 8) rfl))) (mvT hZ (hw _ (List.mem_of_getElem? (i := 9) rfl))) (notFace_of_selects (args := #[]) (mvT hZ (hw _ (List.mem_of_getElem? (i := 11) rfl)))) (mvT hZ (hw _ (List.mem_of_getElem? (i := 11) rfl))) (mvT hZ (hw _ (List.mem_of_getElem? (i := 10) rfl))) (by decide) (backOf (W := 0) (rm3 l Z a0 hw [] w_MOVED w_HELD w_SENT h0 n0 Z0 S_HELD S_SENT) hZ (hw _ (List.mem_of_getElem? (i := 12) rfl)) (hw _ (List.mem_of_getElem? (i := 6) rfl)) (by decide) (by decide)) q22a q22c (g := (mkF m 28 #[.val (.int p0), .val (.int p1), .val (.int p2), .val (.int (4 : Int32)), .val (.ref w_MOVED), .val (.int (1 : Int32)), .unset] [(.ref w_MOVED)])) rfl (by rw [hml]; rfl) (Steps.refl _) (argsL := []) (rest := []) (lenOf pd___Z rfl) rfl (by show 2 * 0 + _ ≤ _; exact Nat.le_of_eq rfl) (hb hby at_28) (fun _ _ => ⟨rfl, e21, (by decide : 0 + 0 ≤ _), (by decide : 0 + 0 ≤ _)⟩)
    dsimp only [Pt.U, Pt.locs, Pt.cells, Pt.slots] at X22 l22 y22 z22 st22 hQ22
    subst l22 y22 z22
    obtain ⟨hv22, N22q, e22⟩ := hQ22
    obtain rfl : v22 = some (.int (1 : Int32)) := hv22.trans (by simp [(Fld.ne F_ordinal_MOVED F_ordinal_HELD (by simp)), (Fld.ne F_ordinal_MOVED F_ordinal_SENT (by simp))])
    have N22 := Fr.app N21 N22q
    refine ogo (fun t k => st22.trans k) ?_
    show OwnEnds _ _ _ _ _ _ _ (T22.setTop (mkF m 31 #[.val (.int p0), .val (.int p1), .val (.int p2), .val (.int (4 : Int32)), .val (.ref w_MOVED), .val (.int (1 : Int32)), .unset] [(.int (1 : Int32))]))
    refine ogo (fun t k => XS.iload X22.here hx rfl (hb hby at_31) rfl k) ?_
    show OwnEnds _ _ _ _ _ _ _ (T22.setTop (mkF m 33 #[.val (.int p0), .val (.int p1), .val (.int p2), .val (.int (4 : Int32)), .val (.ref w_MOVED), .val (.int (1 : Int32)), .unset] [(.int (1 : Int32)), (.int (1 : Int32))]))
    refine ogo (fun t k => XS.icmpYes X22.here hx rfl (pc0 := 33) (pc' := 38) rfl (hb hby at_33) rfl (teq (by decide : (1 : Int32) = (1 : Int32))).1 (by decide) (by decide) k) ?_
    show OwnEnds _ _ _ _ _ _ _ (T22.setTop (mkF m 38 #[.val (.int p0), .val (.int p1), .val (.int p2), .val (.int (4 : Int32)), .val (.ref w_MOVED), .val (.int (1 : Int32)), .unset] []))
    refine ogo (fun t k => XS.iloadN X22.here hx rfl (hb hby at_38) rfl k) ?_
    show OwnEnds _ _ _ _ _ _ _ (T22.setTop (mkF m 39 #[.val (.int p0), .val (.int p1), .val (.int p2), .val (.int (4 : Int32)), .val (.ref w_MOVED), .val (.int (1 : Int32)), .unset] [(.int p1)]))
    refine ogo (fun t k => X22.ldcInt hx hown (mvT hZ (hw _ (List.mem_of_getElem? (i := 0) rfl))) (g := (mkF m 39 #[.val (.int p0), .val (.int p1), .val (.int p2), .val (.int (4 : Int32)), .val (.ref w_MOVED), .val (.int (1 : Int32)), .unset] [(.int p1)])) rfl (hb hby at_39) t k) ?_
    show OwnEnds _ _ _ _ _ _ _ (T22.setTop (mkF m 41 #[.val (.int p0), .val (.int p1), .val (.int p2), .val (.int (4 : Int32)), .val (.ref w_MOVED), .val (.int (1 : Int32)), .unset] [(.int (2147483647 : Int32)), (.int p1)]))
    refine ogo (fun t k => XS.iand X22.here hx rfl (hb hby at_41) rfl k) ?_
    show OwnEnds _ _ _ _ _ _ _ (T22.setTop (mkF m 42 #[.val (.int p0), .val (.int p1), .val (.int p2), .val (.int (4 : Int32)), .val (.ref w_MOVED), .val (.int (1 : Int32)), .unset] [(.int (p1 &&& (2147483647 : Int32)))]))
    refine ogo (fun t k => XS.bipush X22.here hx rfl (hb hby at_42) k) ?_
    show OwnEnds _ _ _ _ _ _ _ (T22.setTop (mkF m 44 #[.val (.int p0), .val (.int p1), .val (.int p2), .val (.int (4 : Int32)), .val (.ref w_MOVED), .val (.int (1 : Int32)), .unset] [(.int (6 : Int32)), (.int (p1 &&& (2147483647 : Int32)))]))
    refine ogo (fun t k => iremM (g := (mkF m 44 #[.val (.int p0), .val (.int p1), .val (.int p2), .val (.int (4 : Int32)), .val (.ref w_MOVED), .val (.int (1 : Int32)), .unset] [(.int (6 : Int32)), (.int (p1 &&& (2147483647 : Int32)))])) X22 hx rfl (hb hby at_44) rfl (by decide) k) ?_
    show OwnEnds _ _ _ _ _ _ _ (T22.setTop (mkF m 45 #[.val (.int p0), .val (.int p1), .val (.int p2), .val (.int (4 : Int32)), .val (.ref w_MOVED), .val (.int (1 : Int32)), .unset] [(.int ((p1 &&& (2147483647 : Int32)) % (6 : Int32)))]))
    obtain ⟨v23, _, ⟨T23, L23, k23, n23⟩, -, X23, ⟨Lc23, hQ23, l23, y23, z23⟩, st23⟩ := Jvm.LawKit.callS X22 hx (y := (⟨"com/example/tidingsd/tidingsd/model/StateIsSettledPinLaw", "op", "(I)Lcom/example/tidingsd/tidingsd/model/Operation;"⟩ : MethodName)) hown (mvT hZ (hw _ (List.mem_of_getElem? (i := 14) rfl))) (mvT hZ (hw _ (List.mem_of_getElem? (i := 15) rfl))) (mvT hZ (hw _ (List.mem_of_getElem? (i := 3) rfl))) (mvT hZ (hw _ (List.mem_of_getElem? (i := 16) rfl))) (by decide) (backOf (W := 0) (rm2 l Z a0 hw [] ((p1 &&& (2147483647 : Int32)) % (6 : Int32)) w_DELIVER w_ACKNOWLEDGE w_PROBE w_RESPONSE w_CANCEL w_CANCELED_Operation h0 n0 Z0 S_DELIVER S_ACKNOWLEDGE S_PROBE S_RESPONSE S_CANCEL S_CANCELED_Operation) hZ (hw _ (List.mem_of_getElem? (i := 16) rfl)) (hw _ (List.mem_of_getElem? (i := 3) rfl)) (by decide) (by decide)) (g := (mkF m 45 #[.val (.int p0), .val (.int p1), .val (.int p2), .val (.int (4 : Int32)), .val (.ref w_MOVED), .val (.int (1 : Int32)), .unset] [(.int ((p1 &&& (2147483647 : Int32)) % (6 : Int32)))])) rfl (by rw [hml]; rfl) (argsL := [(.int ((p1 &&& (2147483647 : Int32)) % (6 : Int32)))]) (rest := []) (lenOf pd__I_Lcom_example_tidingsd_tidingsd_model_Operation_ rfl) rfl (by show 2 * 0 + _ ≤ _; exact Nat.le_of_eq rfl) (hb hby at_45) (fun _ _ => ⟨rfl, e22, (by decide : 0 + 0 ≤ _), (by decide : 0 + 0 ≤ _)⟩)
    dsimp only [Pt.U, Pt.locs, Pt.cells, Pt.slots] at X23 l23 y23 z23 st23 hQ23
    subst l23 y23 z23
    obtain ⟨rfl, N23q, e23⟩ := hQ23
    have N23 := Fr.app N22 N23q
    refine ogo (fun t k => st23 t k) ?_
    show OwnEnds _ _ _ _ _ _ _ (T23.setTop (mkF m 48 #[.val (.int p0), .val (.int p1), .val (.int p2), .val (.int (4 : Int32)), .val (.ref w_MOVED), .val (.int (1 : Int32)), .unset] [(.ref (own_op ((p1 &&& (2147483647 : Int32)) % (6 : Int32)) w_DELIVER w_ACKNOWLEDGE w_PROBE w_RESPONSE w_CANCEL w_CANCELED_Operation))]))
    refine ogo (fun t k => XS.astore X23.here hx rfl (hb hby at_48) rfl rfl (l' := #[.val (.int p0), .val (.int p1), .val (.int p2), .val (.int (4 : Int32)), .val (.ref w_MOVED), .val (.int (1 : Int32)), .val (.ref (own_op ((p1 &&& (2147483647 : Int32)) % (6 : Int32)) w_DELIVER w_ACKNOWLEDGE w_PROBE w_RESPONSE w_CANCEL w_CANCELED_Operation))]) rfl k) ?_
    show OwnEnds _ _ _ _ _ _ _ (T23.setTop (mkF m 50 #[.val (.int p0), .val (.int p1), .val (.int p2), .val (.int (4 : Int32)), .val (.ref w_MOVED), .val (.int (1 : Int32)), .val (.ref (own_op ((p1 &&& (2147483647 : Int32)) % (6 : Int32)) w_DELIVER w_ACKNOWLEDGE w_PROBE w_RESPONSE w_CANCEL w_CANCELED_Operation))] []))
    refine ogo (fun t k => XS.aload X23.here hx rfl (hb hby at_50) rfl rfl k) ?_
    show OwnEnds _ _ _ _ _ _ _ (T23.setTop (mkF m 52 #[.val (.int p0), .val (.int p1), .val (.int p2), .val (.int (4 : Int32)), .val (.ref w_MOVED), .val (.int (1 : Int32)), .val (.ref (own_op ((p1 &&& (2147483647 : Int32)) % (6 : Int32)) w_DELIVER w_ACKNOWLEDGE w_PROBE w_RESPONSE w_CANCEL w_CANCELED_Operation))] [(.ref (own_op ((p1 &&& (2147483647 : Int32)) % (6 : Int32)) w_DELIVER w_ACKNOWLEDGE w_PROBE w_RESPONSE w_CANCEL w_CANCELED_Operation))]))
    refine ogo (fun t k => XS.iloadN X23.here hx rfl (hb hby at_52) rfl k) ?_
    show OwnEnds _ _ _ _ _ _ _ (T23.setTop (mkF m 53 #[.val (.int p0), .val (.int p1), .val (.int p2), .val (.int (4 : Int32)), .val (.ref w_MOVED), .val (.int (1 : Int32)), .val (.ref (own_op ((p1 &&& (2147483647 : Int32)) % (6 : Int32)) w_DELIVER w_ACKNOWLEDGE w_PROBE w_RESPONSE w_CANCEL w_CANCELED_Operation))] [(.int p2), (.ref (own_op ((p1 &&& (2147483647 : Int32)) % (6 : Int32)) w_DELIVER w_ACKNOWLEDGE w_PROBE w_RESPONSE w_CANCEL w_CANCELED_Operation))]))
    obtain ⟨v24, _, ⟨T24, L24, k24, n24⟩, -, X24, ⟨Lc24, hQ24, l24, y24, z24⟩, st24⟩ := Jvm.LawKit.callS X23 hx (y := (⟨"com/example/tidingsd/tidingsd/model/Notice$State", "settled", "(Lcom/example/tidingsd/tidingsd/model/Operation;I)Lcom/example/tidingsd/tidingsd/model/Notice$State;"⟩ : MethodName)) hown (mvT hZ (hw _ (List.mem_of_getElem? (i := 20) rfl))) (mvT hZ (hw _ (List.mem_of_getElem? (i := 21) rfl))) (mvT hZ (hw _ (List.mem_of_getElem? (i := 6) rfl))) (mvT hZ (hw _ (List.mem_of_getElem? (i := 22) rfl))) (by decide) (backOf (W := 0) (rm5 l Z a0 hw [] (own_op ((p1 &&& (2147483647 : Int32)) % (6 : Int32)) w_DELIVER w_ACKNOWLEDGE w_PROBE w_RESPONSE w_CANCEL w_CANCELED_Operation) p2 w_HELD w_RESPONSE w_OK w_MAILBOX_MOVED w_PROBE w_CANCEL w_FAILED w_SENT w_DELIVER w_MOVED w_MISSING w_FOUND w_REFUSED w_CANCELED_Operation w_ACKNOWLEDGE w_DELIVERED w_DONE w_CANCELED_Notice_State h0 n0 Z0 S_HELD E_HELD F_ordinal_HELD S_RESPONSE E_RESPONSE F_ordinal_RESPONSE S_OK E_OK F_errorClass_OK S_MAILBOX_MOVED E_MAILBOX_MOVED F_errorClass_MAILBOX_MOVED S_PROBE E_PROBE F_ordinal_PROBE S_CANCEL E_CANCEL F_ordinal_CANCEL S_FAILED E_FAILED F_ordinal_FAILED S_SENT E_SENT F_ordinal_SENT S_DELIVER E_DELIVER F_ordinal_DELIVER S_MOVED E_MOVED F_ordinal_MOVED S_MISSING E_MISSING F_ordinal_MISSING S_FOUND E_FOUND F_ordinal_FOUND S_REFUSED E_REFUSED F_ordinal_REFUSED S_CANCELED_Operation E_CANCELED_Operation F_ordinal_CANCELED_Operation S_ACKNOWLEDGE E_ACKNOWLEDGE F_ordinal_ACKNOWLEDGE S_DELIVERED E_DELIVERED F_ordinal_DELIVERED S_DONE E_DONE F_ordinal_DONE S_CANCELED_Notice_State E_CANCELED_Notice_State F_ordinal_CANCELED_Notice_State) hZ (hw _ (List.mem_of_getElem? (i := 22) rfl)) (hw _ (List.mem_of_getElem? (i := 6) rfl)) (by decide) (by decide)) (g := (mkF m 53 #[.val (.int p0), .val (.int p1), .val (.int p2), .val (.int (4 : Int32)), .val (.ref w_MOVED), .val (.int (1 : Int32)), .val (.ref (own_op ((p1 &&& (2147483647 : Int32)) % (6 : Int32)) w_DELIVER w_ACKNOWLEDGE w_PROBE w_RESPONSE w_CANCEL w_CANCELED_Operation))] [(.int p2), (.ref (own_op ((p1 &&& (2147483647 : Int32)) % (6 : Int32)) w_DELIVER w_ACKNOWLEDGE w_PROBE w_RESPONSE w_CANCEL w_CANCELED_Operation))])) rfl (by rw [hml]; rfl) (argsL := [(.ref (own_op ((p1 &&& (2147483647 : Int32)) % (6 : Int32)) w_DELIVER w_ACKNOWLEDGE w_PROBE w_RESPONSE w_CANCEL w_CANCELED_Operation)), (.int p2)]) (rest := []) (lenOf pd_3a3b7d88 rfl) rfl (by show 2 * 0 + _ ≤ _; exact Nat.le_of_eq rfl) (hb hby at_53) (fun _ _ => ⟨rfl, e23, (by decide : 0 + 0 ≤ _), (by decide : 0 + 0 ≤ _)⟩)
    dsimp only [Pt.U, Pt.locs, Pt.cells, Pt.slots] at X24 l24 y24 z24 st24 hQ24
    subst l24 y24 z24
    obtain ⟨r, rfl, hrE, hrH, hrS, N24q, e24⟩ := hQ24
    have N24 := Fr.app N23 N24q
    refine ogo (fun t k => st24 t k) ?_
    show OwnEnds _ _ _ _ _ _ _ (T24.setTop (mkF m 56 #[.val (.int p0), .val (.int p1), .val (.int p2), .val (.int (4 : Int32)), .val (.ref w_MOVED), .val (.int (1 : Int32)), .val (.ref (own_op ((p1 &&& (2147483647 : Int32)) % (6 : Int32)) w_DELIVER w_ACKNOWLEDGE w_PROBE w_RESPONSE w_CANCEL w_CANCELED_Operation))] [(.ref r)]))
    obtain ⟨cq25, kq25, q25a, q25b, q25c⟩ := isOf hZ e24 hrE
    obtain ⟨v25, _, ⟨T25, L25, k25, n25⟩, -, X25, ⟨Lc25, hQ25, l25, y25, z25⟩, st25⟩ := X24.virtualBack hx (y := (⟨"com/example/tidingsd/tidingsd/model/Notice$State", "isSettled", "()Z"⟩ : MethodName)) (z := (⟨"com/example/tidingsd/tidingsd/model/Notice$State", "isSettled", "()Z"⟩ : MethodName)) hown (mvT hZ (hw _ (List.mem_of_getElem? (i := 8) rfl))) (mvT hZ (hw _ (List.mem_of_getElem? (i := 9) rfl))) (notFace_of_selects (args := #[]) (mvT hZ (hw _ (List.mem_of_getElem? (i := 11) rfl)))) (mvT hZ (hw _ (List.mem_of_getElem? (i := 11) rfl))) (mvT hZ (hw _ (List.mem_of_getElem? (i := 10) rfl))) (by decide) (backOf (W := 0) (rm3 l Z a0 hw [] r w_HELD w_SENT h0 n0 Z0 S_HELD S_SENT) hZ (hw _ (List.mem_of_getElem? (i := 12) rfl)) (hw _ (List.mem_of_getElem? (i := 6) rfl)) (by decide) (by decide)) q25a q25c (g := (mkF m 56 #[.val (.int p0), .val (.int p1), .val (.int p2), .val (.int (4 : Int32)), .val (.ref w_MOVED), .val (.int (1 : Int32)), .val (.ref (own_op ((p1 &&& (2147483647 : Int32)) % (6 : Int32)) w_DELIVER w_ACKNOWLEDGE w_PROBE w_RESPONSE w_CANCEL w_CANCELED_Operation))] [(.ref r)])) rfl (by rw [hml]; rfl) (Steps.refl _) (argsL := []) (rest := []) (lenOf pd___Z rfl) rfl (by show 2 * 0 + _ ≤ _; exact Nat.le_of_eq rfl) (hb hby at_56) (fun _ _ => ⟨rfl, e24, (by decide : 0 + 0 ≤ _), (by decide : 0 + 0 ≤ _)⟩)
    dsimp only [Pt.U, Pt.locs, Pt.cells, Pt.slots] at X25 l25 y25 z25 st25 hQ25
    subst l25 y25 z25
    obtain ⟨hv25, N25q, e25⟩ := hQ25
    obtain rfl : v25 = some (.int (1 : Int32)) := hv25.trans (by simp [hrH, hrS])
    have N25 := Fr.app N24 N25q
    refine ogo (fun t k => st25.trans k) ?_
    show OwnEnds _ _ _ _ _ _ _ (T25.setTop (mkF m 59 #[.val (.int p0), .val (.int p1), .val (.int p2), .val (.int (4 : Int32)), .val (.ref w_MOVED), .val (.int (1 : Int32)), .val (.ref (own_op ((p1 &&& (2147483647 : Int32)) % (6 : Int32)) w_DELIVER w_ACKNOWLEDGE w_PROBE w_RESPONSE w_CANCEL w_CANCELED_Operation))] [(.int (1 : Int32))]))
    refine endZ X25 hx hlk Bd.returns rfl (hb hby at_59) (by decide) (by decide) ?_
    show Q0 Z p0 p1 p2 w_HELD w_RESPONSE w_OK w_MAILBOX_MOVED w_PROBE w_CANCEL w_FAILED w_SENT w_DELIVER w_MOVED w_MISSING w_FOUND w_REFUSED w_CANCELED_Operation w_ACKNOWLEDGE w_DELIVERED w_DONE w_CANCELED_Notice_State h0 n0 _ T25.heap _
    rw [e25]
    exact ⟨rfl, N25⟩
  · show OwnEnds _ _ _ _ _ _ _ (s₁.setTop (mkF m 7 #[.val (.int p0), .val (.int p1), .val (.int p2), .unset, .unset, .unset, .unset] [(.int (5 : Int32))]))
    refine ogo (fun t k => XS.istoreN X0.here hx rfl (hb hby at_7) rfl (l' := #[.val (.int p0), .val (.int p1), .val (.int p2), .val (.int (5 : Int32)), .unset, .unset, .unset]) rfl k) ?_
    show OwnEnds _ _ _ _ _ _ _ (s₁.setTop (mkF m 8 #[.val (.int p0), .val (.int p1), .val (.int p2), .val (.int (5 : Int32)), .unset, .unset, .unset] []))
    refine ogo (fun t k => XS.iloadN X0.here hx rfl (hb hby at_8) rfl k) ?_
    show OwnEnds _ _ _ _ _ _ _ (s₁.setTop (mkF m 9 #[.val (.int p0), .val (.int p1), .val (.int p2), .val (.int (5 : Int32)), .unset, .unset, .unset] [(.int (5 : Int32))]))
    obtain ⟨v26, _, ⟨T26, L26, k26, n26⟩, -, X26, ⟨Lc26, hQ26, l26, y26, z26⟩, st26⟩ := Jvm.LawKit.callS X0 hx (y := (⟨"com/example/tidingsd/tidingsd/model/StateIsSettledPinLaw", "state", "(I)Lcom/example/tidingsd/tidingsd/model/Notice$State;"⟩ : MethodName)) hown (mvT hZ (hw _ (List.mem_of_getElem? (i := 1) rfl))) (mvT hZ (hw _ (List.mem_of_getElem? (i := 2) rfl))) (mvT hZ (hw _ (List.mem_of_getElem? (i := 3) rfl))) (mvT hZ (hw _ (List.mem_of_getElem? (i := 4) rfl))) (by decide) (backOf (W := 0) (rm1 l Z a0 hw [] (5 : Int32) w_HELD w_SENT w_DELIVERED w_FAILED w_MOVED w_FOUND w_MISSING w_DONE w_REFUSED w_CANCELED_Notice_State h0 n0 Z0 S_HELD S_SENT S_DELIVERED S_FAILED S_MOVED S_FOUND S_MISSING S_DONE S_REFUSED S_CANCELED_Notice_State) hZ (hw _ (List.mem_of_getElem? (i := 4) rfl)) (hw _ (List.mem_of_getElem? (i := 3) rfl)) (by decide) (by decide)) (g := (mkF m 9 #[.val (.int p0), .val (.int p1), .val (.int p2), .val (.int (5 : Int32)), .unset, .unset, .unset] [(.int (5 : Int32))])) rfl (by rw [hml]; rfl) (argsL := [(.int (5 : Int32))]) (rest := []) (lenOf pd__I_Lcom_example_tidingsd_tidingsd_model_Notice_State_ rfl) rfl (by show 2 * 0 + _ ≤ _; exact Nat.le_of_eq rfl) (hb hby at_9) (fun _ _ => ⟨rfl, e0, (by decide : 0 + 0 ≤ _), (by decide : 0 + 0 ≤ _)⟩)
    dsimp only [Pt.U, Pt.locs, Pt.cells, Pt.slots] at X26 l26 y26 z26 st26 hQ26
    subst l26 y26 z26
    obtain ⟨hv26, N26q, e26⟩ := hQ26
    obtain rfl : v26 = some (.ref w_FOUND) := hv26.trans (by simp [own_state])
    have N26 := Fr.app N0 N26q
    refine ogo (fun t k => st26 t k) ?_
    show OwnEnds _ _ _ _ _ _ _ (T26.setTop (mkF m 12 #[.val (.int p0), .val (.int p1), .val (.int p2), .val (.int (5 : Int32)), .unset, .unset, .unset] [(.ref w_FOUND)]))
    refine ogo (fun t k => XS.astore X26.here hx rfl (hb hby at_12) rfl rfl (l' := #[.val (.int p0), .val (.int p1), .val (.int p2), .val (.int (5 : Int32)), .val (.ref w_FOUND), .unset, .unset]) rfl k) ?_
    show OwnEnds _ _ _ _ _ _ _ (T26.setTop (mkF m 14 #[.val (.int p0), .val (.int p1), .val (.int p2), .val (.int (5 : Int32)), .val (.ref w_FOUND), .unset, .unset] []))
    refine ogo (fun t k => XS.iloadN X26.here hx rfl (hb hby at_14) rfl k) ?_
    show OwnEnds _ _ _ _ _ _ _ (T26.setTop (mkF m 15 #[.val (.int p0), .val (.int p1), .val (.int p2), .val (.int (5 : Int32)), .val (.ref w_FOUND), .unset, .unset] [(.int (5 : Int32))]))
    refine ogo (fun t k => XS.iconst X26.here hx rfl (hb hby at_15) k) ?_
    show OwnEnds _ _ _ _ _ _ _ (T26.setTop (mkF m 16 #[.val (.int p0), .val (.int p1), .val (.int p2), .val (.int (5 : Int32)), .val (.ref w_FOUND), .unset, .unset] [(.int (2 : Int32)), (.int (5 : Int32))]))
    refine ogo (fun t k => XS.icmpNo X26.here hx rfl (hb hby at_16) rfl (flt (by decide : ¬ ((5 : Int32) < (2 : Int32)))).1 k) ?_
    show OwnEnds _ _ _ _ _ _ _ (T26.setTop (mkF m 19 #[.val (.int p0), .val (.int p1), .val (.int p2), .val (.int (5 : Int32)), .val (.ref w_FOUND), .unset, .unset] []))
    refine ogo (fun t k => XS.iconst X26.here hx rfl (hb hby at_19) k) ?_
    show OwnEnds _ _ _ _ _ _ _ (T26.setTop (mkF m 20 #[.val (.int p0), .val (.int p1), .val (.int p2), .val (.int (5 : Int32)), .val (.ref w_FOUND), .unset, .unset] [(.int (1 : Int32))]))
    refine ogo (fun t k => XS.goto X26.here hx rfl (pc0 := 20) (pc' := 24) rfl (hb hby at_20) (by decide) (by decide) k) ?_
    show OwnEnds _ _ _ _ _ _ _ (T26.setTop (mkF m 24 #[.val (.int p0), .val (.int p1), .val (.int p2), .val (.int (5 : Int32)), .val (.ref w_FOUND), .unset, .unset] [(.int (1 : Int32))]))
    refine ogo (fun t k => XS.istore X26.here hx rfl (hb hby at_24) rfl (l' := #[.val (.int p0), .val (.int p1), .val (.int p2), .val (.int (5 : Int32)), .val (.ref w_FOUND), .val (.int (1 : Int32)), .unset]) rfl k) ?_
    show OwnEnds _ _ _ _ _ _ _ (T26.setTop (mkF m 26 #[.val (.int p0), .val (.int p1), .val (.int p2), .val (.int (5 : Int32)), .val (.ref w_FOUND), .val (.int (1 : Int32)), .unset] []))
    refine ogo (fun t k => XS.aload X26.here hx rfl (hb hby at_26) rfl rfl k) ?_
    show OwnEnds _ _ _ _ _ _ _ (T26.setTop (mkF m 28 #[.val (.int p0), .val (.int p1), .val (.int p2), .val (.int (5 : Int32)), .val (.ref w_FOUND), .val (.int (1 : Int32)), .unset] [(.ref w_FOUND)]))
    obtain ⟨cq27, kq27, q27a, q27b, q27c⟩ := isOf hZ e26 E_FOUND
    obtain ⟨v27, _, ⟨T27, L27, k27, n27⟩, -, X27, ⟨Lc27, hQ27, l27, y27, z27⟩, st27⟩ := X26.virtualBack hx (y := (⟨"com/example/tidingsd/tidingsd/model/Notice$State", "isSettled", "()Z"⟩ : MethodName)) (z := (⟨"com/example/tidingsd/tidingsd/model/Notice$State", "isSettled", "()Z"⟩ : MethodName)) hown (mvT hZ (hw _ (List.mem_of_getElem? (i := 8) rfl))) (mvT hZ (hw _ (List.mem_of_getElem? (i := 9) rfl))) (notFace_of_selects (args := #[]) (mvT hZ (hw _ (List.mem_of_getElem? (i := 11) rfl)))) (mvT hZ (hw _ (List.mem_of_getElem? (i := 11) rfl))) (mvT hZ (hw _ (List.mem_of_getElem? (i := 10) rfl))) (by decide) (backOf (W := 0) (rm3 l Z a0 hw [] w_FOUND w_HELD w_SENT h0 n0 Z0 S_HELD S_SENT) hZ (hw _ (List.mem_of_getElem? (i := 12) rfl)) (hw _ (List.mem_of_getElem? (i := 6) rfl)) (by decide) (by decide)) q27a q27c (g := (mkF m 28 #[.val (.int p0), .val (.int p1), .val (.int p2), .val (.int (5 : Int32)), .val (.ref w_FOUND), .val (.int (1 : Int32)), .unset] [(.ref w_FOUND)])) rfl (by rw [hml]; rfl) (Steps.refl _) (argsL := []) (rest := []) (lenOf pd___Z rfl) rfl (by show 2 * 0 + _ ≤ _; exact Nat.le_of_eq rfl) (hb hby at_28) (fun _ _ => ⟨rfl, e26, (by decide : 0 + 0 ≤ _), (by decide : 0 + 0 ≤ _)⟩)
    dsimp only [Pt.U, Pt.locs, Pt.cells, Pt.slots] at X27 l27 y27 z27 st27 hQ27
    subst l27 y27 z27
    obtain ⟨hv27, N27q, e27⟩ := hQ27
    obtain rfl : v27 = some (.int (1 : Int32)) := hv27.trans (by simp [(Fld.ne F_ordinal_FOUND F_ordinal_HELD (by simp)), (Fld.ne F_ordinal_FOUND F_ordinal_SENT (by simp))])
    have N27 := Fr.app N26 N27q
    refine ogo (fun t k => st27.trans k) ?_
    show OwnEnds _ _ _ _ _ _ _ (T27.setTop (mkF m 31 #[.val (.int p0), .val (.int p1), .val (.int p2), .val (.int (5 : Int32)), .val (.ref w_FOUND), .val (.int (1 : Int32)), .unset] [(.int (1 : Int32))]))
    refine ogo (fun t k => XS.iload X27.here hx rfl (hb hby at_31) rfl k) ?_
    show OwnEnds _ _ _ _ _ _ _ (T27.setTop (mkF m 33 #[.val (.int p0), .val (.int p1), .val (.int p2), .val (.int (5 : Int32)), .val (.ref w_FOUND), .val (.int (1 : Int32)), .unset] [(.int (1 : Int32)), (.int (1 : Int32))]))
    refine ogo (fun t k => XS.icmpYes X27.here hx rfl (pc0 := 33) (pc' := 38) rfl (hb hby at_33) rfl (teq (by decide : (1 : Int32) = (1 : Int32))).1 (by decide) (by decide) k) ?_
    show OwnEnds _ _ _ _ _ _ _ (T27.setTop (mkF m 38 #[.val (.int p0), .val (.int p1), .val (.int p2), .val (.int (5 : Int32)), .val (.ref w_FOUND), .val (.int (1 : Int32)), .unset] []))
    refine ogo (fun t k => XS.iloadN X27.here hx rfl (hb hby at_38) rfl k) ?_
    show OwnEnds _ _ _ _ _ _ _ (T27.setTop (mkF m 39 #[.val (.int p0), .val (.int p1), .val (.int p2), .val (.int (5 : Int32)), .val (.ref w_FOUND), .val (.int (1 : Int32)), .unset] [(.int p1)]))
    refine ogo (fun t k => X27.ldcInt hx hown (mvT hZ (hw _ (List.mem_of_getElem? (i := 0) rfl))) (g := (mkF m 39 #[.val (.int p0), .val (.int p1), .val (.int p2), .val (.int (5 : Int32)), .val (.ref w_FOUND), .val (.int (1 : Int32)), .unset] [(.int p1)])) rfl (hb hby at_39) t k) ?_
    show OwnEnds _ _ _ _ _ _ _ (T27.setTop (mkF m 41 #[.val (.int p0), .val (.int p1), .val (.int p2), .val (.int (5 : Int32)), .val (.ref w_FOUND), .val (.int (1 : Int32)), .unset] [(.int (2147483647 : Int32)), (.int p1)]))
    refine ogo (fun t k => XS.iand X27.here hx rfl (hb hby at_41) rfl k) ?_
    show OwnEnds _ _ _ _ _ _ _ (T27.setTop (mkF m 42 #[.val (.int p0), .val (.int p1), .val (.int p2), .val (.int (5 : Int32)), .val (.ref w_FOUND), .val (.int (1 : Int32)), .unset] [(.int (p1 &&& (2147483647 : Int32)))]))
    refine ogo (fun t k => XS.bipush X27.here hx rfl (hb hby at_42) k) ?_
    show OwnEnds _ _ _ _ _ _ _ (T27.setTop (mkF m 44 #[.val (.int p0), .val (.int p1), .val (.int p2), .val (.int (5 : Int32)), .val (.ref w_FOUND), .val (.int (1 : Int32)), .unset] [(.int (6 : Int32)), (.int (p1 &&& (2147483647 : Int32)))]))
    refine ogo (fun t k => iremM (g := (mkF m 44 #[.val (.int p0), .val (.int p1), .val (.int p2), .val (.int (5 : Int32)), .val (.ref w_FOUND), .val (.int (1 : Int32)), .unset] [(.int (6 : Int32)), (.int (p1 &&& (2147483647 : Int32)))])) X27 hx rfl (hb hby at_44) rfl (by decide) k) ?_
    show OwnEnds _ _ _ _ _ _ _ (T27.setTop (mkF m 45 #[.val (.int p0), .val (.int p1), .val (.int p2), .val (.int (5 : Int32)), .val (.ref w_FOUND), .val (.int (1 : Int32)), .unset] [(.int ((p1 &&& (2147483647 : Int32)) % (6 : Int32)))]))
    obtain ⟨v28, _, ⟨T28, L28, k28, n28⟩, -, X28, ⟨Lc28, hQ28, l28, y28, z28⟩, st28⟩ := Jvm.LawKit.callS X27 hx (y := (⟨"com/example/tidingsd/tidingsd/model/StateIsSettledPinLaw", "op", "(I)Lcom/example/tidingsd/tidingsd/model/Operation;"⟩ : MethodName)) hown (mvT hZ (hw _ (List.mem_of_getElem? (i := 14) rfl))) (mvT hZ (hw _ (List.mem_of_getElem? (i := 15) rfl))) (mvT hZ (hw _ (List.mem_of_getElem? (i := 3) rfl))) (mvT hZ (hw _ (List.mem_of_getElem? (i := 16) rfl))) (by decide) (backOf (W := 0) (rm2 l Z a0 hw [] ((p1 &&& (2147483647 : Int32)) % (6 : Int32)) w_DELIVER w_ACKNOWLEDGE w_PROBE w_RESPONSE w_CANCEL w_CANCELED_Operation h0 n0 Z0 S_DELIVER S_ACKNOWLEDGE S_PROBE S_RESPONSE S_CANCEL S_CANCELED_Operation) hZ (hw _ (List.mem_of_getElem? (i := 16) rfl)) (hw _ (List.mem_of_getElem? (i := 3) rfl)) (by decide) (by decide)) (g := (mkF m 45 #[.val (.int p0), .val (.int p1), .val (.int p2), .val (.int (5 : Int32)), .val (.ref w_FOUND), .val (.int (1 : Int32)), .unset] [(.int ((p1 &&& (2147483647 : Int32)) % (6 : Int32)))])) rfl (by rw [hml]; rfl) (argsL := [(.int ((p1 &&& (2147483647 : Int32)) % (6 : Int32)))]) (rest := []) (lenOf pd__I_Lcom_example_tidingsd_tidingsd_model_Operation_ rfl) rfl (by show 2 * 0 + _ ≤ _; exact Nat.le_of_eq rfl) (hb hby at_45) (fun _ _ => ⟨rfl, e27, (by decide : 0 + 0 ≤ _), (by decide : 0 + 0 ≤ _)⟩)
    dsimp only [Pt.U, Pt.locs, Pt.cells, Pt.slots] at X28 l28 y28 z28 st28 hQ28
    subst l28 y28 z28
    obtain ⟨rfl, N28q, e28⟩ := hQ28
    have N28 := Fr.app N27 N28q
    refine ogo (fun t k => st28 t k) ?_
    show OwnEnds _ _ _ _ _ _ _ (T28.setTop (mkF m 48 #[.val (.int p0), .val (.int p1), .val (.int p2), .val (.int (5 : Int32)), .val (.ref w_FOUND), .val (.int (1 : Int32)), .unset] [(.ref (own_op ((p1 &&& (2147483647 : Int32)) % (6 : Int32)) w_DELIVER w_ACKNOWLEDGE w_PROBE w_RESPONSE w_CANCEL w_CANCELED_Operation))]))
    refine ogo (fun t k => XS.astore X28.here hx rfl (hb hby at_48) rfl rfl (l' := #[.val (.int p0), .val (.int p1), .val (.int p2), .val (.int (5 : Int32)), .val (.ref w_FOUND), .val (.int (1 : Int32)), .val (.ref (own_op ((p1 &&& (2147483647 : Int32)) % (6 : Int32)) w_DELIVER w_ACKNOWLEDGE w_PROBE w_RESPONSE w_CANCEL w_CANCELED_Operation))]) rfl k) ?_
    show OwnEnds _ _ _ _ _ _ _ (T28.setTop (mkF m 50 #[.val (.int p0), .val (.int p1), .val (.int p2), .val (.int (5 : Int32)), .val (.ref w_FOUND), .val (.int (1 : Int32)), .val (.ref (own_op ((p1 &&& (2147483647 : Int32)) % (6 : Int32)) w_DELIVER w_ACKNOWLEDGE w_PROBE w_RESPONSE w_CANCEL w_CANCELED_Operation))] []))
    refine ogo (fun t k => XS.aload X28.here hx rfl (hb hby at_50) rfl rfl k) ?_
    show OwnEnds _ _ _ _ _ _ _ (T28.setTop (mkF m 52 #[.val (.int p0), .val (.int p1), .val (.int p2), .val (.int (5 : Int32)), .val (.ref w_FOUND), .val (.int (1 : Int32)), .val (.ref (own_op ((p1 &&& (2147483647 : Int32)) % (6 : Int32)) w_DELIVER w_ACKNOWLEDGE w_PROBE w_RESPONSE w_CANCEL w_CANCELED_Operation))] [(.ref (own_op ((p1 &&& (2147483647 : Int32)) % (6 : Int32)) w_DELIVER w_ACKNOWLEDGE w_PROBE w_RESPONSE w_CANCEL w_CANCELED_Operation))]))
    refine ogo (fun t k => XS.iloadN X28.here hx rfl (hb hby at_52) rfl k) ?_
    show OwnEnds _ _ _ _ _ _ _ (T28.setTop (mkF m 53 #[.val (.int p0), .val (.int p1), .val (.int p2), .val (.int (5 : Int32)), .val (.ref w_FOUND), .val (.int (1 : Int32)), .val (.ref (own_op ((p1 &&& (2147483647 : Int32)) % (6 : Int32)) w_DELIVER w_ACKNOWLEDGE w_PROBE w_RESPONSE w_CANCEL w_CANCELED_Operation))] [(.int p2), (.ref (own_op ((p1 &&& (2147483647 : Int32)) % (6 : Int32)) w_DELIVER w_ACKNOWLEDGE w_PROBE w_RESPONSE w_CANCEL w_CANCELED_Operation))]))
    obtain ⟨v29, _, ⟨T29, L29, k29, n29⟩, -, X29, ⟨Lc29, hQ29, l29, y29, z29⟩, st29⟩ := Jvm.LawKit.callS X28 hx (y := (⟨"com/example/tidingsd/tidingsd/model/Notice$State", "settled", "(Lcom/example/tidingsd/tidingsd/model/Operation;I)Lcom/example/tidingsd/tidingsd/model/Notice$State;"⟩ : MethodName)) hown (mvT hZ (hw _ (List.mem_of_getElem? (i := 20) rfl))) (mvT hZ (hw _ (List.mem_of_getElem? (i := 21) rfl))) (mvT hZ (hw _ (List.mem_of_getElem? (i := 6) rfl))) (mvT hZ (hw _ (List.mem_of_getElem? (i := 22) rfl))) (by decide) (backOf (W := 0) (rm5 l Z a0 hw [] (own_op ((p1 &&& (2147483647 : Int32)) % (6 : Int32)) w_DELIVER w_ACKNOWLEDGE w_PROBE w_RESPONSE w_CANCEL w_CANCELED_Operation) p2 w_HELD w_RESPONSE w_OK w_MAILBOX_MOVED w_PROBE w_CANCEL w_FAILED w_SENT w_DELIVER w_MOVED w_MISSING w_FOUND w_REFUSED w_CANCELED_Operation w_ACKNOWLEDGE w_DELIVERED w_DONE w_CANCELED_Notice_State h0 n0 Z0 S_HELD E_HELD F_ordinal_HELD S_RESPONSE E_RESPONSE F_ordinal_RESPONSE S_OK E_OK F_errorClass_OK S_MAILBOX_MOVED E_MAILBOX_MOVED F_errorClass_MAILBOX_MOVED S_PROBE E_PROBE F_ordinal_PROBE S_CANCEL E_CANCEL F_ordinal_CANCEL S_FAILED E_FAILED F_ordinal_FAILED S_SENT E_SENT F_ordinal_SENT S_DELIVER E_DELIVER F_ordinal_DELIVER S_MOVED E_MOVED F_ordinal_MOVED S_MISSING E_MISSING F_ordinal_MISSING S_FOUND E_FOUND F_ordinal_FOUND S_REFUSED E_REFUSED F_ordinal_REFUSED S_CANCELED_Operation E_CANCELED_Operation F_ordinal_CANCELED_Operation S_ACKNOWLEDGE E_ACKNOWLEDGE F_ordinal_ACKNOWLEDGE S_DELIVERED E_DELIVERED F_ordinal_DELIVERED S_DONE E_DONE F_ordinal_DONE S_CANCELED_Notice_State E_CANCELED_Notice_State F_ordinal_CANCELED_Notice_State) hZ (hw _ (List.mem_of_getElem? (i := 22) rfl)) (hw _ (List.mem_of_getElem? (i := 6) rfl)) (by decide) (by decide)) (g := (mkF m 53 #[.val (.int p0), .val (.int p1), .val (.int p2), .val (.int (5 : Int32)), .val (.ref w_FOUND), .val (.int (1 : Int32)), .val (.ref (own_op ((p1 &&& (2147483647 : Int32)) % (6 : Int32)) w_DELIVER w_ACKNOWLEDGE w_PROBE w_RESPONSE w_CANCEL w_CANCELED_Operation))] [(.int p2), (.ref (own_op ((p1 &&& (2147483647 : Int32)) % (6 : Int32)) w_DELIVER w_ACKNOWLEDGE w_PROBE w_RESPONSE w_CANCEL w_CANCELED_Operation))])) rfl (by rw [hml]; rfl) (argsL := [(.ref (own_op ((p1 &&& (2147483647 : Int32)) % (6 : Int32)) w_DELIVER w_ACKNOWLEDGE w_PROBE w_RESPONSE w_CANCEL w_CANCELED_Operation)), (.int p2)]) (rest := []) (lenOf pd_3a3b7d88 rfl) rfl (by show 2 * 0 + _ ≤ _; exact Nat.le_of_eq rfl) (hb hby at_53) (fun _ _ => ⟨rfl, e28, (by decide : 0 + 0 ≤ _), (by decide : 0 + 0 ≤ _)⟩)
    dsimp only [Pt.U, Pt.locs, Pt.cells, Pt.slots] at X29 l29 y29 z29 st29 hQ29
    subst l29 y29 z29
    obtain ⟨r, rfl, hrE, hrH, hrS, N29q, e29⟩ := hQ29
    have N29 := Fr.app N28 N29q
    refine ogo (fun t k => st29 t k) ?_
    show OwnEnds _ _ _ _ _ _ _ (T29.setTop (mkF m 56 #[.val (.int p0), .val (.int p1), .val (.int p2), .val (.int (5 : Int32)), .val (.ref w_FOUND), .val (.int (1 : Int32)), .val (.ref (own_op ((p1 &&& (2147483647 : Int32)) % (6 : Int32)) w_DELIVER w_ACKNOWLEDGE w_PROBE w_RESPONSE w_CANCEL w_CANCELED_Operation))] [(.ref r)]))
    obtain ⟨cq30, kq30, q30a, q30b, q30c⟩ := isOf hZ e29 hrE
    obtain ⟨v30, _, ⟨T30, L30, k30, n30⟩, -, X30, ⟨Lc30, hQ30, l30, y30, z30⟩, st30⟩ := X29.virtualBack hx (y := (⟨"com/example/tidingsd/tidingsd/model/Notice$State", "isSettled", "()Z"⟩ : MethodName)) (z := (⟨"com/example/tidingsd/tidingsd/model/Notice$State", "isSettled", "()Z"⟩ : MethodName)) hown (mvT hZ (hw _ (List.mem_of_getElem? (i := 8) rfl))) (mvT hZ (hw _ (List.mem_of_getElem? (i := 9) rfl))) (notFace_of_selects (args := #[]) (mvT hZ (hw _ (List.mem_of_getElem? (i := 11) rfl)))) (mvT hZ (hw _ (List.mem_of_getElem? (i := 11) rfl))) (mvT hZ (hw _ (List.mem_of_getElem? (i := 10) rfl))) (by decide) (backOf (W := 0) (rm3 l Z a0 hw [] r w_HELD w_SENT h0 n0 Z0 S_HELD S_SENT) hZ (hw _ (List.mem_of_getElem? (i := 12) rfl)) (hw _ (List.mem_of_getElem? (i := 6) rfl)) (by decide) (by decide)) q30a q30c (g := (mkF m 56 #[.val (.int p0), .val (.int p1), .val (.int p2), .val (.int (5 : Int32)), .val (.ref w_FOUND), .val (.int (1 : Int32)), .val (.ref (own_op ((p1 &&& (2147483647 : Int32)) % (6 : Int32)) w_DELIVER w_ACKNOWLEDGE w_PROBE w_RESPONSE w_CANCEL w_CANCELED_Operation))] [(.ref r)])) rfl (by rw [hml]; rfl) (Steps.refl _) (argsL := []) (rest := []) (lenOf pd___Z rfl) rfl (by show 2 * 0 + _ ≤ _; exact Nat.le_of_eq rfl) (hb hby at_56) (fun _ _ => ⟨rfl, e29, (by decide : 0 + 0 ≤ _), (by decide : 0 + 0 ≤ _)⟩)
    dsimp only [Pt.U, Pt.locs, Pt.cells, Pt.slots] at X30 l30 y30 z30 st30 hQ30
    subst l30 y30 z30
    obtain ⟨hv30, N30q, e30⟩ := hQ30
    obtain rfl : v30 = some (.int (1 : Int32)) := hv30.trans (by simp [hrH, hrS])
    have N30 := Fr.app N29 N30q
    refine ogo (fun t k => st30.trans k) ?_
    show OwnEnds _ _ _ _ _ _ _ (T30.setTop (mkF m 59 #[.val (.int p0), .val (.int p1), .val (.int p2), .val (.int (5 : Int32)), .val (.ref w_FOUND), .val (.int (1 : Int32)), .val (.ref (own_op ((p1 &&& (2147483647 : Int32)) % (6 : Int32)) w_DELIVER w_ACKNOWLEDGE w_PROBE w_RESPONSE w_CANCEL w_CANCELED_Operation))] [(.int (1 : Int32))]))
    refine endZ X30 hx hlk Bd.returns rfl (hb hby at_59) (by decide) (by decide) ?_
    show Q0 Z p0 p1 p2 w_HELD w_RESPONSE w_OK w_MAILBOX_MOVED w_PROBE w_CANCEL w_FAILED w_SENT w_DELIVER w_MOVED w_MISSING w_FOUND w_REFUSED w_CANCELED_Operation w_ACKNOWLEDGE w_DELIVERED w_DONE w_CANCELED_Notice_State h0 n0 _ T30.heap _
    rw [e30]
    exact ⟨rfl, N30⟩
  · show OwnEnds _ _ _ _ _ _ _ (s₁.setTop (mkF m 7 #[.val (.int p0), .val (.int p1), .val (.int p2), .unset, .unset, .unset, .unset] [(.int (6 : Int32))]))
    refine ogo (fun t k => XS.istoreN X0.here hx rfl (hb hby at_7) rfl (l' := #[.val (.int p0), .val (.int p1), .val (.int p2), .val (.int (6 : Int32)), .unset, .unset, .unset]) rfl k) ?_
    show OwnEnds _ _ _ _ _ _ _ (s₁.setTop (mkF m 8 #[.val (.int p0), .val (.int p1), .val (.int p2), .val (.int (6 : Int32)), .unset, .unset, .unset] []))
    refine ogo (fun t k => XS.iloadN X0.here hx rfl (hb hby at_8) rfl k) ?_
    show OwnEnds _ _ _ _ _ _ _ (s₁.setTop (mkF m 9 #[.val (.int p0), .val (.int p1), .val (.int p2), .val (.int (6 : Int32)), .unset, .unset, .unset] [(.int (6 : Int32))]))
    obtain ⟨v31, _, ⟨T31, L31, k31, n31⟩, -, X31, ⟨Lc31, hQ31, l31, y31, z31⟩, st31⟩ := Jvm.LawKit.callS X0 hx (y := (⟨"com/example/tidingsd/tidingsd/model/StateIsSettledPinLaw", "state", "(I)Lcom/example/tidingsd/tidingsd/model/Notice$State;"⟩ : MethodName)) hown (mvT hZ (hw _ (List.mem_of_getElem? (i := 1) rfl))) (mvT hZ (hw _ (List.mem_of_getElem? (i := 2) rfl))) (mvT hZ (hw _ (List.mem_of_getElem? (i := 3) rfl))) (mvT hZ (hw _ (List.mem_of_getElem? (i := 4) rfl))) (by decide) (backOf (W := 0) (rm1 l Z a0 hw [] (6 : Int32) w_HELD w_SENT w_DELIVERED w_FAILED w_MOVED w_FOUND w_MISSING w_DONE w_REFUSED w_CANCELED_Notice_State h0 n0 Z0 S_HELD S_SENT S_DELIVERED S_FAILED S_MOVED S_FOUND S_MISSING S_DONE S_REFUSED S_CANCELED_Notice_State) hZ (hw _ (List.mem_of_getElem? (i := 4) rfl)) (hw _ (List.mem_of_getElem? (i := 3) rfl)) (by decide) (by decide)) (g := (mkF m 9 #[.val (.int p0), .val (.int p1), .val (.int p2), .val (.int (6 : Int32)), .unset, .unset, .unset] [(.int (6 : Int32))])) rfl (by rw [hml]; rfl) (argsL := [(.int (6 : Int32))]) (rest := []) (lenOf pd__I_Lcom_example_tidingsd_tidingsd_model_Notice_State_ rfl) rfl (by show 2 * 0 + _ ≤ _; exact Nat.le_of_eq rfl) (hb hby at_9) (fun _ _ => ⟨rfl, e0, (by decide : 0 + 0 ≤ _), (by decide : 0 + 0 ≤ _)⟩)
    dsimp only [Pt.U, Pt.locs, Pt.cells, Pt.slots] at X31 l31 y31 z31 st31 hQ31
    subst l31 y31 z31
    obtain ⟨hv31, N31q, e31⟩ := hQ31
    obtain rfl : v31 = some (.ref w_MISSING) := hv31.trans (by simp [own_state])
    have N31 := Fr.app N0 N31q
    refine ogo (fun t k => st31 t k) ?_
    show OwnEnds _ _ _ _ _ _ _ (T31.setTop (mkF m 12 #[.val (.int p0), .val (.int p1), .val (.int p2), .val (.int (6 : Int32)), .unset, .unset, .unset] [(.ref w_MISSING)]))
    refine ogo (fun t k => XS.astore X31.here hx rfl (hb hby at_12) rfl rfl (l' := #[.val (.int p0), .val (.int p1), .val (.int p2), .val (.int (6 : Int32)), .val (.ref w_MISSING), .unset, .unset]) rfl k) ?_
    show OwnEnds _ _ _ _ _ _ _ (T31.setTop (mkF m 14 #[.val (.int p0), .val (.int p1), .val (.int p2), .val (.int (6 : Int32)), .val (.ref w_MISSING), .unset, .unset] []))
    refine ogo (fun t k => XS.iloadN X31.here hx rfl (hb hby at_14) rfl k) ?_
    show OwnEnds _ _ _ _ _ _ _ (T31.setTop (mkF m 15 #[.val (.int p0), .val (.int p1), .val (.int p2), .val (.int (6 : Int32)), .val (.ref w_MISSING), .unset, .unset] [(.int (6 : Int32))]))
    refine ogo (fun t k => XS.iconst X31.here hx rfl (hb hby at_15) k) ?_
    show OwnEnds _ _ _ _ _ _ _ (T31.setTop (mkF m 16 #[.val (.int p0), .val (.int p1), .val (.int p2), .val (.int (6 : Int32)), .val (.ref w_MISSING), .unset, .unset] [(.int (2 : Int32)), (.int (6 : Int32))]))
    refine ogo (fun t k => XS.icmpNo X31.here hx rfl (hb hby at_16) rfl (flt (by decide : ¬ ((6 : Int32) < (2 : Int32)))).1 k) ?_
    show OwnEnds _ _ _ _ _ _ _ (T31.setTop (mkF m 19 #[.val (.int p0), .val (.int p1), .val (.int p2), .val (.int (6 : Int32)), .val (.ref w_MISSING), .unset, .unset] []))
    refine ogo (fun t k => XS.iconst X31.here hx rfl (hb hby at_19) k) ?_
    show OwnEnds _ _ _ _ _ _ _ (T31.setTop (mkF m 20 #[.val (.int p0), .val (.int p1), .val (.int p2), .val (.int (6 : Int32)), .val (.ref w_MISSING), .unset, .unset] [(.int (1 : Int32))]))
    refine ogo (fun t k => XS.goto X31.here hx rfl (pc0 := 20) (pc' := 24) rfl (hb hby at_20) (by decide) (by decide) k) ?_
    show OwnEnds _ _ _ _ _ _ _ (T31.setTop (mkF m 24 #[.val (.int p0), .val (.int p1), .val (.int p2), .val (.int (6 : Int32)), .val (.ref w_MISSING), .unset, .unset] [(.int (1 : Int32))]))
    refine ogo (fun t k => XS.istore X31.here hx rfl (hb hby at_24) rfl (l' := #[.val (.int p0), .val (.int p1), .val (.int p2), .val (.int (6 : Int32)), .val (.ref w_MISSING), .val (.int (1 : Int32)), .unset]) rfl k) ?_
    show OwnEnds _ _ _ _ _ _ _ (T31.setTop (mkF m 26 #[.val (.int p0), .val (.int p1), .val (.int p2), .val (.int (6 : Int32)), .val (.ref w_MISSING), .val (.int (1 : Int32)), .unset] []))
    refine ogo (fun t k => XS.aload X31.here hx rfl (hb hby at_26) rfl rfl k) ?_
    show OwnEnds _ _ _ _ _ _ _ (T31.setTop (mkF m 28 #[.val (.int p0), .val (.int p1), .val (.int p2), .val (.int (6 : Int32)), .val (.ref w_MISSING), .val (.int (1 : Int32)), .unset] [(.ref w_MISSING)]))
    obtain ⟨cq32, kq32, q32a, q32b, q32c⟩ := isOf hZ e31 E_MISSING
    obtain ⟨v32, _, ⟨T32, L32, k32, n32⟩, -, X32, ⟨Lc32, hQ32, l32, y32, z32⟩, st32⟩ := X31.virtualBack hx (y := (⟨"com/example/tidingsd/tidingsd/model/Notice$State", "isSettled", "()Z"⟩ : MethodName)) (z := (⟨"com/example/tidingsd/tidingsd/model/Notice$State", "isSettled", "()Z"⟩ : MethodName)) hown (mvT hZ (hw _ (List.mem_of_getElem? (i := 8) rfl))) (mvT hZ (hw _ (List.mem_of_getElem? (i := 9) rfl))) (notFace_of_selects (args := #[]) (mvT hZ (hw _ (List.mem_of_getElem? (i := 11) rfl)))) (mvT hZ (hw _ (List.mem_of_getElem? (i := 11) rfl))) (mvT hZ (hw _ (List.mem_of_getElem? (i := 10) rfl))) (by decide) (backOf (W := 0) (rm3 l Z a0 hw [] w_MISSING w_HELD w_SENT h0 n0 Z0 S_HELD S_SENT) hZ (hw _ (List.mem_of_getElem? (i := 12) rfl)) (hw _ (List.mem_of_getElem? (i := 6) rfl)) (by decide) (by decide)) q32a q32c (g := (mkF m 28 #[.val (.int p0), .val (.int p1), .val (.int p2), .val (.int (6 : Int32)), .val (.ref w_MISSING), .val (.int (1 : Int32)), .unset] [(.ref w_MISSING)])) rfl (by rw [hml]; rfl) (Steps.refl _) (argsL := []) (rest := []) (lenOf pd___Z rfl) rfl (by show 2 * 0 + _ ≤ _; exact Nat.le_of_eq rfl) (hb hby at_28) (fun _ _ => ⟨rfl, e31, (by decide : 0 + 0 ≤ _), (by decide : 0 + 0 ≤ _)⟩)
    dsimp only [Pt.U, Pt.locs, Pt.cells, Pt.slots] at X32 l32 y32 z32 st32 hQ32
    subst l32 y32 z32
    obtain ⟨hv32, N32q, e32⟩ := hQ32
    obtain rfl : v32 = some (.int (1 : Int32)) := hv32.trans (by simp [(Fld.ne F_ordinal_MISSING F_ordinal_HELD (by simp)), (Fld.ne F_ordinal_MISSING F_ordinal_SENT (by simp))])
    have N32 := Fr.app N31 N32q
    refine ogo (fun t k => st32.trans k) ?_
    show OwnEnds _ _ _ _ _ _ _ (T32.setTop (mkF m 31 #[.val (.int p0), .val (.int p1), .val (.int p2), .val (.int (6 : Int32)), .val (.ref w_MISSING), .val (.int (1 : Int32)), .unset] [(.int (1 : Int32))]))
    refine ogo (fun t k => XS.iload X32.here hx rfl (hb hby at_31) rfl k) ?_
    show OwnEnds _ _ _ _ _ _ _ (T32.setTop (mkF m 33 #[.val (.int p0), .val (.int p1), .val (.int p2), .val (.int (6 : Int32)), .val (.ref w_MISSING), .val (.int (1 : Int32)), .unset] [(.int (1 : Int32)), (.int (1 : Int32))]))
    refine ogo (fun t k => XS.icmpYes X32.here hx rfl (pc0 := 33) (pc' := 38) rfl (hb hby at_33) rfl (teq (by decide : (1 : Int32) = (1 : Int32))).1 (by decide) (by decide) k) ?_
    show OwnEnds _ _ _ _ _ _ _ (T32.setTop (mkF m 38 #[.val (.int p0), .val (.int p1), .val (.int p2), .val (.int (6 : Int32)), .val (.ref w_MISSING), .val (.int (1 : Int32)), .unset] []))
    refine ogo (fun t k => XS.iloadN X32.here hx rfl (hb hby at_38) rfl k) ?_
    show OwnEnds _ _ _ _ _ _ _ (T32.setTop (mkF m 39 #[.val (.int p0), .val (.int p1), .val (.int p2), .val (.int (6 : Int32)), .val (.ref w_MISSING), .val (.int (1 : Int32)), .unset] [(.int p1)]))
    refine ogo (fun t k => X32.ldcInt hx hown (mvT hZ (hw _ (List.mem_of_getElem? (i := 0) rfl))) (g := (mkF m 39 #[.val (.int p0), .val (.int p1), .val (.int p2), .val (.int (6 : Int32)), .val (.ref w_MISSING), .val (.int (1 : Int32)), .unset] [(.int p1)])) rfl (hb hby at_39) t k) ?_
    show OwnEnds _ _ _ _ _ _ _ (T32.setTop (mkF m 41 #[.val (.int p0), .val (.int p1), .val (.int p2), .val (.int (6 : Int32)), .val (.ref w_MISSING), .val (.int (1 : Int32)), .unset] [(.int (2147483647 : Int32)), (.int p1)]))
    refine ogo (fun t k => XS.iand X32.here hx rfl (hb hby at_41) rfl k) ?_
    show OwnEnds _ _ _ _ _ _ _ (T32.setTop (mkF m 42 #[.val (.int p0), .val (.int p1), .val (.int p2), .val (.int (6 : Int32)), .val (.ref w_MISSING), .val (.int (1 : Int32)), .unset] [(.int (p1 &&& (2147483647 : Int32)))]))
    refine ogo (fun t k => XS.bipush X32.here hx rfl (hb hby at_42) k) ?_
    show OwnEnds _ _ _ _ _ _ _ (T32.setTop (mkF m 44 #[.val (.int p0), .val (.int p1), .val (.int p2), .val (.int (6 : Int32)), .val (.ref w_MISSING), .val (.int (1 : Int32)), .unset] [(.int (6 : Int32)), (.int (p1 &&& (2147483647 : Int32)))]))
    refine ogo (fun t k => iremM (g := (mkF m 44 #[.val (.int p0), .val (.int p1), .val (.int p2), .val (.int (6 : Int32)), .val (.ref w_MISSING), .val (.int (1 : Int32)), .unset] [(.int (6 : Int32)), (.int (p1 &&& (2147483647 : Int32)))])) X32 hx rfl (hb hby at_44) rfl (by decide) k) ?_
    show OwnEnds _ _ _ _ _ _ _ (T32.setTop (mkF m 45 #[.val (.int p0), .val (.int p1), .val (.int p2), .val (.int (6 : Int32)), .val (.ref w_MISSING), .val (.int (1 : Int32)), .unset] [(.int ((p1 &&& (2147483647 : Int32)) % (6 : Int32)))]))
    obtain ⟨v33, _, ⟨T33, L33, k33, n33⟩, -, X33, ⟨Lc33, hQ33, l33, y33, z33⟩, st33⟩ := Jvm.LawKit.callS X32 hx (y := (⟨"com/example/tidingsd/tidingsd/model/StateIsSettledPinLaw", "op", "(I)Lcom/example/tidingsd/tidingsd/model/Operation;"⟩ : MethodName)) hown (mvT hZ (hw _ (List.mem_of_getElem? (i := 14) rfl))) (mvT hZ (hw _ (List.mem_of_getElem? (i := 15) rfl))) (mvT hZ (hw _ (List.mem_of_getElem? (i := 3) rfl))) (mvT hZ (hw _ (List.mem_of_getElem? (i := 16) rfl))) (by decide) (backOf (W := 0) (rm2 l Z a0 hw [] ((p1 &&& (2147483647 : Int32)) % (6 : Int32)) w_DELIVER w_ACKNOWLEDGE w_PROBE w_RESPONSE w_CANCEL w_CANCELED_Operation h0 n0 Z0 S_DELIVER S_ACKNOWLEDGE S_PROBE S_RESPONSE S_CANCEL S_CANCELED_Operation) hZ (hw _ (List.mem_of_getElem? (i := 16) rfl)) (hw _ (List.mem_of_getElem? (i := 3) rfl)) (by decide) (by decide)) (g := (mkF m 45 #[.val (.int p0), .val (.int p1), .val (.int p2), .val (.int (6 : Int32)), .val (.ref w_MISSING), .val (.int (1 : Int32)), .unset] [(.int ((p1 &&& (2147483647 : Int32)) % (6 : Int32)))])) rfl (by rw [hml]; rfl) (argsL := [(.int ((p1 &&& (2147483647 : Int32)) % (6 : Int32)))]) (rest := []) (lenOf pd__I_Lcom_example_tidingsd_tidingsd_model_Operation_ rfl) rfl (by show 2 * 0 + _ ≤ _; exact Nat.le_of_eq rfl) (hb hby at_45) (fun _ _ => ⟨rfl, e32, (by decide : 0 + 0 ≤ _), (by decide : 0 + 0 ≤ _)⟩)
    dsimp only [Pt.U, Pt.locs, Pt.cells, Pt.slots] at X33 l33 y33 z33 st33 hQ33
    subst l33 y33 z33
    obtain ⟨rfl, N33q, e33⟩ := hQ33
    have N33 := Fr.app N32 N33q
    refine ogo (fun t k => st33 t k) ?_
    show OwnEnds _ _ _ _ _ _ _ (T33.setTop (mkF m 48 #[.val (.int p0), .val (.int p1), .val (.int p2), .val (.int (6 : Int32)), .val (.ref w_MISSING), .val (.int (1 : Int32)), .unset] [(.ref (own_op ((p1 &&& (2147483647 : Int32)) % (6 : Int32)) w_DELIVER w_ACKNOWLEDGE w_PROBE w_RESPONSE w_CANCEL w_CANCELED_Operation))]))
    refine ogo (fun t k => XS.astore X33.here hx rfl (hb hby at_48) rfl rfl (l' := #[.val (.int p0), .val (.int p1), .val (.int p2), .val (.int (6 : Int32)), .val (.ref w_MISSING), .val (.int (1 : Int32)), .val (.ref (own_op ((p1 &&& (2147483647 : Int32)) % (6 : Int32)) w_DELIVER w_ACKNOWLEDGE w_PROBE w_RESPONSE w_CANCEL w_CANCELED_Operation))]) rfl k) ?_
    show OwnEnds _ _ _ _ _ _ _ (T33.setTop (mkF m 50 #[.val (.int p0), .val (.int p1), .val (.int p2), .val (.int (6 : Int32)), .val (.ref w_MISSING), .val (.int (1 : Int32)), .val (.ref (own_op ((p1 &&& (2147483647 : Int32)) % (6 : Int32)) w_DELIVER w_ACKNOWLEDGE w_PROBE w_RESPONSE w_CANCEL w_CANCELED_Operation))] []))
    refine ogo (fun t k => XS.aload X33.here hx rfl (hb hby at_50) rfl rfl k) ?_
    show OwnEnds _ _ _ _ _ _ _ (T33.setTop (mkF m 52 #[.val (.int p0), .val (.int p1), .val (.int p2), .val (.int (6 : Int32)), .val (.ref w_MISSING), .val (.int (1 : Int32)), .val (.ref (own_op ((p1 &&& (2147483647 : Int32)) % (6 : Int32)) w_DELIVER w_ACKNOWLEDGE w_PROBE w_RESPONSE w_CANCEL w_CANCELED_Operation))] [(.ref (own_op ((p1 &&& (2147483647 : Int32)) % (6 : Int32)) w_DELIVER w_ACKNOWLEDGE w_PROBE w_RESPONSE w_CANCEL w_CANCELED_Operation))]))
    refine ogo (fun t k => XS.iloadN X33.here hx rfl (hb hby at_52) rfl k) ?_
    show OwnEnds _ _ _ _ _ _ _ (T33.setTop (mkF m 53 #[.val (.int p0), .val (.int p1), .val (.int p2), .val (.int (6 : Int32)), .val (.ref w_MISSING), .val (.int (1 : Int32)), .val (.ref (own_op ((p1 &&& (2147483647 : Int32)) % (6 : Int32)) w_DELIVER w_ACKNOWLEDGE w_PROBE w_RESPONSE w_CANCEL w_CANCELED_Operation))] [(.int p2), (.ref (own_op ((p1 &&& (2147483647 : Int32)) % (6 : Int32)) w_DELIVER w_ACKNOWLEDGE w_PROBE w_RESPONSE w_CANCEL w_CANCELED_Operation))]))
    obtain ⟨v34, _, ⟨T34, L34, k34, n34⟩, -, X34, ⟨Lc34, hQ34, l34, y34, z34⟩, st34⟩ := Jvm.LawKit.callS X33 hx (y := (⟨"com/example/tidingsd/tidingsd/model/Notice$State", "settled", "(Lcom/example/tidingsd/tidingsd/model/Operation;I)Lcom/example/tidingsd/tidingsd/model/Notice$State;"⟩ : MethodName)) hown (mvT hZ (hw _ (List.mem_of_getElem? (i := 20) rfl))) (mvT hZ (hw _ (List.mem_of_getElem? (i := 21) rfl))) (mvT hZ (hw _ (List.mem_of_getElem? (i := 6) rfl))) (mvT hZ (hw _ (List.mem_of_getElem? (i := 22) rfl))) (by decide) (backOf (W := 0) (rm5 l Z a0 hw [] (own_op ((p1 &&& (2147483647 : Int32)) % (6 : Int32)) w_DELIVER w_ACKNOWLEDGE w_PROBE w_RESPONSE w_CANCEL w_CANCELED_Operation) p2 w_HELD w_RESPONSE w_OK w_MAILBOX_MOVED w_PROBE w_CANCEL w_FAILED w_SENT w_DELIVER w_MOVED w_MISSING w_FOUND w_REFUSED w_CANCELED_Operation w_ACKNOWLEDGE w_DELIVERED w_DONE w_CANCELED_Notice_State h0 n0 Z0 S_HELD E_HELD F_ordinal_HELD S_RESPONSE E_RESPONSE F_ordinal_RESPONSE S_OK E_OK F_errorClass_OK S_MAILBOX_MOVED E_MAILBOX_MOVED F_errorClass_MAILBOX_MOVED S_PROBE E_PROBE F_ordinal_PROBE S_CANCEL E_CANCEL F_ordinal_CANCEL S_FAILED E_FAILED F_ordinal_FAILED S_SENT E_SENT F_ordinal_SENT S_DELIVER E_DELIVER F_ordinal_DELIVER S_MOVED E_MOVED F_ordinal_MOVED S_MISSING E_MISSING F_ordinal_MISSING S_FOUND E_FOUND F_ordinal_FOUND S_REFUSED E_REFUSED F_ordinal_REFUSED S_CANCELED_Operation E_CANCELED_Operation F_ordinal_CANCELED_Operation S_ACKNOWLEDGE E_ACKNOWLEDGE F_ordinal_ACKNOWLEDGE S_DELIVERED E_DELIVERED F_ordinal_DELIVERED S_DONE E_DONE F_ordinal_DONE S_CANCELED_Notice_State E_CANCELED_Notice_State F_ordinal_CANCELED_Notice_State) hZ (hw _ (List.mem_of_getElem? (i := 22) rfl)) (hw _ (List.mem_of_getElem? (i := 6) rfl)) (by decide) (by decide)) (g := (mkF m 53 #[.val (.int p0), .val (.int p1), .val (.int p2), .val (.int (6 : Int32)), .val (.ref w_MISSING), .val (.int (1 : Int32)), .val (.ref (own_op ((p1 &&& (2147483647 : Int32)) % (6 : Int32)) w_DELIVER w_ACKNOWLEDGE w_PROBE w_RESPONSE w_CANCEL w_CANCELED_Operation))] [(.int p2), (.ref (own_op ((p1 &&& (2147483647 : Int32)) % (6 : Int32)) w_DELIVER w_ACKNOWLEDGE w_PROBE w_RESPONSE w_CANCEL w_CANCELED_Operation))])) rfl (by rw [hml]; rfl) (argsL := [(.ref (own_op ((p1 &&& (2147483647 : Int32)) % (6 : Int32)) w_DELIVER w_ACKNOWLEDGE w_PROBE w_RESPONSE w_CANCEL w_CANCELED_Operation)), (.int p2)]) (rest := []) (lenOf pd_3a3b7d88 rfl) rfl (by show 2 * 0 + _ ≤ _; exact Nat.le_of_eq rfl) (hb hby at_53) (fun _ _ => ⟨rfl, e33, (by decide : 0 + 0 ≤ _), (by decide : 0 + 0 ≤ _)⟩)
    dsimp only [Pt.U, Pt.locs, Pt.cells, Pt.slots] at X34 l34 y34 z34 st34 hQ34
    subst l34 y34 z34
    obtain ⟨r, rfl, hrE, hrH, hrS, N34q, e34⟩ := hQ34
    have N34 := Fr.app N33 N34q
    refine ogo (fun t k => st34 t k) ?_
    show OwnEnds _ _ _ _ _ _ _ (T34.setTop (mkF m 56 #[.val (.int p0), .val (.int p1), .val (.int p2), .val (.int (6 : Int32)), .val (.ref w_MISSING), .val (.int (1 : Int32)), .val (.ref (own_op ((p1 &&& (2147483647 : Int32)) % (6 : Int32)) w_DELIVER w_ACKNOWLEDGE w_PROBE w_RESPONSE w_CANCEL w_CANCELED_Operation))] [(.ref r)]))
    obtain ⟨cq35, kq35, q35a, q35b, q35c⟩ := isOf hZ e34 hrE
    obtain ⟨v35, _, ⟨T35, L35, k35, n35⟩, -, X35, ⟨Lc35, hQ35, l35, y35, z35⟩, st35⟩ := X34.virtualBack hx (y := (⟨"com/example/tidingsd/tidingsd/model/Notice$State", "isSettled", "()Z"⟩ : MethodName)) (z := (⟨"com/example/tidingsd/tidingsd/model/Notice$State", "isSettled", "()Z"⟩ : MethodName)) hown (mvT hZ (hw _ (List.mem_of_getElem? (i := 8) rfl))) (mvT hZ (hw _ (List.mem_of_getElem? (i := 9) rfl))) (notFace_of_selects (args := #[]) (mvT hZ (hw _ (List.mem_of_getElem? (i := 11) rfl)))) (mvT hZ (hw _ (List.mem_of_getElem? (i := 11) rfl))) (mvT hZ (hw _ (List.mem_of_getElem? (i := 10) rfl))) (by decide) (backOf (W := 0) (rm3 l Z a0 hw [] r w_HELD w_SENT h0 n0 Z0 S_HELD S_SENT) hZ (hw _ (List.mem_of_getElem? (i := 12) rfl)) (hw _ (List.mem_of_getElem? (i := 6) rfl)) (by decide) (by decide)) q35a q35c (g := (mkF m 56 #[.val (.int p0), .val (.int p1), .val (.int p2), .val (.int (6 : Int32)), .val (.ref w_MISSING), .val (.int (1 : Int32)), .val (.ref (own_op ((p1 &&& (2147483647 : Int32)) % (6 : Int32)) w_DELIVER w_ACKNOWLEDGE w_PROBE w_RESPONSE w_CANCEL w_CANCELED_Operation))] [(.ref r)])) rfl (by rw [hml]; rfl) (Steps.refl _) (argsL := []) (rest := []) (lenOf pd___Z rfl) rfl (by show 2 * 0 + _ ≤ _; exact Nat.le_of_eq rfl) (hb hby at_56) (fun _ _ => ⟨rfl, e34, (by decide : 0 + 0 ≤ _), (by decide : 0 + 0 ≤ _)⟩)
    dsimp only [Pt.U, Pt.locs, Pt.cells, Pt.slots] at X35 l35 y35 z35 st35 hQ35
    subst l35 y35 z35
    obtain ⟨hv35, N35q, e35⟩ := hQ35
    obtain rfl : v35 = some (.int (1 : Int32)) := hv35.trans (by simp [hrH, hrS])
    have N35 := Fr.app N34 N35q
    refine ogo (fun t k => st35.trans k) ?_
    show OwnEnds _ _ _ _ _ _ _ (T35.setTop (mkF m 59 #[.val (.int p0), .val (.int p1), .val (.int p2), .val (.int (6 : Int32)), .val (.ref w_MISSING), .val (.int (1 : Int32)), .val (.ref (own_op ((p1 &&& (2147483647 : Int32)) % (6 : Int32)) w_DELIVER w_ACKNOWLEDGE w_PROBE w_RESPONSE w_CANCEL w_CANCELED_Operation))] [(.int (1 : Int32))]))
    refine endZ X35 hx hlk Bd.returns rfl (hb hby at_59) (by decide) (by decide) ?_
    show Q0 Z p0 p1 p2 w_HELD w_RESPONSE w_OK w_MAILBOX_MOVED w_PROBE w_CANCEL w_FAILED w_SENT w_DELIVER w_MOVED w_MISSING w_FOUND w_REFUSED w_CANCELED_Operation w_ACKNOWLEDGE w_DELIVERED w_DONE w_CANCELED_Notice_State h0 n0 _ T35.heap _
    rw [e35]
    exact ⟨rfl, N35⟩
  · show OwnEnds _ _ _ _ _ _ _ (s₁.setTop (mkF m 7 #[.val (.int p0), .val (.int p1), .val (.int p2), .unset, .unset, .unset, .unset] [(.int (7 : Int32))]))
    refine ogo (fun t k => XS.istoreN X0.here hx rfl (hb hby at_7) rfl (l' := #[.val (.int p0), .val (.int p1), .val (.int p2), .val (.int (7 : Int32)), .unset, .unset, .unset]) rfl k) ?_
    show OwnEnds _ _ _ _ _ _ _ (s₁.setTop (mkF m 8 #[.val (.int p0), .val (.int p1), .val (.int p2), .val (.int (7 : Int32)), .unset, .unset, .unset] []))
    refine ogo (fun t k => XS.iloadN X0.here hx rfl (hb hby at_8) rfl k) ?_
    show OwnEnds _ _ _ _ _ _ _ (s₁.setTop (mkF m 9 #[.val (.int p0), .val (.int p1), .val (.int p2), .val (.int (7 : Int32)), .unset, .unset, .unset] [(.int (7 : Int32))]))
    obtain ⟨v36, _, ⟨T36, L36, k36, n36⟩, -, X36, ⟨Lc36, hQ36, l36, y36, z36⟩, st36⟩ := Jvm.LawKit.callS X0 hx (y := (⟨"com/example/tidingsd/tidingsd/model/StateIsSettledPinLaw", "state", "(I)Lcom/example/tidingsd/tidingsd/model/Notice$State;"⟩ : MethodName)) hown (mvT hZ (hw _ (List.mem_of_getElem? (i := 1) rfl))) (mvT hZ (hw _ (List.mem_of_getElem? (i := 2) rfl))) (mvT hZ (hw _ (List.mem_of_getElem? (i := 3) rfl))) (mvT hZ (hw _ (List.mem_of_getElem? (i := 4) rfl))) (by decide) (backOf (W := 0) (rm1 l Z a0 hw [] (7 : Int32) w_HELD w_SENT w_DELIVERED w_FAILED w_MOVED w_FOUND w_MISSING w_DONE w_REFUSED w_CANCELED_Notice_State h0 n0 Z0 S_HELD S_SENT S_DELIVERED S_FAILED S_MOVED S_FOUND S_MISSING S_DONE S_REFUSED S_CANCELED_Notice_State) hZ (hw _ (List.mem_of_getElem? (i := 4) rfl)) (hw _ (List.mem_of_getElem? (i := 3) rfl)) (by decide) (by decide)) (g := (mkF m 9 #[.val (.int p0), .val (.int p1), .val (.int p2), .val (.int (7 : Int32)), .unset, .unset, .unset] [(.int (7 : Int32))])) rfl (by rw [hml]; rfl) (argsL := [(.int (7 : Int32))]) (rest := []) (lenOf pd__I_Lcom_example_tidingsd_tidingsd_model_Notice_State_ rfl) rfl (by show 2 * 0 + _ ≤ _; exact Nat.le_of_eq rfl) (hb hby at_9) (fun _ _ => ⟨rfl, e0, (by decide : 0 + 0 ≤ _), (by decide : 0 + 0 ≤ _)⟩)
    dsimp only [Pt.U, Pt.locs, Pt.cells, Pt.slots] at X36 l36 y36 z36 st36 hQ36
    subst l36 y36 z36
    obtain ⟨hv36, N36q, e36⟩ := hQ36
    obtain rfl : v36 = some (.ref w_DONE) := hv36.trans (by simp [own_state])
    have N36 := Fr.app N0 N36q
    refine ogo (fun t k => st36 t k) ?_
    show OwnEnds _ _ _ _ _ _ _ (T36.setTop (mkF m 12 #[.val (.int p0), .val (.int p1), .val (.int p2), .val (.int (7 : Int32)), .unset, .unset, .unset] [(.ref w_DONE)]))
    refine ogo (fun t k => XS.astore X36.here hx rfl (hb hby at_12) rfl rfl (l' := #[.val (.int p0), .val (.int p1), .val (.int p2), .val (.int (7 : Int32)), .val (.ref w_DONE), .unset, .unset]) rfl k) ?_
    show OwnEnds _ _ _ _ _ _ _ (T36.setTop (mkF m 14 #[.val (.int p0), .val (.int p1), .val (.int p2), .val (.int (7 : Int32)), .val (.ref w_DONE), .unset, .unset] []))
    refine ogo (fun t k => XS.iloadN X36.here hx rfl (hb hby at_14) rfl k) ?_
    show OwnEnds _ _ _ _ _ _ _ (T36.setTop (mkF m 15 #[.val (.int p0), .val (.int p1), .val (.int p2), .val (.int (7 : Int32)), .val (.ref w_DONE), .unset, .unset] [(.int (7 : Int32))]))
    refine ogo (fun t k => XS.iconst X36.here hx rfl (hb hby at_15) k) ?_
    show OwnEnds _ _ _ _ _ _ _ (T36.setTop (mkF m 16 #[.val (.int p0), .val (.int p1), .val (.int p2), .val (.int (7 : Int32)), .val (.ref w_DONE), .unset, .unset] [(.int (2 : Int32)), (.int (7 : Int32))]))
    refine ogo (fun t k => XS.icmpNo X36.here hx rfl (hb hby at_16) rfl (flt (by decide : ¬ ((7 : Int32) < (2 : Int32)))).1 k) ?_
    show OwnEnds _ _ _ _ _ _ _ (T36.setTop (mkF m 19 #[.val (.int p0), .val (.int p1), .val (.int p2), .val (.int (7 : Int32)), .val (.ref w_DONE), .unset, .unset] []))
    refine ogo (fun t k => XS.iconst X36.here hx rfl (hb hby at_19) k) ?_
    show OwnEnds _ _ _ _ _ _ _ (T36.setTop (mkF m 20 #[.val (.int p0), .val (.int p1), .val (.int p2), .val (.int (7 : Int32)), .val (.ref w_DONE), .unset, .unset] [(.int (1 : Int32))]))
    refine ogo (fun t k => XS.goto X36.here hx rfl (pc0 := 20) (pc' := 24) rfl (hb hby at_20) (by decide) (by decide) k) ?_
    show OwnEnds _ _ _ _ _ _ _ (T36.setTop (mkF m 24 #[.val (.int p0), .val (.int p1), .val (.int p2), .val (.int (7 : Int32)), .val (.ref w_DONE), .unset, .unset] [(.int (1 : Int32))]))
    refine ogo (fun t k => XS.istore X36.here hx rfl (hb hby at_24) rfl (l' := #[.val (.int p0), .val (.int p1), .val (.int p2), .val (.int (7 : Int32)), .val (.ref w_DONE), .val (.int (1 : Int32)), .unset]) rfl k) ?_
    show OwnEnds _ _ _ _ _ _ _ (T36.setTop (mkF m 26 #[.val (.int p0), .val (.int p1), .val (.int p2), .val (.int (7 : Int32)), .val (.ref w_DONE), .val (.int (1 : Int32)), .unset] []))
    refine ogo (fun t k => XS.aload X36.here hx rfl (hb hby at_26) rfl rfl k) ?_
    show OwnEnds _ _ _ _ _ _ _ (T36.setTop (mkF m 28 #[.val (.int p0), .val (.int p1), .val (.int p2), .val (.int (7 : Int32)), .val (.ref w_DONE), .val (.int (1 : Int32)), .unset] [(.ref w_DONE)]))
    obtain ⟨cq37, kq37, q37a, q37b, q37c⟩ := isOf hZ e36 E_DONE
    obtain ⟨v37, _, ⟨T37, L37, k37, n37⟩, -, X37, ⟨Lc37, hQ37, l37, y37, z37⟩, st37⟩ := X36.virtualBack hx (y := (⟨"com/example/tidingsd/tidingsd/model/Notice$State", "isSettled", "()Z"⟩ : MethodName)) (z := (⟨"com/example/tidingsd/tidingsd/model/Notice$State", "isSettled", "()Z"⟩ : MethodName)) hown (mvT hZ (hw _ (List.mem_of_getElem? (i := 8) rfl))) (mvT hZ (hw _ (List.mem_of_getElem? (i := 9) rfl))) (notFace_of_selects (args := #[]) (mvT hZ (hw _ (List.mem_of_getElem? (i := 11) rfl)))) (mvT hZ (hw _ (List.mem_of_getElem? (i := 11) rfl))) (mvT hZ (hw _ (List.mem_of_getElem? (i := 10) rfl))) (by decide) (backOf (W := 0) (rm3 l Z a0 hw [] w_DONE w_HELD w_SENT h0 n0 Z0 S_HELD S_SENT) hZ (hw _ (List.mem_of_getElem? (i := 12) rfl)) (hw _ (List.mem_of_getElem? (i := 6) rfl)) (by decide) (by decide)) q37a q37c (g := (mkF m 28 #[.val (.int p0), .val (.int p1), .val (.int p2), .val (.int (7 : Int32)), .val (.ref w_DONE), .val (.int (1 : Int32)), .unset] [(.ref w_DONE)])) rfl (by rw [hml]; rfl) (Steps.refl _) (argsL := []) (rest := []) (lenOf pd___Z rfl) rfl (by show 2 * 0 + _ ≤ _; exact Nat.le_of_eq rfl) (hb hby at_28) (fun _ _ => ⟨rfl, e36, (by decide : 0 + 0 ≤ _), (by decide : 0 + 0 ≤ _)⟩)
    dsimp only [Pt.U, Pt.locs, Pt.cells, Pt.slots] at X37 l37 y37 z37 st37 hQ37
    subst l37 y37 z37
    obtain ⟨hv37, N37q, e37⟩ := hQ37
    obtain rfl : v37 = some (.int (1 : Int32)) := hv37.trans (by simp [(Fld.ne F_ordinal_DONE F_ordinal_HELD (by simp)), (Fld.ne F_ordinal_DONE F_ordinal_SENT (by simp))])
    have N37 := Fr.app N36 N37q
    refine ogo (fun t k => st37.trans k) ?_
    show OwnEnds _ _ _ _ _ _ _ (T37.setTop (mkF m 31 #[.val (.int p0), .val (.int p1), .val (.int p2), .val (.int (7 : Int32)), .val (.ref w_DONE), .val (.int (1 : Int32)), .unset] [(.int (1 : Int32))]))
    refine ogo (fun t k => XS.iload X37.here hx rfl (hb hby at_31) rfl k) ?_
    show OwnEnds _ _ _ _ _ _ _ (T37.setTop (mkF m 33 #[.val (.int p0), .val (.int p1), .val (.int p2), .val (.int (7 : Int32)), .val (.ref w_DONE), .val (.int (1 : Int32)), .unset] [(.int (1 : Int32)), (.int (1 : Int32))]))
    refine ogo (fun t k => XS.icmpYes X37.here hx rfl (pc0 := 33) (pc' := 38) rfl (hb hby at_33) rfl (teq (by decide : (1 : Int32) = (1 : Int32))).1 (by decide) (by decide) k) ?_
    show OwnEnds _ _ _ _ _ _ _ (T37.setTop (mkF m 38 #[.val (.int p0), .val (.int p1), .val (.int p2), .val (.int (7 : Int32)), .val (.ref w_DONE), .val (.int (1 : Int32)), .unset] []))
    refine ogo (fun t k => XS.iloadN X37.here hx rfl (hb hby at_38) rfl k) ?_
    show OwnEnds _ _ _ _ _ _ _ (T37.setTop (mkF m 39 #[.val (.int p0), .val (.int p1), .val (.int p2), .val (.int (7 : Int32)), .val (.ref w_DONE), .val (.int (1 : Int32)), .unset] [(.int p1)]))
    refine ogo (fun t k => X37.ldcInt hx hown (mvT hZ (hw _ (List.mem_of_getElem? (i := 0) rfl))) (g := (mkF m 39 #[.val (.int p0), .val (.int p1), .val (.int p2), .val (.int (7 : Int32)), .val (.ref w_DONE), .val (.int (1 : Int32)), .unset] [(.int p1)])) rfl (hb hby at_39) t k) ?_
    show OwnEnds _ _ _ _ _ _ _ (T37.setTop (mkF m 41 #[.val (.int p0), .val (.int p1), .val (.int p2), .val (.int (7 : Int32)), .val (.ref w_DONE), .val (.int (1 : Int32)), .unset] [(.int (2147483647 : Int32)), (.int p1)]))
    refine ogo (fun t k => XS.iand X37.here hx rfl (hb hby at_41) rfl k) ?_
    show OwnEnds _ _ _ _ _ _ _ (T37.setTop (mkF m 42 #[.val (.int p0), .val (.int p1), .val (.int p2), .val (.int (7 : Int32)), .val (.ref w_DONE), .val (.int (1 : Int32)), .unset] [(.int (p1 &&& (2147483647 : Int32)))]))
    refine ogo (fun t k => XS.bipush X37.here hx rfl (hb hby at_42) k) ?_
    show OwnEnds _ _ _ _ _ _ _ (T37.setTop (mkF m 44 #[.val (.int p0), .val (.int p1), .val (.int p2), .val (.int (7 : Int32)), .val (.ref w_DONE), .val (.int (1 : Int32)), .unset] [(.int (6 : Int32)), (.int (p1 &&& (2147483647 : Int32)))]))
    refine ogo (fun t k => iremM (g := (mkF m 44 #[.val (.int p0), .val (.int p1), .val (.int p2), .val (.int (7 : Int32)), .val (.ref w_DONE), .val (.int (1 : Int32)), .unset] [(.int (6 : Int32)), (.int (p1 &&& (2147483647 : Int32)))])) X37 hx rfl (hb hby at_44) rfl (by decide) k) ?_
    show OwnEnds _ _ _ _ _ _ _ (T37.setTop (mkF m 45 #[.val (.int p0), .val (.int p1), .val (.int p2), .val (.int (7 : Int32)), .val (.ref w_DONE), .val (.int (1 : Int32)), .unset] [(.int ((p1 &&& (2147483647 : Int32)) % (6 : Int32)))]))
    obtain ⟨v38, _, ⟨T38, L38, k38, n38⟩, -, X38, ⟨Lc38, hQ38, l38, y38, z38⟩, st38⟩ := Jvm.LawKit.callS X37 hx (y := (⟨"com/example/tidingsd/tidingsd/model/StateIsSettledPinLaw", "op", "(I)Lcom/example/tidingsd/tidingsd/model/Operation;"⟩ : MethodName)) hown (mvT hZ (hw _ (List.mem_of_getElem? (i := 14) rfl))) (mvT hZ (hw _ (List.mem_of_getElem? (i := 15) rfl))) (mvT hZ (hw _ (List.mem_of_getElem? (i := 3) rfl))) (mvT hZ (hw _ (List.mem_of_getElem? (i := 16) rfl))) (by decide) (backOf (W := 0) (rm2 l Z a0 hw [] ((p1 &&& (2147483647 : Int32)) % (6 : Int32)) w_DELIVER w_ACKNOWLEDGE w_PROBE w_RESPONSE w_CANCEL w_CANCELED_Operation h0 n0 Z0 S_DELIVER S_ACKNOWLEDGE S_PROBE S_RESPONSE S_CANCEL S_CANCELED_Operation) hZ (hw _ (List.mem_of_getElem? (i := 16) rfl)) (hw _ (List.mem_of_getElem? (i := 3) rfl)) (by decide) (by decide)) (g := (mkF m 45 #[.val (.int p0), .val (.int p1), .val (.int p2), .val (.int (7 : Int32)), .val (.ref w_DONE), .val (.int (1 : Int32)), .unset] [(.int ((p1 &&& (2147483647 : Int32)) % (6 : Int32)))])) rfl (by rw [hml]; rfl) (argsL := [(.int ((p1 &&& (2147483647 : Int32)) % (6 : Int32)))]) (rest := []) (lenOf pd__I_Lcom_example_tidingsd_tidingsd_model_Operation_ rfl) rfl (by show 2 * 0 + _ ≤ _; exact Nat.le_of_eq rfl) (hb hby at_45) (fun _ _ => ⟨rfl, e37, (by decide : 0 + 0 ≤ _), (by decide : 0 + 0 ≤ _)⟩)
    dsimp only [Pt.U, Pt.locs, Pt.cells, Pt.slots] at X38 l38 y38 z38 st38 hQ38
    subst l38 y38 z38
    obtain ⟨rfl, N38q, e38⟩ := hQ38
    have N38 := Fr.app N37 N38q
    refine ogo (fun t k => st38 t k) ?_
    show OwnEnds _ _ _ _ _ _ _ (T38.setTop (mkF m 48 #[.val (.int p0), .val (.int p1), .val (.int p2), .val (.int (7 : Int32)), .val (.ref w_DONE), .val (.int (1 : Int32)), .unset] [(.ref (own_op ((p1 &&& (2147483647 : Int32)) % (6 : Int32)) w_DELIVER w_ACKNOWLEDGE w_PROBE w_RESPONSE w_CANCEL w_CANCELED_Operation))]))
    refine ogo (fun t k => XS.astore X38.here hx rfl (hb hby at_48) rfl rfl (l' := #[.val (.int p0), .val (.int p1), .val (.int p2), .val (.int (7 : Int32)), .val (.ref w_DONE), .val (.int (1 : Int32)), .val (.ref (own_op ((p1 &&& (2147483647 : Int32)) % (6 : Int32)) w_DELIVER w_ACKNOWLEDGE w_PROBE w_RESPONSE w_CANCEL w_CANCELED_Operation))]) rfl k) ?_
    show OwnEnds _ _ _ _ _ _ _ (T38.setTop (mkF m 50 #[.val (.int p0), .val (.int p1), .val (.int p2), .val (.int (7 : Int32)), .val (.ref w_DONE), .val (.int (1 : Int32)), .val (.ref (own_op ((p1 &&& (2147483647 : Int32)) % (6 : Int32)) w_DELIVER w_ACKNOWLEDGE w_PROBE w_RESPONSE w_CANCEL w_CANCELED_Operation))] []))
    refine ogo (fun t k => XS.aload X38.here hx rfl (hb hby at_50) rfl rfl k) ?_
    show OwnEnds _ _ _ _ _ _ _ (T38.setTop (mkF m 52 #[.val (.int p0), .val (.int p1), .val (.int p2), .val (.int (7 : Int32)), .val (.ref w_DONE), .val (.int (1 : Int32)), .val (.ref (own_op ((p1 &&& (2147483647 : Int32)) % (6 : Int32)) w_DELIVER w_ACKNOWLEDGE w_PROBE w_RESPONSE w_CANCEL w_CANCELED_Operation))] [(.ref (own_op ((p1 &&& (2147483647 : Int32)) % (6 : Int32)) w_DELIVER w_ACKNOWLEDGE w_PROBE w_RESPONSE w_CANCEL w_CANCELED_Operation))]))
    refine ogo (fun t k => XS.iloadN X38.here hx rfl (hb hby at_52) rfl k) ?_
    show OwnEnds _ _ _ _ _ _ _ (T38.setTop (mkF m 53 #[.val (.int p0), .val (.int p1), .val (.int p2), .val (.int (7 : Int32)), .val (.ref w_DONE), .val (.int (1 : Int32)), .val (.ref (own_op ((p1 &&& (2147483647 : Int32)) % (6 : Int32)) w_DELIVER w_ACKNOWLEDGE w_PROBE w_RESPONSE w_CANCEL w_CANCELED_Operation))] [(.int p2), (.ref (own_op ((p1 &&& (2147483647 : Int32)) % (6 : Int32)) w_DELIVER w_ACKNOWLEDGE w_PROBE w_RESPONSE w_CANCEL w_CANCELED_Operation))]))
    obtain ⟨v39, _, ⟨T39, L39, k39, n39⟩, -, X39, ⟨Lc39, hQ39, l39, y39, z39⟩, st39⟩ := Jvm.LawKit.callS X38 hx (y := (⟨"com/example/tidingsd/tidingsd/model/Notice$State", "settled", "(Lcom/example/tidingsd/tidingsd/model/Operation;I)Lcom/example/tidingsd/tidingsd/model/Notice$State;"⟩ : MethodName)) hown (mvT hZ (hw _ (List.mem_of_getElem? (i := 20) rfl))) (mvT hZ (hw _ (List.mem_of_getElem? (i := 21) rfl))) (mvT hZ (hw _ (List.mem_of_getElem? (i := 6) rfl))) (mvT hZ (hw _ (List.mem_of_getElem? (i := 22) rfl))) (by decide) (backOf (W := 0) (rm5 l Z a0 hw [] (own_op ((p1 &&& (2147483647 : Int32)) % (6 : Int32)) w_DELIVER w_ACKNOWLEDGE w_PROBE w_RESPONSE w_CANCEL w_CANCELED_Operation) p2 w_HELD w_RESPONSE w_OK w_MAILBOX_MOVED w_PROBE w_CANCEL w_FAILED w_SENT w_DELIVER w_MOVED w_MISSING w_FOUND w_REFUSED w_CANCELED_Operation w_ACKNOWLEDGE w_DELIVERED w_DONE w_CANCELED_Notice_State h0 n0 Z0 S_HELD E_HELD F_ordinal_HELD S_RESPONSE E_RESPONSE F_ordinal_RESPONSE S_OK E_OK F_errorClass_OK S_MAILBOX_MOVED E_MAILBOX_MOVED F_errorClass_MAILBOX_MOVED S_PROBE E_PROBE F_ordinal_PROBE S_CANCEL E_CANCEL F_ordinal_CANCEL S_FAILED E_FAILED F_ordinal_FAILED S_SENT E_SENT F_ordinal_SENT S_DELIVER E_DELIVER F_ordinal_DELIVER S_MOVED E_MOVED F_ordinal_MOVED S_MISSING E_MISSING F_ordinal_MISSING S_FOUND E_FOUND F_ordinal_FOUND S_REFUSED E_REFUSED F_ordinal_REFUSED S_CANCELED_Operation E_CANCELED_Operation F_ordinal_CANCELED_Operation S_ACKNOWLEDGE E_ACKNOWLEDGE F_ordinal_ACKNOWLEDGE S_DELIVERED E_DELIVERED F_ordinal_DELIVERED S_DONE E_DONE F_ordinal_DONE S_CANCELED_Notice_State E_CANCELED_Notice_State F_ordinal_CANCELED_Notice_State) hZ (hw _ (List.mem_of_getElem? (i := 22) rfl)) (hw _ (List.mem_of_getElem? (i := 6) rfl)) (by decide) (by decide)) (g := (mkF m 53 #[.val (.int p0), .val (.int p1), .val (.int p2), .val (.int (7 : Int32)), .val (.ref w_DONE), .val (.int (1 : Int32)), .val (.ref (own_op ((p1 &&& (2147483647 : Int32)) % (6 : Int32)) w_DELIVER w_ACKNOWLEDGE w_PROBE w_RESPONSE w_CANCEL w_CANCELED_Operation))] [(.int p2), (.ref (own_op ((p1 &&& (2147483647 : Int32)) % (6 : Int32)) w_DELIVER w_ACKNOWLEDGE w_PROBE w_RESPONSE w_CANCEL w_CANCELED_Operation))])) rfl (by rw [hml]; rfl) (argsL := [(.ref (own_op ((p1 &&& (2147483647 : Int32)) % (6 : Int32)) w_DELIVER w_ACKNOWLEDGE w_PROBE w_RESPONSE w_CANCEL w_CANCELED_Operation)), (.int p2)]) (rest := []) (lenOf pd_3a3b7d88 rfl) rfl (by show 2 * 0 + _ ≤ _; exact Nat.le_of_eq rfl) (hb hby at_53) (fun _ _ => ⟨rfl, e38, (by decide : 0 + 0 ≤ _), (by decide : 0 + 0 ≤ _)⟩)
    dsimp only [Pt.U, Pt.locs, Pt.cells, Pt.slots] at X39 l39 y39 z39 st39 hQ39
    subst l39 y39 z39
    obtain ⟨r, rfl, hrE, hrH, hrS, N39q, e39⟩ := hQ39
    have N39 := Fr.app N38 N39q
    refine ogo (fun t k => st39 t k) ?_
    show OwnEnds _ _ _ _ _ _ _ (T39.setTop (mkF m 56 #[.val (.int p0), .val (.int p1), .val (.int p2), .val (.int (7 : Int32)), .val (.ref w_DONE), .val (.int (1 : Int32)), .val (.ref (own_op ((p1 &&& (2147483647 : Int32)) % (6 : Int32)) w_DELIVER w_ACKNOWLEDGE w_PROBE w_RESPONSE w_CANCEL w_CANCELED_Operation))] [(.ref r)]))
    obtain ⟨cq40, kq40, q40a, q40b, q40c⟩ := isOf hZ e39 hrE
    obtain ⟨v40, _, ⟨T40, L40, k40, n40⟩, -, X40, ⟨Lc40, hQ40, l40, y40, z40⟩, st40⟩ := X39.virtualBack hx (y := (⟨"com/example/tidingsd/tidingsd/model/Notice$State", "isSettled", "()Z"⟩ : MethodName)) (z := (⟨"com/example/tidingsd/tidingsd/model/Notice$State", "isSettled", "()Z"⟩ : MethodName)) hown (mvT hZ (hw _ (List.mem_of_getElem? (i := 8) rfl))) (mvT hZ (hw _ (List.mem_of_getElem? (i := 9) rfl))) (notFace_of_selects (args := #[]) (mvT hZ (hw _ (List.mem_of_getElem? (i := 11) rfl)))) (mvT hZ (hw _ (List.mem_of_getElem? (i := 11) rfl))) (mvT hZ (hw _ (List.mem_of_getElem? (i := 10) rfl))) (by decide) (backOf (W := 0) (rm3 l Z a0 hw [] r w_HELD w_SENT h0 n0 Z0 S_HELD S_SENT) hZ (hw _ (List.mem_of_getElem? (i := 12) rfl)) (hw _ (List.mem_of_getElem? (i := 6) rfl)) (by decide) (by decide)) q40a q40c (g := (mkF m 56 #[.val (.int p0), .val (.int p1), .val (.int p2), .val (.int (7 : Int32)), .val (.ref w_DONE), .val (.int (1 : Int32)), .val (.ref (own_op ((p1 &&& (2147483647 : Int32)) % (6 : Int32)) w_DELIVER w_ACKNOWLEDGE w_PROBE w_RESPONSE w_CANCEL w_CANCELED_Operation))] [(.ref r)])) rfl (by rw [hml]; rfl) (Steps.refl _) (argsL := []) (rest := []) (lenOf pd___Z rfl) rfl (by show 2 * 0 + _ ≤ _; exact Nat.le_of_eq rfl) (hb hby at_56) (fun _ _ => ⟨rfl, e39, (by decide : 0 + 0 ≤ _), (by decide : 0 + 0 ≤ _)⟩)
    dsimp only [Pt.U, Pt.locs, Pt.cells, Pt.slots] at X40 l40 y40 z40 st40 hQ40
    subst l40 y40 z40
    obtain ⟨hv40, N40q, e40⟩ := hQ40
    obtain rfl : v40 = some (.int (1 : Int32)) := hv40.trans (by simp [hrH, hrS])
    have N40 := Fr.app N39 N40q
    refine ogo (fun t k => st40.trans k) ?_
    show OwnEnds _ _ _ _ _ _ _ (T40.setTop (mkF m 59 #[.val (.int p0), .val (.int p1), .val (.int p2), .val (.int (7 : Int32)), .val (.ref w_DONE), .val (.int (1 : Int32)), .val (.ref (own_op ((p1 &&& (2147483647 : Int32)) % (6 : Int32)) w_DELIVER w_ACKNOWLEDGE w_PROBE w_RESPONSE w_CANCEL w_CANCELED_Operation))] [(.int (1 : Int32))]))
    refine endZ X40 hx hlk Bd.returns rfl (hb hby at_59) (by decide) (by decide) ?_
    show Q0 Z p0 p1 p2 w_HELD w_RESPONSE w_OK w_MAILBOX_MOVED w_PROBE w_CANCEL w_FAILED w_SENT w_DELIVER w_MOVED w_MISSING w_FOUND w_REFUSED w_CANCELED_Operation w_ACKNOWLEDGE w_DELIVERED w_DONE w_CANCELED_Notice_State h0 n0 _ T40.heap _
    rw [e40]
    exact ⟨rfl, N40⟩
  · show OwnEnds _ _ _ _ _ _ _ (s₁.setTop (mkF m 7 #[.val (.int p0), .val (.int p1), .val (.int p2), .unset, .unset, .unset, .unset] [(.int (8 : Int32))]))
    refine ogo (fun t k => XS.istoreN X0.here hx rfl (hb hby at_7) rfl (l' := #[.val (.int p0), .val (.int p1), .val (.int p2), .val (.int (8 : Int32)), .unset, .unset, .unset]) rfl k) ?_
    show OwnEnds _ _ _ _ _ _ _ (s₁.setTop (mkF m 8 #[.val (.int p0), .val (.int p1), .val (.int p2), .val (.int (8 : Int32)), .unset, .unset, .unset] []))
    refine ogo (fun t k => XS.iloadN X0.here hx rfl (hb hby at_8) rfl k) ?_
    show OwnEnds _ _ _ _ _ _ _ (s₁.setTop (mkF m 9 #[.val (.int p0), .val (.int p1), .val (.int p2), .val (.int (8 : Int32)), .unset, .unset, .unset] [(.int (8 : Int32))]))
    obtain ⟨v41, _, ⟨T41, L41, k41, n41⟩, -, X41, ⟨Lc41, hQ41, l41, y41, z41⟩, st41⟩ := Jvm.LawKit.callS X0 hx (y := (⟨"com/example/tidingsd/tidingsd/model/StateIsSettledPinLaw", "state", "(I)Lcom/example/tidingsd/tidingsd/model/Notice$State;"⟩ : MethodName)) hown (mvT hZ (hw _ (List.mem_of_getElem? (i := 1) rfl))) (mvT hZ (hw _ (List.mem_of_getElem? (i := 2) rfl))) (mvT hZ (hw _ (List.mem_of_getElem? (i := 3) rfl))) (mvT hZ (hw _ (List.mem_of_getElem? (i := 4) rfl))) (by decide) (backOf (W := 0) (rm1 l Z a0 hw [] (8 : Int32) w_HELD w_SENT w_DELIVERED w_FAILED w_MOVED w_FOUND w_MISSING w_DONE w_REFUSED w_CANCELED_Notice_State h0 n0 Z0 S_HELD S_SENT S_DELIVERED S_FAILED S_MOVED S_FOUND S_MISSING S_DONE S_REFUSED S_CANCELED_Notice_State) hZ (hw _ (List.mem_of_getElem? (i := 4) rfl)) (hw _ (List.mem_of_getElem? (i := 3) rfl)) (by decide) (by decide)) (g := (mkF m 9 #[.val (.int p0), .val (.int p1), .val (.int p2), .val (.int (8 : Int32)), .unset, .unset, .unset] [(.int (8 : Int32))])) rfl (by rw [hml]; rfl) (argsL := [(.int (8 : Int32))]) (rest := []) (lenOf pd__I_Lcom_example_tidingsd_tidingsd_model_Notice_State_ rfl) rfl (by show 2 * 0 + _ ≤ _; exact Nat.le_of_eq rfl) (hb hby at_9) (fun _ _ => ⟨rfl, e0, (by decide : 0 + 0 ≤ _), (by decide : 0 + 0 ≤ _)⟩)
    dsimp only [Pt.U, Pt.locs, Pt.cells, Pt.slots] at X41 l41 y41 z41 st41 hQ41
    subst l41 y41 z41
    obtain ⟨hv41, N41q, e41⟩ := hQ41
    obtain rfl : v41 = some (.ref w_REFUSED) := hv41.trans (by simp [own_state])
    have N41 := Fr.app N0 N41q
    refine ogo (fun t k => st41 t k) ?_
    show OwnEnds _ _ _ _ _ _ _ (T41.setTop (mkF m 12 #[.val (.int p0), .val (.int p1), .val (.int p2), .val (.int (8 : Int32)), .unset, .unset, .unset] [(.ref w_REFUSED)]))
    refine ogo (fun t k => XS.astore X41.here hx rfl (hb hby at_12) rfl rfl (l' := #[.val (.int p0), .val (.int p1), .val (.int p2), .val (.int (8 : Int32)), .val (.ref w_REFUSED), .unset, .unset]) rfl k) ?_
    show OwnEnds _ _ _ _ _ _ _ (T41.setTop (mkF m 14 #[.val (.int p0), .val (.int p1), .val (.int p2), .val (.int (8 : Int32)), .val (.ref w_REFUSED), .unset, .unset] []))
    refine ogo (fun t k => XS.iloadN X41.here hx rfl (hb hby at_14) rfl k) ?_
    show OwnEnds _ _ _ _ _ _ _ (T41.setTop (mkF m 15 #[.val (.int p0), .val (.int p1), .val (.int p2), .val (.int (8 : Int32)), .val (.ref w_REFUSED), .unset, .unset] [(.int (8 : Int32))]))
    refine ogo (fun t k => XS.iconst X41.here hx rfl (hb hby at_15) k) ?_
    show OwnEnds _ _ _ _ _ _ _ (T41.setTop (mkF m 16 #[.val (.int p0), .val (.int p1), .val (.int p2), .val (.int (8 : Int32)), .val (.ref w_REFUSED), .unset, .unset] [(.int (2 : Int32)), (.int (8 : Int32))]))
    refine ogo (fun t k => XS.icmpNo X41.here hx rfl (hb hby at_16) rfl (flt (by decide : ¬ ((8 : Int32) < (2 : Int32)))).1 k) ?_
    show OwnEnds _ _ _ _ _ _ _ (T41.setTop (mkF m 19 #[.val (.int p0), .val (.int p1), .val (.int p2), .val (.int (8 : Int32)), .val (.ref w_REFUSED), .unset, .unset] []))
    refine ogo (fun t k => XS.iconst X41.here hx rfl (hb hby at_19) k) ?_
    show OwnEnds _ _ _ _ _ _ _ (T41.setTop (mkF m 20 #[.val (.int p0), .val (.int p1), .val (.int p2), .val (.int (8 : Int32)), .val (.ref w_REFUSED), .unset, .unset] [(.int (1 : Int32))]))
    refine ogo (fun t k => XS.goto X41.here hx rfl (pc0 := 20) (pc' := 24) rfl (hb hby at_20) (by decide) (by decide) k) ?_
    show OwnEnds _ _ _ _ _ _ _ (T41.setTop (mkF m 24 #[.val (.int p0), .val (.int p1), .val (.int p2), .val (.int (8 : Int32)), .val (.ref w_REFUSED), .unset, .unset] [(.int (1 : Int32))]))
    refine ogo (fun t k => XS.istore X41.here hx rfl (hb hby at_24) rfl (l' := #[.val (.int p0), .val (.int p1), .val (.int p2), .val (.int (8 : Int32)), .val (.ref w_REFUSED), .val (.int (1 : Int32)), .unset]) rfl k) ?_
    show OwnEnds _ _ _ _ _ _ _ (T41.setTop (mkF m 26 #[.val (.int p0), .val (.int p1), .val (.int p2), .val (.int (8 : Int32)), .val (.ref w_REFUSED), .val (.int (1 : Int32)), .unset] []))
    refine ogo (fun t k => XS.aload X41.here hx rfl (hb hby at_26) rfl rfl k) ?_
    show OwnEnds _ _ _ _ _ _ _ (T41.setTop (mkF m 28 #[.val (.int p0), .val (.int p1), .val (.int p2), .val (.int (8 : Int32)), .val (.ref w_REFUSED), .val (.int (1 : Int32)), .unset] [(.ref w_REFUSED)]))
    obtain ⟨cq42, kq42, q42a, q42b, q42c⟩ := isOf hZ e41 E_REFUSED
    obtain ⟨v42, _, ⟨T42, L42, k42, n42⟩, -, X42, ⟨Lc42, hQ42, l42, y42, z42⟩, st42⟩ := X41.virtualBack hx (y := (⟨"com/example/tidingsd/tidingsd/model/Notice$State", "isSettled", "()Z"⟩ : MethodName)) (z := (⟨"com/example/tidingsd/tidingsd/model/Notice$State", "isSettled", "()Z"⟩ : MethodName)) hown (mvT hZ (hw _ (List.mem_of_getElem? (i := 8) rfl))) (mvT hZ (hw _ (List.mem_of_getElem? (i := 9) rfl))) (notFace_of_selects (args := #[]) (mvT hZ (hw _ (List.mem_of_getElem? (i := 11) rfl)))) (mvT hZ (hw _ (List.mem_of_getElem? (i := 11) rfl))) (mvT hZ (hw _ (List.mem_of_getElem? (i := 10) rfl))) (by decide) (backOf (W := 0) (rm3 l Z a0 hw [] w_REFUSED w_HELD w_SENT h0 n0 Z0 S_HELD S_SENT) hZ (hw _ (List.mem_of_getElem? (i := 12) rfl)) (hw _ (List.mem_of_getElem? (i := 6) rfl)) (by decide) (by decide)) q42a q42c (g := (mkF m 28 #[.val (.int p0), .val (.int p1), .val (.int p2), .val (.int (8 : Int32)), .val (.ref w_REFUSED), .val (.int (1 : Int32)), .unset] [(.ref w_REFUSED)])) rfl (by rw [hml]; rfl) (Steps.refl _) (argsL := []) (rest := []) (lenOf pd___Z rfl) rfl (by show 2 * 0 + _ ≤ _; exact Nat.le_of_eq rfl) (hb hby at_28) (fun _ _ => ⟨rfl, e41, (by decide : 0 + 0 ≤ _), (by decide : 0 + 0 ≤ _)⟩)
    dsimp only [Pt.U, Pt.locs, Pt.cells, Pt.slots] at X42 l42 y42 z42 st42 hQ42
    subst l42 y42 z42
    obtain ⟨hv42, N42q, e42⟩ := hQ42
    obtain rfl : v42 = some (.int (1 : Int32)) := hv42.trans (by simp [(Fld.ne F_ordinal_REFUSED F_ordinal_HELD (by simp)), (Fld.ne F_ordinal_REFUSED F_ordinal_SENT (by simp))])
    have N42 := Fr.app N41 N42q
    refine ogo (fun t k => st42.trans k) ?_
    show OwnEnds _ _ _ _ _ _ _ (T42.setTop (mkF m 31 #[.val (.int p0), .val (.int p1), .val (.int p2), .val (.int (8 : Int32)), .val (.ref w_REFUSED), .val (.int (1 : Int32)), .unset] [(.int (1 : Int32))]))
    refine ogo (fun t k => XS.iload X42.here hx rfl (hb hby at_31) rfl k) ?_
    show OwnEnds _ _ _ _ _ _ _ (T42.setTop (mkF m 33 #[.val (.int p0), .val (.int p1), .val (.int p2), .val (.int (8 : Int32)), .val (.ref w_REFUSED), .val (.int (1 : Int32)), .unset] [(.int (1 : Int32)), (.int (1 : Int32))]))
    refine ogo (fun t k => XS.icmpYes X42.here hx rfl (pc0 := 33) (pc' := 38) rfl (hb hby at_33) rfl (teq (by decide : (1 : Int32) = (1 : Int32))).1 (by decide) (by decide) k) ?_
    show OwnEnds _ _ _ _ _ _ _ (T42.setTop (mkF m 38 #[.val (.int p0), .val (.int p1), .val (.int p2), .val (.int (8 : Int32)), .val (.ref w_REFUSED), .val (.int (1 : Int32)), .unset] []))
    refine ogo (fun t k => XS.iloadN X42.here hx rfl (hb hby at_38) rfl k) ?_
    show OwnEnds _ _ _ _ _ _ _ (T42.setTop (mkF m 39 #[.val (.int p0), .val (.int p1), .val (.int p2), .val (.int (8 : Int32)), .val (.ref w_REFUSED), .val (.int (1 : Int32)), .unset] [(.int p1)]))
    refine ogo (fun t k => X42.ldcInt hx hown (mvT hZ (hw _ (List.mem_of_getElem? (i := 0) rfl))) (g := (mkF m 39 #[.val (.int p0), .val (.int p1), .val (.int p2), .val (.int (8 : Int32)), .val (.ref w_REFUSED), .val (.int (1 : Int32)), .unset] [(.int p1)])) rfl (hb hby at_39) t k) ?_
    show OwnEnds _ _ _ _ _ _ _ (T42.setTop (mkF m 41 #[.val (.int p0), .val (.int p1), .val (.int p2), .val (.int (8 : Int32)), .val (.ref w_REFUSED), .val (.int (1 : Int32)), .unset] [(.int (2147483647 : Int32)), (.int p1)]))
    refine ogo (fun t k => XS.iand X42.here hx rfl (hb hby at_41) rfl k) ?_
    show OwnEnds _ _ _ _ _ _ _ (T42.setTop (mkF m 42 #[.val (.int p0), .val (.int p1), .val (.int p2), .val (.int (8 : Int32)), .val (.ref w_REFUSED), .val (.int (1 : Int32)), .unset] [(.int (p1 &&& (2147483647 : Int32)))]))
    refine ogo (fun t k => XS.bipush X42.here hx rfl (hb hby at_42) k) ?_
    show OwnEnds _ _ _ _ _ _ _ (T42.setTop (mkF m 44 #[.val (.int p0), .val (.int p1), .val (.int p2), .val (.int (8 : Int32)), .val (.ref w_REFUSED), .val (.int (1 : Int32)), .unset] [(.int (6 : Int32)), (.int (p1 &&& (2147483647 : Int32)))]))
    refine ogo (fun t k => iremM (g := (mkF m 44 #[.val (.int p0), .val (.int p1), .val (.int p2), .val (.int (8 : Int32)), .val (.ref w_REFUSED), .val (.int (1 : Int32)), .unset] [(.int (6 : Int32)), (.int (p1 &&& (2147483647 : Int32)))])) X42 hx rfl (hb hby at_44) rfl (by decide) k) ?_
    show OwnEnds _ _ _ _ _ _ _ (T42.setTop (mkF m 45 #[.val (.int p0), .val (.int p1), .val (.int p2), .val (.int (8 : Int32)), .val (.ref w_REFUSED), .val (.int (1 : Int32)), .unset] [(.int ((p1 &&& (2147483647 : Int32)) % (6 : Int32)))]))
    obtain ⟨v43, _, ⟨T43, L43, k43, n43⟩, -, X43, ⟨Lc43, hQ43, l43, y43, z43⟩, st43⟩ := Jvm.LawKit.callS X42 hx (y := (⟨"com/example/tidingsd/tidingsd/model/StateIsSettledPinLaw", "op", "(I)Lcom/example/tidingsd/tidingsd/model/Operation;"⟩ : MethodName)) hown (mvT hZ (hw _ (List.mem_of_getElem? (i := 14) rfl))) (mvT hZ (hw _ (List.mem_of_getElem? (i := 15) rfl))) (mvT hZ (hw _ (List.mem_of_getElem? (i := 3) rfl))) (mvT hZ (hw _ (List.mem_of_getElem? (i := 16) rfl))) (by decide) (backOf (W := 0) (rm2 l Z a0 hw [] ((p1 &&& (2147483647 : Int32)) % (6 : Int32)) w_DELIVER w_ACKNOWLEDGE w_PROBE w_RESPONSE w_CANCEL w_CANCELED_Operation h0 n0 Z0 S_DELIVER S_ACKNOWLEDGE S_PROBE S_RESPONSE S_CANCEL S_CANCELED_Operation) hZ (hw _ (List.mem_of_getElem? (i := 16) rfl)) (hw _ (List.mem_of_getElem? (i := 3) rfl)) (by decide) (by decide)) (g := (mkF m 45 #[.val (.int p0), .val (.int p1), .val (.int p2), .val (.int (8 : Int32)), .val (.ref w_REFUSED), .val (.int (1 : Int32)), .unset] [(.int ((p1 &&& (2147483647 : Int32)) % (6 : Int32)))])) rfl (by rw [hml]; rfl) (argsL := [(.int ((p1 &&& (2147483647 : Int32)) % (6 : Int32)))]) (rest := []) (lenOf pd__I_Lcom_example_tidingsd_tidingsd_model_Operation_ rfl) rfl (by show 2 * 0 + _ ≤ _; exact Nat.le_of_eq rfl) (hb hby at_45) (fun _ _ => ⟨rfl, e42, (by decide : 0 + 0 ≤ _), (by decide : 0 + 0 ≤ _)⟩)
    dsimp only [Pt.U, Pt.locs, Pt.cells, Pt.slots] at X43 l43 y43 z43 st43 hQ43
    subst l43 y43 z43
    obtain ⟨rfl, N43q, e43⟩ := hQ43
    have N43 := Fr.app N42 N43q
    refine ogo (fun t k => st43 t k) ?_
    show OwnEnds _ _ _ _ _ _ _ (T43.setTop (mkF m 48 #[.val (.int p0), .val (.int p1), .val (.int p2), .val (.int (8 : Int32)), .val (.ref w_REFUSED), .val (.int (1 : Int32)), .unset] [(.ref (own_op ((p1 &&& (2147483647 : Int32)) % (6 : Int32)) w_DELIVER w_ACKNOWLEDGE w_PROBE w_RESPONSE w_CANCEL w_CANCELED_Operation))]))
    refine ogo (fun t k => XS.astore X43.here hx rfl (hb hby at_48) rfl rfl (l' := #[.val (.int p0), .val (.int p1), .val (.int p2), .val (.int (8 : Int32)), .val (.ref w_REFUSED), .val (.int (1 : Int32)), .val (.ref (own_op ((p1 &&& (2147483647 : Int32)) % (6 : Int32)) w_DELIVER w_ACKNOWLEDGE w_PROBE w_RESPONSE w_CANCEL w_CANCELED_Operation))]) rfl k) ?_
    show OwnEnds _ _ _ _ _ _ _ (T43.setTop (mkF m 50 #[.val (.int p0), .val (.int p1), .val (.int p2), .val (.int (8 : Int32)), .val (.ref w_REFUSED), .val (.int (1 : Int32)), .val (.ref (own_op ((p1 &&& (2147483647 : Int32)) % (6 : Int32)) w_DELIVER w_ACKNOWLEDGE w_PROBE w_RESPONSE w_CANCEL w_CANCELED_Operation))] []))
    refine ogo (fun t k => XS.aload X43.here hx rfl (hb hby at_50) rfl rfl k) ?_
    show OwnEnds _ _ _ _ _ _ _ (T43.setTop (mkF m 52 #[.val (.int p0), .val (.int p1), .val (.int p2), .val (.int (8 : Int32)), .val (.ref w_REFUSED), .val (.int (1 : Int32)), .val (.ref (own_op ((p1 &&& (2147483647 : Int32)) % (6 : Int32)) w_DELIVER w_ACKNOWLEDGE w_PROBE w_RESPONSE w_CANCEL w_CANCELED_Operation))] [(.ref (own_op ((p1 &&& (2147483647 : Int32)) % (6 : Int32)) w_DELIVER w_ACKNOWLEDGE w_PROBE w_RESPONSE w_CANCEL w_CANCELED_Operation))]))
    refine ogo (fun t k => XS.iloadN X43.here hx rfl (hb hby at_52) rfl k) ?_
    show OwnEnds _ _ _ _ _ _ _ (T43.setTop (mkF m 53 #[.val (.int p0), .val (.int p1), .val (.int p2), .val (.int (8 : Int32)), .val (.ref w_REFUSED), .val (.int (1 : Int32)), .val (.ref (own_op ((p1 &&& (2147483647 : Int32)) % (6 : Int32)) w_DELIVER w_ACKNOWLEDGE w_PROBE w_RESPONSE w_CANCEL w_CANCELED_Operation))] [(.int p2), (.ref (own_op ((p1 &&& (2147483647 : Int32)) % (6 : Int32)) w_DELIVER w_ACKNOWLEDGE w_PROBE w_RESPONSE w_CANCEL w_CANCELED_Operation))]))
    obtain ⟨v44, _, ⟨T44, L44, k44, n44⟩, -, X44, ⟨Lc44, hQ44, l44, y44, z44⟩, st44⟩ := Jvm.LawKit.callS X43 hx (y := (⟨"com/example/tidingsd/tidingsd/model/Notice$State", "settled", "(Lcom/example/tidingsd/tidingsd/model/Operation;I)Lcom/example/tidingsd/tidingsd/model/Notice$State;"⟩ : MethodName)) hown (mvT hZ (hw _ (List.mem_of_getElem? (i := 20) rfl))) (mvT hZ (hw _ (List.mem_of_getElem? (i := 21) rfl))) (mvT hZ (hw _ (List.mem_of_getElem? (i := 6) rfl))) (mvT hZ (hw _ (List.mem_of_getElem? (i := 22) rfl))) (by decide) (backOf (W := 0) (rm5 l Z a0 hw [] (own_op ((p1 &&& (2147483647 : Int32)) % (6 : Int32)) w_DELIVER w_ACKNOWLEDGE w_PROBE w_RESPONSE w_CANCEL w_CANCELED_Operation) p2 w_HELD w_RESPONSE w_OK w_MAILBOX_MOVED w_PROBE w_CANCEL w_FAILED w_SENT w_DELIVER w_MOVED w_MISSING w_FOUND w_REFUSED w_CANCELED_Operation w_ACKNOWLEDGE w_DELIVERED w_DONE w_CANCELED_Notice_State h0 n0 Z0 S_HELD E_HELD F_ordinal_HELD S_RESPONSE E_RESPONSE F_ordinal_RESPONSE S_OK E_OK F_errorClass_OK S_MAILBOX_MOVED E_MAILBOX_MOVED F_errorClass_MAILBOX_MOVED S_PROBE E_PROBE F_ordinal_PROBE S_CANCEL E_CANCEL F_ordinal_CANCEL S_FAILED E_FAILED F_ordinal_FAILED S_SENT E_SENT F_ordinal_SENT S_DELIVER E_DELIVER F_ordinal_DELIVER S_MOVED E_MOVED F_ordinal_MOVED S_MISSING E_MISSING F_ordinal_MISSING S_FOUND E_FOUND F_ordinal_FOUND S_REFUSED E_REFUSED F_ordinal_REFUSED S_CANCELED_Operation E_CANCELED_Operation F_ordinal_CANCELED_Operation S_ACKNOWLEDGE E_ACKNOWLEDGE F_ordinal_ACKNOWLEDGE S_DELIVERED E_DELIVERED F_ordinal_DELIVERED S_DONE E_DONE F_ordinal_DONE S_CANCELED_Notice_State E_CANCELED_Notice_State F_ordinal_CANCELED_Notice_State) hZ (hw _ (List.mem_of_getElem? (i := 22) rfl)) (hw _ (List.mem_of_getElem? (i := 6) rfl)) (by decide) (by decide)) (g := (mkF m 53 #[.val (.int p0), .val (.int p1), .val (.int p2), .val (.int (8 : Int32)), .val (.ref w_REFUSED), .val (.int (1 : Int32)), .val (.ref (own_op ((p1 &&& (2147483647 : Int32)) % (6 : Int32)) w_DELIVER w_ACKNOWLEDGE w_PROBE w_RESPONSE w_CANCEL w_CANCELED_Operation))] [(.int p2), (.ref (own_op ((p1 &&& (2147483647 : Int32)) % (6 : Int32)) w_DELIVER w_ACKNOWLEDGE w_PROBE w_RESPONSE w_CANCEL w_CANCELED_Operation))])) rfl (by rw [hml]; rfl) (argsL := [(.ref (own_op ((p1 &&& (2147483647 : Int32)) % (6 : Int32)) w_DELIVER w_ACKNOWLEDGE w_PROBE w_RESPONSE w_CANCEL w_CANCELED_Operation)), (.int p2)]) (rest := []) (lenOf pd_3a3b7d88 rfl) rfl (by show 2 * 0 + _ ≤ _; exact Nat.le_of_eq rfl) (hb hby at_53) (fun _ _ => ⟨rfl, e43, (by decide : 0 + 0 ≤ _), (by decide : 0 + 0 ≤ _)⟩)
    dsimp only [Pt.U, Pt.locs, Pt.cells, Pt.slots] at X44 l44 y44 z44 st44 hQ44
    subst l44 y44 z44
    obtain ⟨r, rfl, hrE, hrH, hrS, N44q, e44⟩ := hQ44
    have N44 := Fr.app N43 N44q
    refine ogo (fun t k => st44 t k) ?_
    show OwnEnds _ _ _ _ _ _ _ (T44.setTop (mkF m 56 #[.val (.int p0), .val (.int p1), .val (.int p2), .val (.int (8 : Int32)), .val (.ref w_REFUSED), .val (.int (1 : Int32)), .val (.ref (own_op ((p1 &&& (2147483647 : Int32)) % (6 : Int32)) w_DELIVER w_ACKNOWLEDGE w_PROBE w_RESPONSE w_CANCEL w_CANCELED_Operation))] [(.ref r)]))
    obtain ⟨cq45, kq45, q45a, q45b, q45c⟩ := isOf hZ e44 hrE
    obtain ⟨v45, _, ⟨T45, L45, k45, n45⟩, -, X45, ⟨Lc45, hQ45, l45, y45, z45⟩, st45⟩ := X44.virtualBack hx (y := (⟨"com/example/tidingsd/tidingsd/model/Notice$State", "isSettled", "()Z"⟩ : MethodName)) (z := (⟨"com/example/tidingsd/tidingsd/model/Notice$State", "isSettled", "()Z"⟩ : MethodName)) hown (mvT hZ (hw _ (List.mem_of_getElem? (i := 8) rfl))) (mvT hZ (hw _ (List.mem_of_getElem? (i := 9) rfl))) (notFace_of_selects (args := #[]) (mvT hZ (hw _ (List.mem_of_getElem? (i := 11) rfl)))) (mvT hZ (hw _ (List.mem_of_getElem? (i := 11) rfl))) (mvT hZ (hw _ (List.mem_of_getElem? (i := 10) rfl))) (by decide) (backOf (W := 0) (rm3 l Z a0 hw [] r w_HELD w_SENT h0 n0 Z0 S_HELD S_SENT) hZ (hw _ (List.mem_of_getElem? (i := 12) rfl)) (hw _ (List.mem_of_getElem? (i := 6) rfl)) (by decide) (by decide)) q45a q45c (g := (mkF m 56 #[.val (.int p0), .val (.int p1), .val (.int p2), .val (.int (8 : Int32)), .val (.ref w_REFUSED), .val (.int (1 : Int32)), .val (.ref (own_op ((p1 &&& (2147483647 : Int32)) % (6 : Int32)) w_DELIVER w_ACKNOWLEDGE w_PROBE w_RESPONSE w_CANCEL w_CANCELED_Operation))] [(.ref r)])) rfl (by rw [hml]; rfl) (Steps.refl _) (argsL := []) (rest := []) (lenOf pd___Z rfl) rfl (by show 2 * 0 + _ ≤ _; exact Nat.le_of_eq rfl) (hb hby at_56) (fun _ _ => ⟨rfl, e44, (by decide : 0 + 0 ≤ _), (by decide : 0 + 0 ≤ _)⟩)
    dsimp only [Pt.U, Pt.locs, Pt.cells, Pt.slots] at X45 l45 y45 z45 st45 hQ45
    subst l45 y45 z45
    obtain ⟨hv45, N45q, e45⟩ := hQ45
    obtain rfl : v45 = some (.int (1 : Int32)) := hv45.trans (by simp [hrH, hrS])
    have N45 := Fr.app N44 N45q
    refine ogo (fun t k => st45.trans k) ?_
    show OwnEnds _ _ _ _ _ _ _ (T45.setTop (mkF m 59 #[.val (.int p0), .val (.int p1), .val (.int p2), .val (.int (8 : Int32)), .val (.ref w_REFUSED), .val (.int (1 : Int32)), .val (.ref (own_op ((p1 &&& (2147483647 : Int32)) % (6 : Int32)) w_DELIVER w_ACKNOWLEDGE w_PROBE w_RESPONSE w_CANCEL w_CANCELED_Operation))] [(.int (1 : Int32))]))
    refine endZ X45 hx hlk Bd.returns rfl (hb hby at_59) (by decide) (by decide) ?_
    show Q0 Z p0 p1 p2 w_HELD w_RESPONSE w_OK w_MAILBOX_MOVED w_PROBE w_CANCEL w_FAILED w_SENT w_DELIVER w_MOVED w_MISSING w_FOUND w_REFUSED w_CANCELED_Operation w_ACKNOWLEDGE w_DELIVERED w_DONE w_CANCELED_Notice_State h0 n0 _ T45.heap _
    rw [e45]
    exact ⟨rfl, N45⟩
  · show OwnEnds _ _ _ _ _ _ _ (s₁.setTop (mkF m 7 #[.val (.int p0), .val (.int p1), .val (.int p2), .unset, .unset, .unset, .unset] [(.int (9 : Int32))]))
    refine ogo (fun t k => XS.istoreN X0.here hx rfl (hb hby at_7) rfl (l' := #[.val (.int p0), .val (.int p1), .val (.int p2), .val (.int (9 : Int32)), .unset, .unset, .unset]) rfl k) ?_
    show OwnEnds _ _ _ _ _ _ _ (s₁.setTop (mkF m 8 #[.val (.int p0), .val (.int p1), .val (.int p2), .val (.int (9 : Int32)), .unset, .unset, .unset] []))
    refine ogo (fun t k => XS.iloadN X0.here hx rfl (hb hby at_8) rfl k) ?_
    show OwnEnds _ _ _ _ _ _ _ (s₁.setTop (mkF m 9 #[.val (.int p0), .val (.int p1), .val (.int p2), .val (.int (9 : Int32)), .unset, .unset, .unset] [(.int (9 : Int32))]))
    obtain ⟨v46, _, ⟨T46, L46, k46, n46⟩, -, X46, ⟨Lc46, hQ46, l46, y46, z46⟩, st46⟩ := Jvm.LawKit.callS X0 hx (y := (⟨"com/example/tidingsd/tidingsd/model/StateIsSettledPinLaw", "state", "(I)Lcom/example/tidingsd/tidingsd/model/Notice$State;"⟩ : MethodName)) hown (mvT hZ (hw _ (List.mem_of_getElem? (i := 1) rfl))) (mvT hZ (hw _ (List.mem_of_getElem? (i := 2) rfl))) (mvT hZ (hw _ (List.mem_of_getElem? (i := 3) rfl))) (mvT hZ (hw _ (List.mem_of_getElem? (i := 4) rfl))) (by decide) (backOf (W := 0) (rm1 l Z a0 hw [] (9 : Int32) w_HELD w_SENT w_DELIVERED w_FAILED w_MOVED w_FOUND w_MISSING w_DONE w_REFUSED w_CANCELED_Notice_State h0 n0 Z0 S_HELD S_SENT S_DELIVERED S_FAILED S_MOVED S_FOUND S_MISSING S_DONE S_REFUSED S_CANCELED_Notice_State) hZ (hw _ (List.mem_of_getElem? (i := 4) rfl)) (hw _ (List.mem_of_getElem? (i := 3) rfl)) (by decide) (by decide)) (g := (mkF m 9 #[.val (.int p0), .val (.int p1), .val (.int p2), .val (.int (9 : Int32)), .unset, .unset, .unset] [(.int (9 : Int32))])) rfl (by rw [hml]; rfl) (argsL := [(.int (9 : Int32))]) (rest := []) (lenOf pd__I_Lcom_example_tidingsd_tidingsd_model_Notice_State_ rfl) rfl (by show 2 * 0 + _ ≤ _; exact Nat.le_of_eq rfl) (hb hby at_9) (fun _ _ => ⟨rfl, e0, (by decide : 0 + 0 ≤ _), (by decide : 0 + 0 ≤ _)⟩)
    dsimp only [Pt.U, Pt.locs, Pt.cells, Pt.slots] at X46 l46 y46 z46 st46 hQ46
    subst l46 y46 z46
    obtain ⟨hv46, N46q, e46⟩ := hQ46
    obtain rfl : v46 = some (.ref w_CANCELED_Notice_State) := hv46.trans (by simp [own_state])
    have N46 := Fr.app N0 N46q
    refine ogo (fun t k => st46 t k) ?_
    show OwnEnds _ _ _ _ _ _ _ (T46.setTop (mkF m 12 #[.val (.int p0), .val (.int p1), .val (.int p2), .val (.int (9 : Int32)), .unset, .unset, .unset] [(.ref w_CANCELED_Notice_State)]))
    refine ogo (fun t k => XS.astore X46.here hx rfl (hb hby at_12) rfl rfl (l' := #[.val (.int p0), .val (.int p1), .val (.int p2), .val (.int (9 : Int32)), .val (.ref w_CANCELED_Notice_State), .unset, .unset]) rfl k) ?_
    show OwnEnds _ _ _ _ _ _ _ (T46.setTop (mkF m 14 #[.val (.int p0), .val (.int p1), .val (.int p2), .val (.int (9 : Int32)), .val (.ref w_CANCELED_Notice_State), .unset, .unset] []))
    refine ogo (fun t k => XS.iloadN X46.here hx rfl (hb hby at_14) rfl k) ?_
    show OwnEnds _ _ _ _ _ _ _ (T46.setTop (mkF m 15 #[.val (.int p0), .val (.int p1), .val (.int p2), .val (.int (9 : Int32)), .val (.ref w_CANCELED_Notice_State), .unset, .unset] [(.int (9 : Int32))]))
    refine ogo (fun t k => XS.iconst X46.here hx rfl (hb hby at_15) k) ?_
    show OwnEnds _ _ _ _ _ _ _ (T46.setTop (mkF m 16 #[.val (.int p0), .val (.int p1), .val (.int p2), .val (.int (9 : Int32)), .val (.ref w_CANCELED_Notice_State), .unset, .unset] [(.int (2 : Int32)), (.int (9 : Int32))]))
    refine ogo (fun t k => XS.icmpNo X46.here hx rfl (hb hby at_16) rfl (flt (by decide : ¬ ((9 : Int32) < (2 : Int32)))).1 k) ?_
    show OwnEnds _ _ _ _ _ _ _ (T46.setTop (mkF m 19 #[.val (.int p0), .val (.int p1), .val (.int p2), .val (.int (9 : Int32)), .val (.ref w_CANCELED_Notice_State), .unset, .unset] []))
    refine ogo (fun t k => XS.iconst X46.here hx rfl (hb hby at_19) k) ?_
    show OwnEnds _ _ _ _ _ _ _ (T46.setTop (mkF m 20 #[.val (.int p0), .val (.int p1), .val (.int p2), .val (.int (9 : Int32)), .val (.ref w_CANCELED_Notice_State), .unset, .unset] [(.int (1 : Int32))]))
    refine ogo (fun t k => XS.goto X46.here hx rfl (pc0 := 20) (pc' := 24) rfl (hb hby at_20) (by decide) (by decide) k) ?_
    show OwnEnds _ _ _ _ _ _ _ (T46.setTop (mkF m 24 #[.val (.int p0), .val (.int p1), .val (.int p2), .val (.int (9 : Int32)), .val (.ref w_CANCELED_Notice_State), .unset, .unset] [(.int (1 : Int32))]))
    refine ogo (fun t k => XS.istore X46.here hx rfl (hb hby at_24) rfl (l' := #[.val (.int p0), .val (.int p1), .val (.int p2), .val (.int (9 : Int32)), .val (.ref w_CANCELED_Notice_State), .val (.int (1 : Int32)), .unset]) rfl k) ?_
    show OwnEnds _ _ _ _ _ _ _ (T46.setTop (mkF m 26 #[.val (.int p0), .val (.int p1), .val (.int p2), .val (.int (9 : Int32)), .val (.ref w_CANCELED_Notice_State), .val (.int (1 : Int32)), .unset] []))
    refine ogo (fun t k => XS.aload X46.here hx rfl (hb hby at_26) rfl rfl k) ?_
    show OwnEnds _ _ _ _ _ _ _ (T46.setTop (mkF m 28 #[.val (.int p0), .val (.int p1), .val (.int p2), .val (.int (9 : Int32)), .val (.ref w_CANCELED_Notice_State), .val (.int (1 : Int32)), .unset] [(.ref w_CANCELED_Notice_State)]))
    obtain ⟨cq47, kq47, q47a, q47b, q47c⟩ := isOf hZ e46 E_CANCELED_Notice_State
    obtain ⟨v47, _, ⟨T47, L47, k47, n47⟩, -, X47, ⟨Lc47, hQ47, l47, y47, z47⟩, st47⟩ := X46.virtualBack hx (y := (⟨"com/example/tidingsd/tidingsd/model/Notice$State", "isSettled", "()Z"⟩ : MethodName)) (z := (⟨"com/example/tidingsd/tidingsd/model/Notice$State", "isSettled", "()Z"⟩ : MethodName)) hown (mvT hZ (hw _ (List.mem_of_getElem? (i := 8) rfl))) (mvT hZ (hw _ (List.mem_of_getElem? (i := 9) rfl))) (notFace_of_selects (args := #[]) (mvT hZ (hw _ (List.mem_of_getElem? (i := 11) rfl)))) (mvT hZ (hw _ (List.mem_of_getElem? (i := 11) rfl))) (mvT hZ (hw _ (List.mem_of_getElem? (i := 10) rfl))) (by decide) (backOf (W := 0) (rm3 l Z a0 hw [] w_CANCELED_Notice_State w_HELD w_SENT h0 n0 Z0 S_HELD S_SENT) hZ (hw _ (List.mem_of_getElem? (i := 12) rfl)) (hw _ (List.mem_of_getElem? (i := 6) rfl)) (by decide) (by decide)) q47a q47c (g := (mkF m 28 #[.val (.int p0), .val (.int p1), .val (.int p2), .val (.int (9 : Int32)), .val (.ref w_CANCELED_Notice_State), .val (.int (1 : Int32)), .unset] [(.ref w_CANCELED_Notice_State)])) rfl (by rw [hml]; rfl) (Steps.refl _) (argsL := []) (rest := []) (lenOf pd___Z rfl) rfl (by show 2 * 0 + _ ≤ _; exact Nat.le_of_eq rfl) (hb hby at_28) (fun _ _ => ⟨rfl, e46, (by decide : 0 + 0 ≤ _), (by decide : 0 + 0 ≤ _)⟩)
    dsimp only [Pt.U, Pt.locs, Pt.cells, Pt.slots] at X47 l47 y47 z47 st47 hQ47
    subst l47 y47 z47
    obtain ⟨hv47, N47q, e47⟩ := hQ47
    obtain rfl : v47 = some (.int (1 : Int32)) := hv47.trans (by simp [(Fld.ne F_ordinal_CANCELED_Notice_State F_ordinal_HELD (by simp)), (Fld.ne F_ordinal_CANCELED_Notice_State F_ordinal_SENT (by simp))])
    have N47 := Fr.app N46 N47q
    refine ogo (fun t k => st47.trans k) ?_
    show OwnEnds _ _ _ _ _ _ _ (T47.setTop (mkF m 31 #[.val (.int p0), .val (.int p1), .val (.int p2), .val (.int (9 : Int32)), .val (.ref w_CANCELED_Notice_State), .val (.int (1 : Int32)), .unset] [(.int (1 : Int32))]))
    refine ogo (fun t k => XS.iload X47.here hx rfl (hb hby at_31) rfl k) ?_
    show OwnEnds _ _ _ _ _ _ _ (T47.setTop (mkF m 33 #[.val (.int p0), .val (.int p1), .val (.int p2), .val (.int (9 : Int32)), .val (.ref w_CANCELED_Notice_State), .val (.int (1 : Int32)), .unset] [(.int (1 : Int32)), (.int (1 : Int32))]))
    refine ogo (fun t k => XS.icmpYes X47.here hx rfl (pc0 := 33) (pc' := 38) rfl (hb hby at_33) rfl (teq (by decide : (1 : Int32) = (1 : Int32))).1 (by decide) (by decide) k) ?_
    show OwnEnds _ _ _ _ _ _ _ (T47.setTop (mkF m 38 #[.val (.int p0), .val (.int p1), .val (.int p2), .val (.int (9 : Int32)), .val (.ref w_CANCELED_Notice_State), .val (.int (1 : Int32)), .unset] []))
    refine ogo (fun t k => XS.iloadN X47.here hx rfl (hb hby at_38) rfl k) ?_
    show OwnEnds _ _ _ _ _ _ _ (T47.setTop (mkF m 39 #[.val (.int p0), .val (.int p1), .val (.int p2), .val (.int (9 : Int32)), .val (.ref w_CANCELED_Notice_State), .val (.int (1 : Int32)), .unset] [(.int p1)]))
    refine ogo (fun t k => X47.ldcInt hx hown (mvT hZ (hw _ (List.mem_of_getElem? (i := 0) rfl))) (g := (mkF m 39 #[.val (.int p0), .val (.int p1), .val (.int p2), .val (.int (9 : Int32)), .val (.ref w_CANCELED_Notice_State), .val (.int (1 : Int32)), .unset] [(.int p1)])) rfl (hb hby at_39) t k) ?_
    show OwnEnds _ _ _ _ _ _ _ (T47.setTop (mkF m 41 #[.val (.int p0), .val (.int p1), .val (.int p2), .val (.int (9 : Int32)), .val (.ref w_CANCELED_Notice_State), .val (.int (1 : Int32)), .unset] [(.int (2147483647 : Int32)), (.int p1)]))
    refine ogo (fun t k => XS.iand X47.here hx rfl (hb hby at_41) rfl k) ?_
    show OwnEnds _ _ _ _ _ _ _ (T47.setTop (mkF m 42 #[.val (.int p0), .val (.int p1), .val (.int p2), .val (.int (9 : Int32)), .val (.ref w_CANCELED_Notice_State), .val (.int (1 : Int32)), .unset] [(.int (p1 &&& (2147483647 : Int32)))]))
    refine ogo (fun t k => XS.bipush X47.here hx rfl (hb hby at_42) k) ?_
    show OwnEnds _ _ _ _ _ _ _ (T47.setTop (mkF m 44 #[.val (.int p0), .val (.int p1), .val (.int p2), .val (.int (9 : Int32)), .val (.ref w_CANCELED_Notice_State), .val (.int (1 : Int32)), .unset] [(.int (6 : Int32)), (.int (p1 &&& (2147483647 : Int32)))]))
    refine ogo (fun t k => iremM (g := (mkF m 44 #[.val (.int p0), .val (.int p1), .val (.int p2), .val (.int (9 : Int32)), .val (.ref w_CANCELED_Notice_State), .val (.int (1 : Int32)), .unset] [(.int (6 : Int32)), (.int (p1 &&& (2147483647 : Int32)))])) X47 hx rfl (hb hby at_44) rfl (by decide) k) ?_
    show OwnEnds _ _ _ _ _ _ _ (T47.setTop (mkF m 45 #[.val (.int p0), .val (.int p1), .val (.int p2), .val (.int (9 : Int32)), .val (.ref w_CANCELED_Notice_State), .val (.int (1 : Int32)), .unset] [(.int ((p1 &&& (2147483647 : Int32)) % (6 : Int32)))]))
    obtain ⟨v48, _, ⟨T48, L48, k48, n48⟩, -, X48, ⟨Lc48, hQ48, l48, y48, z48⟩, st48⟩ := Jvm.LawKit.callS X47 hx (y := (⟨"com/example/tidingsd/tidingsd/model/StateIsSettledPinLaw", "op", "(I)Lcom/example/tidingsd/tidingsd/model/Operation;"⟩ : MethodName)) hown (mvT hZ (hw _ (List.mem_of_getElem? (i := 14) rfl))) (mvT hZ (hw _ (List.mem_of_getElem? (i := 15) rfl))) (mvT hZ (hw _ (List.mem_of_getElem? (i := 3) rfl))) (mvT hZ (hw _ (List.mem_of_getElem? (i := 16) rfl))) (by decide) (backOf (W := 0) (rm2 l Z a0 hw [] ((p1 &&& (2147483647 : Int32)) % (6 : Int32)) w_DELIVER w_ACKNOWLEDGE w_PROBE w_RESPONSE w_CANCEL w_CANCELED_Operation h0 n0 Z0 S_DELIVER S_ACKNOWLEDGE S_PROBE S_RESPONSE S_CANCEL S_CANCELED_Operation) hZ (hw _ (List.mem_of_getElem? (i := 16) rfl)) (hw _ (List.mem_of_getElem? (i := 3) rfl)) (by decide) (by decide)) (g := (mkF m 45 #[.val (.int p0), .val (.int p1), .val (.int p2), .val (.int (9 : Int32)), .val (.ref w_CANCELED_Notice_State), .val (.int (1 : Int32)), .unset] [(.int ((p1 &&& (2147483647 : Int32)) % (6 : Int32)))])) rfl (by rw [hml]; rfl) (argsL := [(.int ((p1 &&& (2147483647 : Int32)) % (6 : Int32)))]) (rest := []) (lenOf pd__I_Lcom_example_tidingsd_tidingsd_model_Operation_ rfl) rfl (by show 2 * 0 + _ ≤ _; exact Nat.le_of_eq rfl) (hb hby at_45) (fun _ _ => ⟨rfl, e47, (by decide : 0 + 0 ≤ _), (by decide : 0 + 0 ≤ _)⟩)
    dsimp only [Pt.U, Pt.locs, Pt.cells, Pt.slots] at X48 l48 y48 z48 st48 hQ48
    subst l48 y48 z48
    obtain ⟨rfl, N48q, e48⟩ := hQ48
    have N48 := Fr.app N47 N48q
    refine ogo (fun t k => st48 t k) ?_
    show OwnEnds _ _ _ _ _ _ _ (T48.setTop (mkF m 48 #[.val (.int p0), .val (.int p1), .val (.int p2), .val (.int (9 : Int32)), .val (.ref w_CANCELED_Notice_State), .val (.int (1 : Int32)), .unset] [(.ref (own_op ((p1 &&& (2147483647 : Int32)) % (6 : Int32)) w_DELIVER w_ACKNOWLEDGE w_PROBE w_RESPONSE w_CANCEL w_CANCELED_Operation))]))
    refine ogo (fun t k => XS.astore X48.here hx rfl (hb hby at_48) rfl rfl (l' := #[.val (.int p0), .val (.int p1), .val (.int p2), .val (.int (9 : Int32)), .val (.ref w_CANCELED_Notice_State), .val (.int (1 : Int32)), .val (.ref (own_op ((p1 &&& (2147483647 : Int32)) % (6 : Int32)) w_DELIVER w_ACKNOWLEDGE w_PROBE w_RESPONSE w_CANCEL w_CANCELED_Operation))]) rfl k) ?_
    show OwnEnds _ _ _ _ _ _ _ (T48.setTop (mkF m 50 #[.val (.int p0), .val (.int p1), .val (.int p2), .val (.int (9 : Int32)), .val (.ref w_CANCELED_Notice_State), .val (.int (1 : Int32)), .val (.ref (own_op ((p1 &&& (2147483647 : Int32)) % (6 : Int32)) w_DELIVER w_ACKNOWLEDGE w_PROBE w_RESPONSE w_CANCEL w_CANCELED_Operation))] []))
    refine ogo (fun t k => XS.aload X48.here hx rfl (hb hby at_50) rfl rfl k) ?_
    show OwnEnds _ _ _ _ _ _ _ (T48.setTop (mkF m 52 #[.val (.int p0), .val (.int p1), .val (.int p2), .val (.int (9 : Int32)), .val (.ref w_CANCELED_Notice_State), .val (.int (1 : Int32)), .val (.ref (own_op ((p1 &&& (2147483647 : Int32)) % (6 : Int32)) w_DELIVER w_ACKNOWLEDGE w_PROBE w_RESPONSE w_CANCEL w_CANCELED_Operation))] [(.ref (own_op ((p1 &&& (2147483647 : Int32)) % (6 : Int32)) w_DELIVER w_ACKNOWLEDGE w_PROBE w_RESPONSE w_CANCEL w_CANCELED_Operation))]))
    refine ogo (fun t k => XS.iloadN X48.here hx rfl (hb hby at_52) rfl k) ?_
    show OwnEnds _ _ _ _ _ _ _ (T48.setTop (mkF m 53 #[.val (.int p0), .val (.int p1), .val (.int p2), .val (.int (9 : Int32)), .val (.ref w_CANCELED_Notice_State), .val (.int (1 : Int32)), .val (.ref (own_op ((p1 &&& (2147483647 : Int32)) % (6 : Int32)) w_DELIVER w_ACKNOWLEDGE w_PROBE w_RESPONSE w_CANCEL w_CANCELED_Operation))] [(.int p2), (.ref (own_op ((p1 &&& (2147483647 : Int32)) % (6 : Int32)) w_DELIVER w_ACKNOWLEDGE w_PROBE w_RESPONSE w_CANCEL w_CANCELED_Operation))]))
    obtain ⟨v49, _, ⟨T49, L49, k49, n49⟩, -, X49, ⟨Lc49, hQ49, l49, y49, z49⟩, st49⟩ := Jvm.LawKit.callS X48 hx (y := (⟨"com/example/tidingsd/tidingsd/model/Notice$State", "settled", "(Lcom/example/tidingsd/tidingsd/model/Operation;I)Lcom/example/tidingsd/tidingsd/model/Notice$State;"⟩ : MethodName)) hown (mvT hZ (hw _ (List.mem_of_getElem? (i := 20) rfl))) (mvT hZ (hw _ (List.mem_of_getElem? (i := 21) rfl))) (mvT hZ (hw _ (List.mem_of_getElem? (i := 6) rfl))) (mvT hZ (hw _ (List.mem_of_getElem? (i := 22) rfl))) (by decide) (backOf (W := 0) (rm5 l Z a0 hw [] (own_op ((p1 &&& (2147483647 : Int32)) % (6 : Int32)) w_DELIVER w_ACKNOWLEDGE w_PROBE w_RESPONSE w_CANCEL w_CANCELED_Operation) p2 w_HELD w_RESPONSE w_OK w_MAILBOX_MOVED w_PROBE w_CANCEL w_FAILED w_SENT w_DELIVER w_MOVED w_MISSING w_FOUND w_REFUSED w_CANCELED_Operation w_ACKNOWLEDGE w_DELIVERED w_DONE w_CANCELED_Notice_State h0 n0 Z0 S_HELD E_HELD F_ordinal_HELD S_RESPONSE E_RESPONSE F_ordinal_RESPONSE S_OK E_OK F_errorClass_OK S_MAILBOX_MOVED E_MAILBOX_MOVED F_errorClass_MAILBOX_MOVED S_PROBE E_PROBE F_ordinal_PROBE S_CANCEL E_CANCEL F_ordinal_CANCEL S_FAILED E_FAILED F_ordinal_FAILED S_SENT E_SENT F_ordinal_SENT S_DELIVER E_DELIVER F_ordinal_DELIVER S_MOVED E_MOVED F_ordinal_MOVED S_MISSING E_MISSING F_ordinal_MISSING S_FOUND E_FOUND F_ordinal_FOUND S_REFUSED E_REFUSED F_ordinal_REFUSED S_CANCELED_Operation E_CANCELED_Operation F_ordinal_CANCELED_Operation S_ACKNOWLEDGE E_ACKNOWLEDGE F_ordinal_ACKNOWLEDGE S_DELIVERED E_DELIVERED F_ordinal_DELIVERED S_DONE E_DONE F_ordinal_DONE S_CANCELED_Notice_State E_CANCELED_Notice_State F_ordinal_CANCELED_Notice_State) hZ (hw _ (List.mem_of_getElem? (i := 22) rfl)) (hw _ (List.mem_of_getElem? (i := 6) rfl)) (by decide) (by decide)) (g := (mkF m 53 #[.val (.int p0), .val (.int p1), .val (.int p2), .val (.int (9 : Int32)), .val (.ref w_CANCELED_Notice_State), .val (.int (1 : Int32)), .val (.ref (own_op ((p1 &&& (2147483647 : Int32)) % (6 : Int32)) w_DELIVER w_ACKNOWLEDGE w_PROBE w_RESPONSE w_CANCEL w_CANCELED_Operation))] [(.int p2), (.ref (own_op ((p1 &&& (2147483647 : Int32)) % (6 : Int32)) w_DELIVER w_ACKNOWLEDGE w_PROBE w_RESPONSE w_CANCEL w_CANCELED_Operation))])) rfl (by rw [hml]; rfl) (argsL := [(.ref (own_op ((p1 &&& (2147483647 : Int32)) % (6 : Int32)) w_DELIVER w_ACKNOWLEDGE w_PROBE w_RESPONSE w_CANCEL w_CANCELED_Operation)), (.int p2)]) (rest := []) (lenOf pd_3a3b7d88 rfl) rfl (by show 2 * 0 + _ ≤ _; exact Nat.le_of_eq rfl) (hb hby at_53) (fun _ _ => ⟨rfl, e48, (by decide : 0 + 0 ≤ _), (by decide : 0 + 0 ≤ _)⟩)
    dsimp only [Pt.U, Pt.locs, Pt.cells, Pt.slots] at X49 l49 y49 z49 st49 hQ49
    subst l49 y49 z49
    obtain ⟨r, rfl, hrE, hrH, hrS, N49q, e49⟩ := hQ49
    have N49 := Fr.app N48 N49q
    refine ogo (fun t k => st49 t k) ?_
    show OwnEnds _ _ _ _ _ _ _ (T49.setTop (mkF m 56 #[.val (.int p0), .val (.int p1), .val (.int p2), .val (.int (9 : Int32)), .val (.ref w_CANCELED_Notice_State), .val (.int (1 : Int32)), .val (.ref (own_op ((p1 &&& (2147483647 : Int32)) % (6 : Int32)) w_DELIVER w_ACKNOWLEDGE w_PROBE w_RESPONSE w_CANCEL w_CANCELED_Operation))] [(.ref r)]))
    obtain ⟨cq50, kq50, q50a, q50b, q50c⟩ := isOf hZ e49 hrE
    obtain ⟨v50, _, ⟨T50, L50, k50, n50⟩, -, X50, ⟨Lc50, hQ50, l50, y50, z50⟩, st50⟩ := X49.virtualBack hx (y := (⟨"com/example/tidingsd/tidingsd/model/Notice$State", "isSettled", "()Z"⟩ : MethodName)) (z := (⟨"com/example/tidingsd/tidingsd/model/Notice$State", "isSettled", "()Z"⟩ : MethodName)) hown (mvT hZ (hw _ (List.mem_of_getElem? (i := 8) rfl))) (mvT hZ (hw _ (List.mem_of_getElem? (i := 9) rfl))) (notFace_of_selects (args := #[]) (mvT hZ (hw _ (List.mem_of_getElem? (i := 11) rfl)))) (mvT hZ (hw _ (List.mem_of_getElem? (i := 11) rfl))) (mvT hZ (hw _ (List.mem_of_getElem? (i := 10) rfl))) (by decide) (backOf (W := 0) (rm3 l Z a0 hw [] r w_HELD w_SENT h0 n0 Z0 S_HELD S_SENT) hZ (hw _ (List.mem_of_getElem? (i := 12) rfl)) (hw _ (List.mem_of_getElem? (i := 6) rfl)) (by decide) (by decide)) q50a q50c (g := (mkF m 56 #[.val (.int p0), .val (.int p1), .val (.int p2), .val (.int (9 : Int32)), .val (.ref w_CANCELED_Notice_State), .val (.int (1 : Int32)), .val (.ref (own_op ((p1 &&& (2147483647 : Int32)) % (6 : Int32)) w_DELIVER w_ACKNOWLEDGE w_PROBE w_RESPONSE w_CANCEL w_CANCELED_Operation))] [(.ref r)])) rfl (by rw [hml]; rfl) (Steps.refl _) (argsL := []) (rest := []) (lenOf pd___Z rfl) rfl (by show 2 * 0 + _ ≤ _; exact Nat.le_of_eq rfl) (hb hby at_56) (fun _ _ => ⟨rfl, e49, (by decide : 0 + 0 ≤ _), (by decide : 0 + 0 ≤ _)⟩)
    dsimp only [Pt.U, Pt.locs, Pt.cells, Pt.slots] at X50 l50 y50 z50 st50 hQ50
    subst l50 y50 z50
    obtain ⟨hv50, N50q, e50⟩ := hQ50
    obtain rfl : v50 = some (.int (1 : Int32)) := hv50.trans (by simp [hrH, hrS])
    have N50 := Fr.app N49 N50q
    refine ogo (fun t k => st50.trans k) ?_
    show OwnEnds _ _ _ _ _ _ _ (T50.setTop (mkF m 59 #[.val (.int p0), .val (.int p1), .val (.int p2), .val (.int (9 : Int32)), .val (.ref w_CANCELED_Notice_State), .val (.int (1 : Int32)), .val (.ref (own_op ((p1 &&& (2147483647 : Int32)) % (6 : Int32)) w_DELIVER w_ACKNOWLEDGE w_PROBE w_RESPONSE w_CANCEL w_CANCELED_Operation))] [(.int (1 : Int32))]))
    refine endZ X50 hx hlk Bd.returns rfl (hb hby at_59) (by decide) (by decide) ?_
    show Q0 Z p0 p1 p2 w_HELD w_RESPONSE w_OK w_MAILBOX_MOVED w_PROBE w_CANCEL w_FAILED w_SENT w_DELIVER w_MOVED w_MISSING w_FOUND w_REFUSED w_CANCELED_Operation w_ACKNOWLEDGE w_DELIVERED w_DONE w_CANCELED_Notice_State h0 n0 _ T50.heap _
    rw [e50]
    exact ⟨rfl, N50⟩
set_option maxRecDepth 65536 in
set_option maxHeartbeats 40000000 in
theorem comes_1 {Post : Tables → Env → Array Value → State → Outcome → State → Prop} (hpost : ∀ tb e args s v u, (limb_1_1.after args s (.returned v) u = true ∧ limb_1_2.after args s (.returned v) u = true ∧ True) → FrameEnd s (.returned v) u (Jvm.fieldLocs frame_1_writes args s ++ Jvm.arrayLocs frame_1_arrays args s ++ Jvm.staticLocs frame_1_statics s) 0 0 → Post tb e args s (.returned v) u) :
    ArmFor flags0 classFile x code maxLocals ret World_1 tables_1 room_1 Calls_1 rest_1 Pre_1 Post := by
  intro l hfl _ _ p e ha hc hk s m args below hf hA hF happ hP
  obtain ⟨hcalls, hrest, hpre⟩ := hP
  obtain ⟨-, -, -, hnamed, -, -, -, hat⟩ := (Spec.applies_iff hf).mp happ
  obtain ⟨hg, hn⟩ := and_e (Cond.before_iff.mp (show (Jvm.Cond.and given_1 narrow_1).before args s = true from hpre))
  obtain ⟨hcount, hg0⟩ := and_e hg
  obtain ⟨hk0, hg1⟩ := and_e hg0
  obtain ⟨hk1, hg2⟩ := and_e hg1
  have hk2 := hg2
  obtain ⟨w0, w1, w2, rfl⟩ : ∃ w0 w1 w2 : Value, args = #[w0, w1, w2] := by
    have hs : args.size = 3 := by simpa [Cond.value, given_1] using hcount
    obtain ⟨L⟩ := args
    match L, hs with
    | [w0, w1, w2], _ => exact ⟨w0, w1, w2, rfl⟩
  have hw := fun d (hd : d ∈ tables_1) => atoms_spec (ws := Jvm.Cond.code x code maxLocals ret :: tables_1) hat d (List.mem_cons_of_mem _ hd)
  have hfit : Fit s := fun {y c} hc i hi => by
    obtain ⟨ha, rfl⟩ := Array.getElem?_eq_some_iff.mp hc
    have q := List.all_eq_true.mp ((Array.all_eq_true_iff_forall_mem.mp hF) _ (Array.getElem_mem ha)) i (List.mem_range.mpr hi)
    simpa [Array.getElem?_eq_getElem hi] using q
  obtain ⟨i0, ei0⟩ := is_v hk0
  obtain rfl : w0 = (.int i0) := Option.some.inj ei0
  obtain ⟨i1, ei1⟩ := is_v hk1
  obtain rfl : w1 = (.int i1) := Option.some.inj ei1
  obtain ⟨i2, ei2⟩ := is_v hk2
  obtain rfl : w2 = (.int i2) := Option.some.inj ei2
  obtain ⟨u1a, u1b⟩ := and_e hn
  obtain ⟨u2a, u2b⟩ := and_e u1b
  obtain ⟨u3a, u3b⟩ := and_e u2b
  obtain ⟨u4a, u4b⟩ := and_e u3b
  obtain ⟨u5a, u5b⟩ := and_e u4b
  obtain ⟨u6a, u6b⟩ := and_e u5b
  obtain ⟨u7a, u7b⟩ := and_e u6b
  obtain ⟨u8a, u8b⟩ := and_e u7b
  obtain ⟨u9a, u9b⟩ := and_e u8b
  obtain ⟨u10a, u10b⟩ := and_e u9b
  obtain ⟨u11a, u11b⟩ := and_e u10b
  obtain ⟨u12a, u12b⟩ := and_e u11b
  obtain ⟨u13a, u13b⟩ := and_e u12b
  obtain ⟨u14a, u14b⟩ := and_e u13b
  obtain ⟨u15a, u15b⟩ := and_e u14b
  obtain ⟨u16a, u16b⟩ := and_e u15b
  obtain ⟨u17a, u17b⟩ := and_e u16b
  obtain ⟨u18a, u18b⟩ := and_e u17b
  obtain ⟨u19a, u19b⟩ := and_e u18b
  obtain ⟨u20a, u20b⟩ := and_e u19b
  obtain ⟨u21a, u21b⟩ := and_e u20b
  obtain ⟨u22a, u22b⟩ := and_e u21b
  obtain ⟨u23a, u23b⟩ := and_e u22b
  obtain ⟨u24a, u24b⟩ := and_e u23b
  obtain ⟨u25a, u25b⟩ := and_e u24b
  obtain ⟨u26a, u26b⟩ := and_e u25b
  obtain ⟨u27a, u27b⟩ := and_e u26b
  obtain ⟨u28a, u28b⟩ := and_e u27b
  obtain ⟨u29a, u29b⟩ := and_e u28b
  obtain ⟨u30a, u30b⟩ := and_e u29b
  obtain ⟨u31a, u31b⟩ := and_e u30b
  obtain ⟨u32a, u32b⟩ := and_e u31b
  obtain ⟨u33a, u33b⟩ := and_e u32b
  obtain ⟨u34a, u34b⟩ := and_e u33b
  obtain ⟨u35a, u35b⟩ := and_e u34b
  obtain ⟨w_HELD, ev_HELD⟩ := exa_v u1a
  have S_HELD : Sta s s.heap "com/example/tidingsd/tidingsd/model/Notice$State" "HELD" "Lcom/example/tidingsd/tidingsd/model/Notice$State;" (.ref w_HELD) := Sta.start ev_HELD (Or.inr ⟨(hw _ (List.mem_of_getElem? (i := 6) rfl)), (hw _ (List.mem_of_getElem? (i := 7) rfl))⟩)
  have E_HELD : Exa s s.heap w_HELD "com/example/tidingsd/tidingsd/model/Notice$State" := Exa.start ev_HELD u1a
  obtain ⟨w_RESPONSE, ev_RESPONSE⟩ := exa_v u2a
  have S_RESPONSE : Sta s s.heap "com/example/tidingsd/tidingsd/model/Operation" "RESPONSE" "Lcom/example/tidingsd/tidingsd/model/Operation;" (.ref w_RESPONSE) := Sta.start ev_RESPONSE (Or.inr ⟨(hw _ (List.mem_of_getElem? (i := 18) rfl)), (hw _ (List.mem_of_getElem? (i := 19) rfl))⟩)
  have E_RESPONSE : Exa s s.heap w_RESPONSE "com/example/tidingsd/tidingsd/model/Operation" := Exa.start ev_RESPONSE u2a
  obtain ⟨w_OK, ev_OK⟩ := exa_v u3a
  have S_OK : Sta s s.heap "com/example/tidingsd/tidingsd/model/Outcome" "OK" "Lcom/example/tidingsd/tidingsd/model/Outcome;" (.ref w_OK) := Sta.start ev_OK (Or.inr ⟨(hw _ (List.mem_of_getElem? (i := 24) rfl)), (hw _ (List.mem_of_getElem? (i := 25) rfl))⟩)
  have E_OK : Exa s s.heap w_OK "com/example/tidingsd/tidingsd/model/Outcome" := Exa.start ev_OK u3a
  obtain ⟨w_MAILBOX_MOVED, ev_MAILBOX_MOVED⟩ := exa_v u5a
  have S_MAILBOX_MOVED : Sta s s.heap "com/example/tidingsd/tidingsd/model/Outcome" "MAILBOX_MOVED" "Lcom/example/tidingsd/tidingsd/model/Outcome;" (.ref w_MAILBOX_MOVED) := Sta.start ev_MAILBOX_MOVED (Or.inr ⟨(hw _ (List.mem_of_getElem? (i := 24) rfl)), (hw _ (List.mem_of_getElem? (i := 34) rfl))⟩)
  have E_MAILBOX_MOVED : Exa s s.heap w_MAILBOX_MOVED "com/example/tidingsd/tidingsd/model/Outcome" := Exa.start ev_MAILBOX_MOVED u5a
  obtain ⟨w_PROBE, ev_PROBE⟩ := exa_v u7a
  have S_PROBE : Sta s s.heap "com/example/tidingsd/tidingsd/model/Operation" "PROBE" "Lcom/example/tidingsd/tidingsd/model/Operation;" (.ref w_PROBE) := Sta.start ev_PROBE (Or.inr ⟨(hw _ (List.mem_of_getElem? (i := 18) rfl)), (hw _ (List.mem_of_getElem? (i := 36) rfl))⟩)
  have E_PROBE : Exa s s.heap w_PROBE "com/example/tidingsd/tidingsd/model/Operation" := Exa.start ev_PROBE u7a
  obtain ⟨w_CANCEL, ev_CANCEL⟩ := exa_v u10a
  have S_CANCEL : Sta s s.heap "com/example/tidingsd/tidingsd/model/Operation" "CANCEL" "Lcom/example/tidingsd/tidingsd/model/Operation;" (.ref w_CANCEL) := Sta.start ev_CANCEL (Or.inr ⟨(hw _ (List.mem_of_getElem? (i := 18) rfl)), (hw _ (List.mem_of_getElem? (i := 38) rfl))⟩)
  have E_CANCEL : Exa s s.heap w_CANCEL "com/example/tidingsd/tidingsd/model/Operation" := Exa.start ev_CANCEL u10a
  obtain ⟨w_FAILED, ev_FAILED⟩ := exa_v u12a
  have S_FAILED : Sta s s.heap "com/example/tidingsd/tidingsd/model/Notice$State" "FAILED" "Lcom/example/tidingsd/tidingsd/model/Notice$State;" (.ref w_FAILED) := Sta.start ev_FAILED (Or.inr ⟨(hw _ (List.mem_of_getElem? (i := 6) rfl)), (hw _ (List.mem_of_getElem? (i := 40) rfl))⟩)
  have E_FAILED : Exa s s.heap w_FAILED "com/example/tidingsd/tidingsd/model/Notice$State" := Exa.start ev_FAILED u12a
  obtain ⟨w_SENT, ev_SENT⟩ := exa_v u15a
  have S_SENT : Sta s s.heap "com/example/tidingsd/tidingsd/model/Notice$State" "SENT" "Lcom/example/tidingsd/tidingsd/model/Notice$State;" (.ref w_SENT) := Sta.start ev_SENT (Or.inr ⟨(hw _ (List.mem_of_getElem? (i := 6) rfl)), (hw _ (List.mem_of_getElem? (i := 42) rfl))⟩)
  have E_SENT : Exa s s.heap w_SENT "com/example/tidingsd/tidingsd/model/Notice$State" := Exa.start ev_SENT u15a
  obtain ⟨w_DELIVER, ev_DELIVER⟩ := exa_v u17a
  have S_DELIVER : Sta s s.heap "com/example/tidingsd/tidingsd/model/Operation" "DELIVER" "Lcom/example/tidingsd/tidingsd/model/Operation;" (.ref w_DELIVER) := Sta.start ev_DELIVER (Or.inr ⟨(hw _ (List.mem_of_getElem? (i := 18) rfl)), (hw _ (List.mem_of_getElem? (i := 45) rfl))⟩)
  have E_DELIVER : Exa s s.heap w_DELIVER "com/example/tidingsd/tidingsd/model/Operation" := Exa.start ev_DELIVER u17a
  obtain ⟨w_MOVED, ev_MOVED⟩ := exa_v u19a
  have S_MOVED : Sta s s.heap "com/example/tidingsd/tidingsd/model/Notice$State" "MOVED" "Lcom/example/tidingsd/tidingsd/model/Notice$State;" (.ref w_MOVED) := Sta.start ev_MOVED (Or.inr ⟨(hw _ (List.mem_of_getElem? (i := 6) rfl)), (hw _ (List.mem_of_getElem? (i := 47) rfl))⟩)
  have E_MOVED : Exa s s.heap w_MOVED "com/example/tidingsd/tidingsd/model/Notice$State" := Exa.start ev_MOVED u19a
  obtain ⟨w_MISSING, ev_MISSING⟩ := exa_v u21a
  have S_MISSING : Sta s s.heap "com/example/tidingsd/tidingsd/model/Notice$State" "MISSING" "Lcom/example/tidingsd/tidingsd/model/Notice$State;" (.ref w_MISSING) := Sta.start ev_MISSING (Or.inr ⟨(hw _ (List.mem_of_getElem? (i := 6) rfl)), (hw _ (List.mem_of_getElem? (i := 50) rfl))⟩)
  have E_MISSING : Exa s s.heap w_MISSING "com/example/tidingsd/tidingsd/model/Notice$State" := Exa.start ev_MISSING u21a
  obtain ⟨w_FOUND, ev_FOUND⟩ := exa_v u23a
  have S_FOUND : Sta s s.heap "com/example/tidingsd/tidingsd/model/Notice$State" "FOUND" "Lcom/example/tidingsd/tidingsd/model/Notice$State;" (.ref w_FOUND) := Sta.start ev_FOUND (Or.inr ⟨(hw _ (List.mem_of_getElem? (i := 6) rfl)), (hw _ (List.mem_of_getElem? (i := 52) rfl))⟩)
  have E_FOUND : Exa s s.heap w_FOUND "com/example/tidingsd/tidingsd/model/Notice$State" := Exa.start ev_FOUND u23a
  obtain ⟨w_REFUSED, ev_REFUSED⟩ := exa_v u25a
  have S_REFUSED : Sta s s.heap "com/example/tidingsd/tidingsd/model/Notice$State" "REFUSED" "Lcom/example/tidingsd/tidingsd/model/Notice$State;" (.ref w_REFUSED) := Sta.start ev_REFUSED (Or.inr ⟨(hw _ (List.mem_of_getElem? (i := 6) rfl)), (hw _ (List.mem_of_getElem? (i := 55) rfl))⟩)
  have E_REFUSED : Exa s s.heap w_REFUSED "com/example/tidingsd/tidingsd/model/Notice$State" := Exa.start ev_REFUSED u25a
  obtain ⟨w_CANCELED_Operation, ev_CANCELED_Operation⟩ := exa_v u27a
  have S_CANCELED_Operation : Sta s s.heap "com/example/tidingsd/tidingsd/model/Operation" "CANCELED" "Lcom/example/tidingsd/tidingsd/model/Operation;" (.ref w_CANCELED_Operation) := Sta.start ev_CANCELED_Operation (Or.inr ⟨(hw _ (List.mem_of_getElem? (i := 18) rfl)), (hw _ (List.mem_of_getElem? (i := 58) rfl))⟩)
  have E_CANCELED_Operation : Exa s s.heap w_CANCELED_Operation "com/example/tidingsd/tidingsd/model/Operation" := Exa.start ev_CANCELED_Operation u27a
  obtain ⟨w_ACKNOWLEDGE, ev_ACKNOWLEDGE⟩ := exa_v u29a
  have S_ACKNOWLEDGE : Sta s s.heap "com/example/tidingsd/tidingsd/model/Operation" "ACKNOWLEDGE" "Lcom/example/tidingsd/tidingsd/model/Operation;" (.ref w_ACKNOWLEDGE) := Sta.start ev_ACKNOWLEDGE (Or.inr ⟨(hw _ (List.mem_of_getElem? (i := 18) rfl)), (hw _ (List.mem_of_getElem? (i := 61) rfl))⟩)
  have E_ACKNOWLEDGE : Exa s s.heap w_ACKNOWLEDGE "com/example/tidingsd/tidingsd/model/Operation" := Exa.start ev_ACKNOWLEDGE u29a
  obtain ⟨w_DELIVERED, ev_DELIVERED⟩ := exa_v u31a
  have S_DELIVERED : Sta s s.heap "com/example/tidingsd/tidingsd/model/Notice$State" "DELIVERED" "Lcom/example/tidingsd/tidingsd/model/Notice$State;" (.ref w_DELIVERED) := Sta.start ev_DELIVERED (Or.inr ⟨(hw _ (List.mem_of_getElem? (i := 6) rfl)), (hw _ (List.mem_of_getElem? (i := 63) rfl))⟩)
  have E_DELIVERED : Exa s s.heap w_DELIVERED "com/example/tidingsd/tidingsd/model/Notice$State" := Exa.start ev_DELIVERED u31a
  obtain ⟨w_DONE, ev_DONE⟩ := exa_v u33a
  have S_DONE : Sta s s.heap "com/example/tidingsd/tidingsd/model/Notice$State" "DONE" "Lcom/example/tidingsd/tidingsd/model/Notice$State;" (.ref w_DONE) := Sta.start ev_DONE (Or.inr ⟨(hw _ (List.mem_of_getElem? (i := 6) rfl)), (hw _ (List.mem_of_getElem? (i := 66) rfl))⟩)
  have E_DONE : Exa s s.heap w_DONE "com/example/tidingsd/tidingsd/model/Notice$State" := Exa.start ev_DONE u33a
  obtain ⟨w_CANCELED_Notice_State, ev_CANCELED_Notice_State⟩ := exa_v u35a
  have S_CANCELED_Notice_State : Sta s s.heap "com/example/tidingsd/tidingsd/model/Notice$State" "CANCELED" "Lcom/example/tidingsd/tidingsd/model/Notice$State;" (.ref w_CANCELED_Notice_State) := Sta.start ev_CANCELED_Notice_State (Or.inr ⟨(hw _ (List.mem_of_getElem? (i := 6) rfl)), (hw _ (List.mem_of_getElem? (i := 68) rfl))⟩)
  have E_CANCELED_Notice_State : Exa s s.heap w_CANCELED_Notice_State "com/example/tidingsd/tidingsd/model/Notice$State" := Exa.start ev_CANCELED_Notice_State u35a
  have F_errorClass_OK : Fld s s.heap w_OK "com/example/tidingsd/tidingsd/model/Outcome" "errorClass" "I" (.int (0 : Int32)) := own_fld u4a ev_OK
  have F_errorClass_MAILBOX_MOVED : Fld s s.heap w_MAILBOX_MOVED "com/example/tidingsd/tidingsd/model/Outcome" "errorClass" "I" (.int (1 : Int32)) := own_fld u6a ev_MAILBOX_MOVED
  have F_ordinal_RESPONSE : Fld s s.heap w_RESPONSE "java/lang/Enum" "ordinal" "I" (.int (3 : Int32)) := own_fld u8a ev_RESPONSE
  have F_ordinal_PROBE : Fld s s.heap w_PROBE "java/lang/Enum" "ordinal" "I" (.int (2 : Int32)) := own_fld u9a ev_PROBE
  have F_ordinal_CANCEL : Fld s s.heap w_CANCEL "java/lang/Enum" "ordinal" "I" (.int (4 : Int32)) := own_fld u11a ev_CANCEL
  have F_ordinal_FAILED : Fld s s.heap w_FAILED "java/lang/Enum" "ordinal" "I" (.int (3 : Int32)) := own_fld u13a ev_FAILED
  have F_ordinal_HELD : Fld s s.heap w_HELD "java/lang/Enum" "ordinal" "I" (.int (0 : Int32)) := own_fld u14a ev_HELD
  have F_ordinal_SENT : Fld s s.heap w_SENT "java/lang/Enum" "ordinal" "I" (.int (1 : Int32)) := own_fld u16a ev_SENT
  have F_ordinal_DELIVER : Fld s s.heap w_DELIVER "java/lang/Enum" "ordinal" "I" (.int (0 : Int32)) := own_fld u18a ev_DELIVER
  have F_ordinal_MOVED : Fld s s.heap w_MOVED "java/lang/Enum" "ordinal" "I" (.int (4 : Int32)) := own_fld u20a ev_MOVED
  have F_ordinal_MISSING : Fld s s.heap w_MISSING "java/lang/Enum" "ordinal" "I" (.int (6 : Int32)) := own_fld u22a ev_MISSING
  have F_ordinal_FOUND : Fld s s.heap w_FOUND "java/lang/Enum" "ordinal" "I" (.int (5 : Int32)) := own_fld u24a ev_FOUND
  have F_ordinal_REFUSED : Fld s s.heap w_REFUSED "java/lang/Enum" "ordinal" "I" (.int (8 : Int32)) := own_fld u26a ev_REFUSED
  have F_ordinal_CANCELED_Operation : Fld s s.heap w_CANCELED_Operation "java/lang/Enum" "ordinal" "I" (.int (5 : Int32)) := own_fld u28a ev_CANCELED_Operation
  have F_ordinal_ACKNOWLEDGE : Fld s s.heap w_ACKNOWLEDGE "java/lang/Enum" "ordinal" "I" (.int (1 : Int32)) := own_fld u30a ev_ACKNOWLEDGE
  have F_ordinal_DELIVERED : Fld s s.heap w_DELIVERED "java/lang/Enum" "ordinal" "I" (.int (2 : Int32)) := own_fld u32a ev_DELIVERED
  have F_ordinal_DONE : Fld s s.heap w_DONE "java/lang/Enum" "ordinal" "I" (.int (7 : Int32)) := own_fld u34a ev_DONE
  have F_ordinal_CANCELED_Notice_State : Fld s s.heap w_CANCELED_Notice_State "java/lang/Enum" "ordinal" "I" (.int (9 : Int32)) := own_fld u35b ev_CANCELED_Notice_State
  obtain ⟨n, o, h1, h2, h3, _, L, rfl, ⟨rfl, N⟩, hq⟩ := rm0 l s _ hw tables_1 i0 i1 i2 w_HELD w_RESPONSE w_OK w_MAILBOX_MOVED w_PROBE w_CANCEL w_FAILED w_SENT w_DELIVER w_MOVED w_MISSING w_FOUND w_REFUSED w_CANCELED_Operation w_ACKNOWLEDGE w_DELIVERED w_DONE w_CANCELED_Notice_State s.heap s.heap.size (Nat.le_refl _) S_HELD E_HELD F_ordinal_HELD S_RESPONSE E_RESPONSE F_ordinal_RESPONSE S_OK E_OK F_errorClass_OK S_MAILBOX_MOVED E_MAILBOX_MOVED F_errorClass_MAILBOX_MOVED S_PROBE E_PROBE F_ordinal_PROBE S_CANCEL E_CANCEL F_ordinal_CANCEL S_FAILED E_FAILED F_ordinal_FAILED S_SENT E_SENT F_ordinal_SENT S_DELIVER E_DELIVER F_ordinal_DELIVER S_MOVED E_MOVED F_ordinal_MOVED S_MISSING E_MISSING F_ordinal_MISSING S_FOUND E_FOUND F_ordinal_FOUND S_REFUSED E_REFUSED F_ordinal_REFUSED S_CANCELED_Operation E_CANCELED_Operation F_ordinal_CANCELED_Operation S_ACKNOWLEDGE E_ACKNOWLEDGE F_ordinal_ACKNOWLEDGE S_DELIVERED E_DELIVERED F_ordinal_DELIVERED S_DONE E_DONE F_ordinal_DONE S_CANCELED_Notice_State E_CANCELED_Notice_State F_ordinal_CANCELED_Notice_State p e ha hc hk s m _ below hf ((Spec.applies_iff_loose hf).mp happ).1 ⟨rfl, State.Warmed39.refl s, rfl⟩ trivial
  refine ⟨n, _, h1, h2, h3, hpost _ _ _ _ _ _ ⟨Cond.after_iff.mpr rfl, Cond.after_iff.mpr (eq_i res_at (Term.int_eval (1)) rfl), trivial⟩ ⟨hq.1, hq.2.1, (hq.2.2.sift fun y hy => Or.inr (N y hy)).mono (by decide) (by decide)⟩⟩
theorem main_1_1 : Claimed_1_1 := comes_1 fun _ _ _ _ _ _ h hF => ⟨h.1, hF⟩
theorem main_1_2 : Claimed_1_2 := comes_1 fun _ _ _ _ _ _ h hF => ⟨h.2.1, hF⟩
end Jvm.Pilot.@@N@@
namespace Jvm.Pilot.@@N@@
open Jvm Jvm.ClassFile Sem Op Lib Jvm.Free Jvm.Stand Jvm.Pilot.@@N@@.Jvm.D
/-! MADE BY PROGRAM (witnessworld.py) out of the Statement's table words and the real class files: 16 classes; the members and pool entries that the words name. The judged class is class 1, her method 3. -/
namespace start1
open Jvm.ClassFile
def u (s : String) : CpInfo := .utf8 (stringToUtf16 s)
/-- a pool by its gaps: so many unusable entries, then the entry; so many at the end -/
def gap : Nat → List CpInfo → List CpInfo
  | 0, r => r
  | n + 1, r => .unusable :: gap n r
def poolList (es : List (Nat × CpInfo)) (last : Nat) : List CpInfo := es.foldr (fun e r => gap e.1 (e.2 :: r)) (gap last [])
def pool (es : List (Nat × CpInfo)) (last : Nat) : Array CpInfo := ⟨poolList es last⟩
def fileOf (pool : Array CpInfo) (this : Nat) (attrs : Array Attribute := #[]) (ms : Array MethodInfo := #[]) (fl : Nat := 33) (sup : Nat := 0) (ifs : Array Nat := #[]) (fds : Array FieldInfo := #[]) : ClassFile where
  minorVersion := 0
  majorVersion := 65
  constantPool := pool
  accessFlags := fl
  thisClass := this
  superClass := sup
  interfaces := ifs
  fields := fds
  methods := ms
  attributes := attrs
def plain (name : String) (sup : Option ClassId) : Class where
  name := name
  kind := .ordinary
  loader := none
  accessFlags := 33
  super := sup
  interfaces := #[]
  cf := none
  fields := #[]
  methods := #[]
  instanceTypes := #[]
  staticTypes := #[]
  resolved := #[]
  callSites := []
  init := .initialized
  statics := none
  mirror := none

def pool0 : Array CpInfo := pool [(5, u "<init>"), (0, u "()V"), (1, .class_ 10), (1, u "java/lang/Object")] 113

def k0m0 : Method := { name := "<init>", desc := "()V", sig := { parameters := [], returnType := none }, accessFlags := 1, code := none }
/-- java/lang/Object -/
def k0 : Class := { plain "java/lang/Object" none with
  accessFlags := 33
  interfaces := #[]
  cf := some (fileOf pool0 8 #[] #[{ accessFlags := 1, nameIndex := 5, descriptorIndex := 6, attributes := #[] }] 33 0 #[] #[])
  fields := #[]
  methods := #[k0m0]
  instanceTypes := #[]
  staticTypes := #[]
  resolved := Array.replicate 124 none
  statics := none }

def pool1 : Array CpInfo := pool [(2, .class_ 4), (1, u "java/lang/Object"), (0, u "<init>"), (0, u "()V"), (0, .fieldref 8 9), (0, .class_ 10), (0, .nameAndType 11 12), (0, u "com/example/tidingsd/tidingsd/model/Notice$State"), (0, u "HELD"), (0, u "Lcom/example/tidingsd/tidingsd/model/Notice$State;"), (0, .fieldref 8 14), (0, .nameAndType 15 12), (0, u "SENT"), (0, .fieldref 8 17), (0, .nameAndType 18 12), (0, u "DELIVERED"), (0, .fieldref 8 20), (0, .nameAndType 21 12), (0, u "FAILED"), (0, .fieldref 8 23), (0, .nameAndType 24 12), (0, u "MOVED"), (0, .fieldref 8 26), (0, .nameAndType 27 12), (0, u "FOUND"), (0, .fieldref 8 29), (0, .nameAndType 30 12), (0, u "MISSING"), (0, .fieldref 8 32), (0, .nameAndType 33 12), (0, u "DONE"), (0, .fieldref 8 35), (0, .nameAndType 36 12), (0, u "REFUSED"), (0, .fieldref 8 38), (0, .nameAndType 39 12), (0, u "CANCELED"), (0, .fieldref 41 42), (0, .class_ 43), (0, .nameAndType 44 45), (0, u "com/example/tidingsd/tidingsd/model/Operation"), (0, u "DELIVER"), (0, u "Lcom/example/tidingsd/tidingsd/model/Operation;"), (0, .fieldref 41 47), (0, .nameAndType 48 45), (0, u "ACKNOWLEDGE"), (0, .fieldref 41 50), (0, .nameAndType 51 45), (0, u "PROBE"), (0, .fieldref 41 53), (0, .nameAndType 54 45), (0, u "RESPONSE"), (0, .fieldref 41 56), (0, .nameAndType 57 45), (0, u "CANCEL"), (0, .fieldref 41 59), (0, .nameAndType 39 45), (0, .integer 2147483647), (0, .methodref 62 63), (0, .class_ 64), (0, .nameAndType 65 66), (0, u "com/example/tidingsd/tidingsd/model/StateIsSettledPinLaw"), (0, u "state"), (0, u "(I)Lcom/example/tidingsd/tidingsd/model/Notice$State;"), (0, .methodref 8 68), (0, .nameAndType 69 70), (0, u "isSettled"), (0, u "()Z"), (0, .methodref 62 72), (0, .nameAndType 73 74), (0, u "op"), (0, u "(I)Lcom/example/tidingsd/tidingsd/model/Operation;"), (0, .methodref 8 76), (0, .nameAndType 77 78), (0, u "settled"), (0, u "(Lcom/example/tidingsd/tidingsd/model/Operation;I)Lcom/example/tidingsd/tidingsd/model/Notice$State;"), (3, u "law"), (0, u "(III)Z")] 6

def k1m0 : Method := { name := "<init>", desc := "()V", sig := { parameters := [], returnType := none }, accessFlags := 1, code := none }
def k1c1 : Code := { maxStack := 2, maxLocals := 1, code := method_2_code, exceptionTable := #[], attributes := #[] }
def k1m1 : Method := { name := "state", desc := "(I)Lcom/example/tidingsd/tidingsd/model/Notice$State;", sig := { parameters := [.int], returnType := some (.object "com/example/tidingsd/tidingsd/model/Notice$State") }, accessFlags := 10, code := some k1c1 }
def k1c2 : Code := { maxStack := 2, maxLocals := 1, code := method_3_code, exceptionTable := #[], attributes := #[] }
def k1m2 : Method := { name := "op", desc := "(I)Lcom/example/tidingsd/tidingsd/model/Operation;", sig := { parameters := [.int], returnType := some (.object "com/example/tidingsd/tidingsd/model/Operation") }, accessFlags := 10, code := some k1c2 }
def k1c3 : Code := { maxStack := 2, maxLocals := 7, code := code, exceptionTable := #[], attributes := #[] }
def k1m3 : Method := { name := "law", desc := "(III)Z", sig := { parameters := [.int, .int, .int], returnType := some .boolean }, accessFlags := 9, code := some k1c3 }
/-- com/example/tidingsd/tidingsd/model/StateIsSettledPinLaw -/
def k1 : Class := { plain "com/example/tidingsd/tidingsd/model/StateIsSettledPinLaw" (some 0) with
  accessFlags := 49
  interfaces := #[]
  cf := some (fileOf pool1 62 #[] #[{ accessFlags := 1, nameIndex := 5, descriptorIndex := 6, attributes := #[] }, { accessFlags := 10, nameIndex := 65, descriptorIndex := 66, attributes := #[] }, { accessFlags := 10, nameIndex := 73, descriptorIndex := 74, attributes := #[] }, { accessFlags := 9, nameIndex := 82, descriptorIndex := 83, attributes := #[] }] 49 2 #[] #[])
  fields := #[]
  methods := #[k1m0, k1m1, k1m2, k1m3]
  instanceTypes := #[]
  staticTypes := #[]
  resolved := Array.replicate 90 none
  statics := none }

def pool2 : Array CpInfo := pool [(1, .class_ 2), (0, u "java/lang/constant/Constable"), (0, .class_ 4), (0, u "java/lang/Object")] 6

/-- java/lang/constant/Constable -/
def k2 : Class := { plain "java/lang/constant/Constable" (some 0) with
  accessFlags := 1537
  interfaces := #[]
  cf := some (fileOf pool2 1 #[] #[] 1537 3 #[] #[])
  fields := #[]
  methods := #[]
  instanceTypes := #[]
  staticTypes := #[]
  resolved := Array.replicate 11 none
  statics := none }

def pool3 : Array CpInfo := pool [(1, .class_ 2), (0, u "java/lang/Comparable"), (0, .class_ 4), (0, u "java/lang/Object")] 7

/-- java/lang/Comparable -/
def k3 : Class := { plain "java/lang/Comparable" (some 0) with
  accessFlags := 1537
  interfaces := #[]
  cf := some (fileOf pool3 1 #[] #[] 1537 3 #[] #[])
  fields := #[]
  methods := #[]
  instanceTypes := #[]
  staticTypes := #[]
  resolved := Array.replicate 12 none
  statics := none }

def pool4 : Array CpInfo := pool [(1, .class_ 2), (0, u "java/io/Serializable"), (0, .class_ 4), (0, u "java/lang/Object")] 2

/-- java/io/Serializable -/
def k4 : Class := { plain "java/io/Serializable" (some 0) with
  accessFlags := 1537
  interfaces := #[]
  cf := some (fileOf pool4 1 #[] #[] 1537 3 #[] #[])
  fields := #[]
  methods := #[]
  instanceTypes := #[]
  staticTypes := #[]
  resolved := Array.replicate 7 none
  statics := none }

def pool5 : Array CpInfo := pool [(2, .class_ 4), (1, u "java/lang/Enum"), (0, u "name"), (0, u "Ljava/lang/String;"), (2, u "ordinal"), (0, u "I"), (1, .class_ 14), (1, u "java/lang/Object"), (4, u "hash"), (86, .class_ 108), (1, u "java/lang/Enum$EnumDesc"), (2, .class_ 112), (0, u "java/lang/constant/Constable"), (0, .class_ 114), (0, u "java/lang/Comparable"), (0, .class_ 116), (0, u "java/io/Serializable")] 87

/-- java/lang/Enum -/
def k5 : Class := { plain "java/lang/Enum" (some 0) with
  accessFlags := 1057
  interfaces := #[2, 3, 4]
  cf := some (fileOf pool5 2 #[.nestMembers #[106]] #[] 1057 12 #[111, 113, 115] #[{ accessFlags := 18, nameIndex := 5, descriptorIndex := 6, attributes := #[] }, { accessFlags := 18, nameIndex := 9, descriptorIndex := 10, attributes := #[] }, { accessFlags := 2, nameIndex := 19, descriptorIndex := 10, attributes := #[] }])
  fields := #[{ name := "name", type := (.object "java/lang/String"), accessFlags := 18, slot := 0, constantValue := 0 }, { name := "ordinal", type := .int, accessFlags := 18, slot := 1, constantValue := 0 }, { name := "hash", type := .int, accessFlags := 2, slot := 2, constantValue := 0 }]
  methods := #[]
  instanceTypes := #[(.object "java/lang/String"), .int, .int]
  staticTypes := #[]
  resolved := Array.replicate 204 none
  statics := none }

def pool6 : Array CpInfo := pool [(1, .class_ 2), (0, u "com/example/tidingsd/tidingsd/model/Notice$State"), (0, .fieldref 1 4), (0, .nameAndType 5 6), (0, u "HELD"), (0, u "Lcom/example/tidingsd/tidingsd/model/Notice$State;"), (0, .fieldref 1 8), (0, .nameAndType 9 6), (0, u "SENT"), (0, .fieldref 1 11), (0, .nameAndType 12 6), (0, u "DELIVERED"), (0, .fieldref 1 14), (0, .nameAndType 15 6), (0, u "FAILED"), (0, .fieldref 1 17), (0, .nameAndType 18 6), (0, u "MOVED"), (0, .fieldref 1 20), (0, .nameAndType 21 6), (0, u "FOUND"), (0, .fieldref 1 23), (0, .nameAndType 24 6), (0, u "MISSING"), (0, .fieldref 1 26), (0, .nameAndType 27 6), (0, u "DONE"), (0, .fieldref 1 29), (0, .nameAndType 30 6), (0, u "REFUSED"), (2, u "CANCELED"), (2, u "$VALUES"), (0, u "[Lcom/example/tidingsd/tidingsd/model/Notice$State;"), (6, .class_ 46), (1, u "java/lang/Enum"), (6, .fieldref 54 55), (0, .class_ 56), (0, .nameAndType 57 58), (0, u "com/example/tidingsd/tidingsd/model/Outcome"), (0, u "OK"), (0, u "Lcom/example/tidingsd/tidingsd/model/Outcome;"), (0, .methodref 54 60), (0, .nameAndType 61 62), (0, u "errorClass"), (0, u "()I"), (0, .fieldref 54 64), (0, .nameAndType 65 58), (0, u "MAILBOX_MOVED"), (0, .fieldref 67 68), (0, .class_ 69), (0, .nameAndType 70 71), (0, u "com/example/tidingsd/tidingsd/model/Operation"), (0, u "DELIVER"), (0, u "Lcom/example/tidingsd/tidingsd/model/Operation;"), (0, .fieldref 67 73), (0, .nameAndType 74 71), (0, u "PROBE"), (0, .fieldref 67 76), (0, .nameAndType 77 71), (0, u "CANCEL"), (22, u "isSettled"), (0, u "()Z"), (1, u "settled"), (0, u "(Lcom/example/tidingsd/tidingsd/model/Operation;I)Lcom/example/tidingsd/tidingsd/model/Notice$State;"), (5, .class_ 111), (0, u "com/example/tidingsd/tidingsd/model/Notice")] 2

def k6c0 : Code := { maxStack := 2, maxLocals := 1, code := prog_74_method_4_code, exceptionTable := #[], attributes := #[] }
def k6m0 : Method := { name := "isSettled", desc := "()Z", sig := { parameters := [], returnType := some .boolean }, accessFlags := 1, code := some k6c0 }
def k6c1 : Code := { maxStack := 2, maxLocals := 4, code := prog_74_method_5_code, exceptionTable := #[], attributes := #[] }
def k6m1 : Method := { name := "settled", desc := "(Lcom/example/tidingsd/tidingsd/model/Operation;I)Lcom/example/tidingsd/tidingsd/model/Notice$State;", sig := { parameters := [(.object "com/example/tidingsd/tidingsd/model/Operation"), .int], returnType := some (.object "com/example/tidingsd/tidingsd/model/Notice$State") }, accessFlags := 8, code := some k6c1 }
/-- com/example/tidingsd/tidingsd/model/Notice$State -/
def k6 : Class := { plain "com/example/tidingsd/tidingsd/model/Notice$State" (some 5) with
  accessFlags := 16433
  interfaces := #[]
  cf := some (fileOf pool6 1 #[.nestHost 110] #[{ accessFlags := 1, nameIndex := 100, descriptorIndex := 101, attributes := #[] }, { accessFlags := 8, nameIndex := 103, descriptorIndex := 104, attributes := #[] }] 16433 44 #[] #[{ accessFlags := 16409, nameIndex := 5, descriptorIndex := 6, attributes := #[] }, { accessFlags := 16409, nameIndex := 9, descriptorIndex := 6, attributes := #[] }, { accessFlags := 16409, nameIndex := 12, descriptorIndex := 6, attributes := #[] }, { accessFlags := 16409, nameIndex := 15, descriptorIndex := 6, attributes := #[] }, { accessFlags := 16409, nameIndex := 18, descriptorIndex := 6, attributes := #[] }, { accessFlags := 16409, nameIndex := 21, descriptorIndex := 6, attributes := #[] }, { accessFlags := 16409, nameIndex := 24, descriptorIndex := 6, attributes := #[] }, { accessFlags := 16409, nameIndex := 27, descriptorIndex := 6, attributes := #[] }, { accessFlags := 16409, nameIndex := 30, descriptorIndex := 6, attributes := #[] }, { accessFlags := 16409, nameIndex := 33, descriptorIndex := 6, attributes := #[] }, { accessFlags := 4122, nameIndex := 36, descriptorIndex := 37, attributes := #[] }])
  fields := #[{ name := "HELD", type := (.object "com/example/tidingsd/tidingsd/model/Notice$State"), accessFlags := 16409, slot := 0, constantValue := 0 }, { name := "SENT", type := (.object "com/example/tidingsd/tidingsd/model/Notice$State"), accessFlags := 16409, slot := 1, constantValue := 0 }, { name := "DELIVERED", type := (.object "com/example/tidingsd/tidingsd/model/Notice$State"), accessFlags := 16409, slot := 2, constantValue := 0 }, { name := "FAILED", type := (.object "com/example/tidingsd/tidingsd/model/Notice$State"), accessFlags := 16409, slot := 3, constantValue := 0 }, { name := "MOVED", type := (.object "com/example/tidingsd/tidingsd/model/Notice$State"), accessFlags := 16409, slot := 4, constantValue := 0 }, { name := "FOUND", type := (.object "com/example/tidingsd/tidingsd/model/Notice$State"), accessFlags := 16409, slot := 5, constantValue := 0 }, { name := "MISSING", type := (.object "com/example/tidingsd/tidingsd/model/Notice$State"), accessFlags := 16409, slot := 6, constantValue := 0 }, { name := "DONE", type := (.object "com/example/tidingsd/tidingsd/model/Notice$State"), accessFlags := 16409, slot := 7, constantValue := 0 }, { name := "REFUSED", type := (.object "com/example/tidingsd/tidingsd/model/Notice$State"), accessFlags := 16409, slot := 8, constantValue := 0 }, { name := "CANCELED", type := (.object "com/example/tidingsd/tidingsd/model/Notice$State"), accessFlags := 16409, slot := 9, constantValue := 0 }, { name := "$VALUES", type := (.array (.object "com/example/tidingsd/tidingsd/model/Notice$State")), accessFlags := 4122, slot := 10, constantValue := 0 }]
  methods := #[k6m0, k6m1]
  instanceTypes := #[(.object "java/lang/String"), .int, .int]
  staticTypes := #[(.object "com/example/tidingsd/tidingsd/model/Notice$State"), (.object "com/example/tidingsd/tidingsd/model/Notice$State"), (.object "com/example/tidingsd/tidingsd/model/Notice$State"), (.object "com/example/tidingsd/tidingsd/model/Notice$State"), (.object "com/example/tidingsd/tidingsd/model/Notice$State"), (.object "com/example/tidingsd/tidingsd/model/Notice$State"), (.object "com/example/tidingsd/tidingsd/model/Notice$State"), (.object "com/example/tidingsd/tidingsd/model/Notice$State"), (.object "com/example/tidingsd/tidingsd/model/Notice$State"), (.object "com/example/tidingsd/tidingsd/model/Notice$State"), (.array (.object "com/example/tidingsd/tidingsd/model/Notice$State"))]
  resolved := Array.replicate 114 none
  statics := some 0 }

def pool7 : Array CpInfo := pool [(2, .class_ 4), (1, u "com/example/tidingsd/tidingsd/model/Keyword"), (43, .class_ 49), (0, u "java/lang/Object")] 13

/-- com/example/tidingsd/tidingsd/model/Keyword -/
def k7 : Class := { plain "com/example/tidingsd/tidingsd/model/Keyword" (some 0) with
  accessFlags := 1537
  interfaces := #[]
  cf := some (fileOf pool7 2 #[] #[] 1537 48 #[] #[])
  fields := #[]
  methods := #[]
  instanceTypes := #[]
  staticTypes := #[]
  resolved := Array.replicate 63 none
  statics := none }

def pool8 : Array CpInfo := pool [(1, .class_ 2), (0, u "com/example/tidingsd/tidingsd/model/Operation"), (2, u "DELIVER"), (0, u "Lcom/example/tidingsd/tidingsd/model/Operation;"), (2, u "ACKNOWLEDGE"), (2, u "PROBE"), (2, u "RESPONSE"), (2, u "CANCEL"), (2, u "CANCELED"), (2, u "$VALUES"), (0, u "[Lcom/example/tidingsd/tidingsd/model/Operation;"), (6, .class_ 34), (1, u "java/lang/Enum"), (48, .class_ 84), (0, u "com/example/tidingsd/tidingsd/model/Keyword")] 13

/-- com/example/tidingsd/tidingsd/model/Operation -/
def k8 : Class := { plain "com/example/tidingsd/tidingsd/model/Operation" (some 5) with
  accessFlags := 16433
  interfaces := #[7]
  cf := some (fileOf pool8 1 #[] #[] 16433 32 #[83] #[{ accessFlags := 16409, nameIndex := 5, descriptorIndex := 6, attributes := #[] }, { accessFlags := 16409, nameIndex := 9, descriptorIndex := 6, attributes := #[] }, { accessFlags := 16409, nameIndex := 12, descriptorIndex := 6, attributes := #[] }, { accessFlags := 16409, nameIndex := 15, descriptorIndex := 6, attributes := #[] }, { accessFlags := 16409, nameIndex := 18, descriptorIndex := 6, attributes := #[] }, { accessFlags := 16409, nameIndex := 21, descriptorIndex := 6, attributes := #[] }, { accessFlags := 4122, nameIndex := 24, descriptorIndex := 25, attributes := #[] }])
  fields := #[{ name := "DELIVER", type := (.object "com/example/tidingsd/tidingsd/model/Operation"), accessFlags := 16409, slot := 0, constantValue := 0 }, { name := "ACKNOWLEDGE", type := (.object "com/example/tidingsd/tidingsd/model/Operation"), accessFlags := 16409, slot := 1, constantValue := 0 }, { name := "PROBE", type := (.object "com/example/tidingsd/tidingsd/model/Operation"), accessFlags := 16409, slot := 2, constantValue := 0 }, { name := "RESPONSE", type := (.object "com/example/tidingsd/tidingsd/model/Operation"), accessFlags := 16409, slot := 3, constantValue := 0 }, { name := "CANCEL", type := (.object "com/example/tidingsd/tidingsd/model/Operation"), accessFlags := 16409, slot := 4, constantValue := 0 }, { name := "CANCELED", type := (.object "com/example/tidingsd/tidingsd/model/Operation"), accessFlags := 16409, slot := 5, constantValue := 0 }, { name := "$VALUES", type := (.array (.object "com/example/tidingsd/tidingsd/model/Operation")), accessFlags := 4122, slot := 6, constantValue := 0 }]
  methods := #[]
  instanceTypes := #[(.object "java/lang/String"), .int, .int]
  staticTypes := #[(.object "com/example/tidingsd/tidingsd/model/Operation"), (.object "com/example/tidingsd/tidingsd/model/Operation"), (.object "com/example/tidingsd/tidingsd/model/Operation"), (.object "com/example/tidingsd/tidingsd/model/Operation"), (.object "com/example/tidingsd/tidingsd/model/Operation"), (.object "com/example/tidingsd/tidingsd/model/Operation"), (.array (.object "com/example/tidingsd/tidingsd/model/Operation"))]
  resolved := Array.replicate 98 none
  statics := some 1 }

def pool9 : Array CpInfo := pool [(2, .class_ 4), (1, u "java/lang/Object"), (0, u "<init>"), (0, u "()V"), (0, .class_ 8), (0, u "java/lang/Record")] 13

def k9m0 : Method := { name := "<init>", desc := "()V", sig := { parameters := [], returnType := none }, accessFlags := 4, code := none }
/-- java/lang/Record -/
def k9 : Class := { plain "java/lang/Record" (some 0) with
  accessFlags := 1057
  interfaces := #[]
  cf := some (fileOf pool9 7 #[] #[{ accessFlags := 4, nameIndex := 5, descriptorIndex := 6, attributes := #[] }] 1057 2 #[] #[])
  fields := #[]
  methods := #[k9m0]
  instanceTypes := #[]
  staticTypes := #[]
  resolved := Array.replicate 22 none
  statics := none }

def pool10 : Array CpInfo := pool [(2, .class_ 4), (1, u "java/lang/Record"), (3, u "errorString"), (6, .fieldref 16 17), (0, .class_ 18), (0, .nameAndType 19 20), (0, u "com/example/tidingsd/tidingsd/model/Outcome"), (0, u "errorClass"), (0, u "I"), (2, u "Ljava/lang/String;"), (19, u "OK"), (0, u "Lcom/example/tidingsd/tidingsd/model/Outcome;"), (4, u "MAILBOX_MOVED"), (4, u "NO_SUCH_USER"), (3, u "MAILBOX_EXISTS"), (4, u "MAILBOX_DOES_NOT_EXIST"), (2, u "REMOVED"), (4, u "NO_SUCH_TRANSACTION"), (4, u "ABORTED"), (4, u "NO_SUCH_NETWORK"), (4, u "SYNTAX_ERROR_IN_ARGUMENTS"), (4, u "ROUTING_LOOP"), (4, u "NO_SERVICE"), (4, u "()I")] 23

def k10c0 : Code := { maxStack := 1, maxLocals := 1, code := prog_77_method_5_code, exceptionTable := #[], attributes := #[] }
def k10m0 : Method := { name := "errorClass", desc := "()I", sig := { parameters := [], returnType := some .int }, accessFlags := 1, code := some k10c0 }
/-- com/example/tidingsd/tidingsd/model/Outcome -/
def k10 : Class := { plain "com/example/tidingsd/tidingsd/model/Outcome" (some 9) with
  accessFlags := 49
  interfaces := #[]
  cf := some (fileOf pool10 16 #[] #[{ accessFlags := 1, nameIndex := 19, descriptorIndex := 101, attributes := #[] }] 49 2 #[] #[{ accessFlags := 18, nameIndex := 19, descriptorIndex := 20, attributes := #[] }, { accessFlags := 18, nameIndex := 8, descriptorIndex := 23, attributes := #[] }, { accessFlags := 25, nameIndex := 43, descriptorIndex := 44, attributes := #[] }, { accessFlags := 25, nameIndex := 49, descriptorIndex := 44, attributes := #[] }, { accessFlags := 25, nameIndex := 54, descriptorIndex := 44, attributes := #[] }, { accessFlags := 25, nameIndex := 58, descriptorIndex := 44, attributes := #[] }, { accessFlags := 25, nameIndex := 63, descriptorIndex := 44, attributes := #[] }, { accessFlags := 25, nameIndex := 66, descriptorIndex := 44, attributes := #[] }, { accessFlags := 25, nameIndex := 71, descriptorIndex := 44, attributes := #[] }, { accessFlags := 25, nameIndex := 76, descriptorIndex := 44, attributes := #[] }, { accessFlags := 25, nameIndex := 81, descriptorIndex := 44, attributes := #[] }, { accessFlags := 25, nameIndex := 86, descriptorIndex := 44, attributes := #[] }, { accessFlags := 25, nameIndex := 91, descriptorIndex := 44, attributes := #[] }, { accessFlags := 25, nameIndex := 96, descriptorIndex := 44, attributes := #[] }])
  fields := #[{ name := "errorClass", type := .int, accessFlags := 18, slot := 0, constantValue := 0 }, { name := "errorString", type := (.object "java/lang/String"), accessFlags := 18, slot := 1, constantValue := 0 }, { name := "OK", type := (.object "com/example/tidingsd/tidingsd/model/Outcome"), accessFlags := 25, slot := 0, constantValue := 0 }, { name := "MAILBOX_MOVED", type := (.object "com/example/tidingsd/tidingsd/model/Outcome"), accessFlags := 25, slot := 1, constantValue := 0 }, { name := "NO_SUCH_USER", type := (.object "com/example/tidingsd/tidingsd/model/Outcome"), accessFlags := 25, slot := 2, constantValue := 0 }, { name := "MAILBOX_EXISTS", type := (.object "com/example/tidingsd/tidingsd/model/Outcome"), accessFlags := 25, slot := 3, constantValue := 0 }, { name := "MAILBOX_DOES_NOT_EXIST", type := (.object "com/example/tidingsd/tidingsd/model/Outcome"), accessFlags := 25, slot := 4, constantValue := 0 }, { name := "REMOVED", type := (.object "com/example/tidingsd/tidingsd/model/Outcome"), accessFlags := 25, slot := 5, constantValue := 0 }, { name := "NO_SUCH_TRANSACTION", type := (.object "com/example/tidingsd/tidingsd/model/Outcome"), accessFlags := 25, slot := 6, constantValue := 0 }, { name := "ABORTED", type := (.object "com/example/tidingsd/tidingsd/model/Outcome"), accessFlags := 25, slot := 7, constantValue := 0 }, { name := "NO_SUCH_NETWORK", type := (.object "com/example/tidingsd/tidingsd/model/Outcome"), accessFlags := 25, slot := 8, constantValue := 0 }, { name := "SYNTAX_ERROR_IN_ARGUMENTS", type := (.object "com/example/tidingsd/tidingsd/model/Outcome"), accessFlags := 25, slot := 9, constantValue := 0 }, { name := "ROUTING_LOOP", type := (.object "com/example/tidingsd/tidingsd/model/Outcome"), accessFlags := 25, slot := 10, constantValue := 0 }, { name := "NO_SERVICE", type := (.object "com/example/tidingsd/tidingsd/model/Outcome"), accessFlags := 25, slot := 11, constantValue := 0 }]
  methods := #[k10m0]
  instanceTypes := #[.int, (.object "java/lang/String")]
  staticTypes := #[(.object "com/example/tidingsd/tidingsd/model/Outcome"), (.object "com/example/tidingsd/tidingsd/model/Outcome"), (.object "com/example/tidingsd/tidingsd/model/Outcome"), (.object "com/example/tidingsd/tidingsd/model/Outcome"), (.object "com/example/tidingsd/tidingsd/model/Outcome"), (.object "com/example/tidingsd/tidingsd/model/Outcome"), (.object "com/example/tidingsd/tidingsd/model/Outcome"), (.object "com/example/tidingsd/tidingsd/model/Outcome"), (.object "com/example/tidingsd/tidingsd/model/Outcome"), (.object "com/example/tidingsd/tidingsd/model/Outcome"), (.object "com/example/tidingsd/tidingsd/model/Outcome"), (.object "com/example/tidingsd/tidingsd/model/Outcome")]
  resolved := Array.replicate 125 none
  statics := some 2 }

def pool11 : Array CpInfo := pool [(1, u "java/lang/Cloneable"), (0, .class_ 1), (0, u "java/lang/Object"), (0, .class_ 3)] 3

/-- java/lang/Cloneable -/
def k11 : Class := { plain "java/lang/Cloneable" (some 0) with
  accessFlags := 1537
  interfaces := #[]
  cf := some (fileOf pool11 2 #[] #[] 1537 4 #[] #[])
  fields := #[]
  methods := #[]
  instanceTypes := #[]
  staticTypes := #[]
  resolved := Array.replicate 8 none
  statics := none }

/-- the primitive byte -/
def k12 : Class := { plain "byte" none with kind := .primitive 'B', accessFlags := 0x411 }
/-- [B -/
def k13 : Class := { plain "[B" (some 0) with kind := .array 12 .byte, interfaces := #[11, 4], accessFlags := 1041 }

/-- the primitive int -/
def k14 : Class := { plain "int" none with kind := .primitive 'I', accessFlags := 0x411 }
/-- [I -/
def k15 : Class := { plain "[I" (some 0) with kind := .array 14 .int, interfaces := #[11, 4], accessFlags := 1041 }

def heap : Heap := #[{ cls := 6, slots := #[.ref 3, .ref 10, .ref 18, .ref 9, .ref 12, .ref 14, .ref 13, .ref 19, .ref 15, .ref 20, .null], vm := .statics 6 },
  { cls := 8, slots := #[.ref 11, .ref 17, .ref 7, .ref 4, .ref 8, .ref 16, .null], vm := .statics 8 },
  { cls := 10, slots := #[.ref 5, .ref 6, .null, .null, .null, .null, .null, .null, .null, .null, .null, .null], vm := .statics 10 },
  { cls := 6, slots := #[.null, .int 0, .int 0], vm := .none },
  { cls := 8, slots := #[.null, .int 3, .int 0], vm := .none },
  { cls := 10, slots := #[.int 0, .null], vm := .none },
  { cls := 10, slots := #[.int 1, .null], vm := .none },
  { cls := 8, slots := #[.null, .int 2, .int 0], vm := .none },
  { cls := 8, slots := #[.null, .int 4, .int 0], vm := .none },
  { cls := 6, slots := #[.null, .int 3, .int 0], vm := .none },
  { cls := 6, slots := #[.null, .int 1, .int 0], vm := .none },
  { cls := 8, slots := #[.null, .int 0, .int 0], vm := .none },
  { cls := 6, slots := #[.null, .int 4, .int 0], vm := .none },
  { cls := 6, slots := #[.null, .int 6, .int 0], vm := .none },
  { cls := 6, slots := #[.null, .int 5, .int 0], vm := .none },
  { cls := 6, slots := #[.null, .int 8, .int 0], vm := .none },
  { cls := 8, slots := #[.null, .int 5, .int 0], vm := .none },
  { cls := 8, slots := #[.null, .int 1, .int 0], vm := .none },
  { cls := 6, slots := #[.null, .int 2, .int 0], vm := .none },
  { cls := 6, slots := #[.null, .int 7, .int 0], vm := .none },
  { cls := 6, slots := #[.null, .int 9, .int 0], vm := .none }]
def classes : Array Class := #[k0, k1, k2, k3, k4, k5, k6, k7, k8, k9, k10, k11, k12, k13, k14, k15]
def interned : List (Array UInt16 × Addr) := []
def slotsUsed : Nat := 82
def theMethod : MethodId := ⟨1, 3⟩
def args0 : Array Value := #[.int 5, .int 5, .int 5]
def aboutOver (below : List Frame) : State where
  vm := { classes := classes, interned := interned.toArray }
  heap := heap
  slotsUsed := slotsUsed
  threads := #[{ frames := .invoking theMethod args0 :: below }]
def below0 : List Frame := [.native { method := ⟨0, 0⟩, args := #[] }]
def about1 : State := aboutOver below0
def p0 : Program := .bare "" "" ""
def e0 : Env := launch0.env 0 0 0
theorem w_frames : about1.frames = Frame.invoking theMethod args0 :: below0 := rfl
set_option maxRecDepth 65536 in
theorem w_args : argsFit about1.vm theMethod args0 = true := by decide +kernel
set_option maxRecDepth 65536 in
theorem w_heap : heapFits about1 = true := by decide +kernel
set_option maxRecDepth 65536 in
theorem w_runnable : about1.curStatus? = some .runnable := by decide +kernel
set_option maxRecDepth 65536 in
theorem w_alone : about1.alone = true := by decide +kernel
set_option maxRecDepth 65536 in
theorem w_named : about1.methodNamed? x = some theMethod := by decide +kernel
set_option maxRecDepth 65536 in
theorem w_hears : about1.hears theMethod below0 = true := by decide +kernel
set_option maxRecDepth 65536 in
theorem w_ripe : about1.ripe theMethod args0 below0 = true := by decide +kernel
theorem w_running : about1.status = .running := rfl
set_option maxRecDepth 65536 in
theorem w_room : about1.hasRoom e0.platform room_1 = true :=
  launch0.hasRoom_least _ room_1 (by decide +kernel) (by decide +kernel) (by decide +kernel) (by decide +kernel) (by decide +kernel) (by decide +kernel)
theorem allAtoms_all (ts : List Jvm.Cond) (a : Array Jvm.Value) (st : Jvm.State) : (allAtoms ts).before a st = ts.all (fun c => c.before a st) := by
  induction ts with
  | nil => rfl
  | cons c t ih =>
    show (Jvm.Cond.and c (allAtoms t)).before a st = _
    rw [Jvm.Cond.before_and, ih, List.all_cons]
def words1 : List Jvm.Cond := Jvm.Cond.code x code maxLocals ret :: tables_1
/-- a 'code' word, met by the world's own term for the bytes: nothing is compared byte by byte -/
theorem code_word {y : MethodName} {bytes : ByteArray} {mx : Nat} {rt : Option FieldType} {a : Array Value} {s : State} {m : MethodId} {meth : Method} {c : Code} (h1 : s.methodNamed? y = some m) (h2 : s.vm.method? m = some meth) (h3 : meth.code = some c) (h4 : c.code = bytes)
    (h5 : (c.maxLocals == mx && c.exceptionTable.isEmpty && decide (c.maxStack ≤ mostOperands) && decide (meth.sig.returnType = rt) && !meth.locks && decide (parseMethodDescriptor y.desc = some meth.sig)) = true) : (Jvm.Cond.code y bytes mx rt).before a s = true := by
  simp only [Bool.and_eq_true, beq_iff_eq, Bool.not_eq_true', decide_eq_true_eq] at h5
  obtain ⟨⟨⟨⟨⟨g1, g2⟩, g3⟩, g4⟩, g5⟩, g6⟩ := h5
  simp [Cond.before, Cond.holds, Cond.value, h1, h2, h3, h4, g1, g2, g3, g4, g5, g6]
def isCode : Jvm.Cond → Bool
  | .code _ _ _ _ => true
  | _ => false
theorem all_split {L : List Jvm.Cond} {P : Jvm.Cond → Bool} (h1 : L.all (fun c => isCode c || P c) = true) (h2 : ∀ c ∈ L.filter isCode, P c = true) : L.all P = true := by
  refine List.all_eq_true.mpr fun c hc => ?_
  have h := List.all_eq_true.mp h1 c hc
  rcases Bool.eq_false_or_eq_true (isCode c) with hi | hi
  · exact h2 c (List.mem_filter.mpr ⟨hc, hi⟩)
  · simpa [hi] using h
set_option maxRecDepth 65536 in
theorem w_c0 : (Jvm.Cond.code x code maxLocals ret).before args0 about1 = true := code_word (m := ⟨1, 3⟩) (meth := k1m3) (c := k1c3) (by decide +kernel) rfl rfl rfl (by decide +kernel)
set_option maxRecDepth 65536 in
theorem w_c1 : (Jvm.Cond.code ({ cls := "com/example/tidingsd/tidingsd/model/StateIsSettledPinLaw", name := "state", desc := "(I)Lcom/example/tidingsd/tidingsd/model/Notice$State;" } : Jvm.MethodName) method_2_code (1 : Nat) (Option.some (Jvm.ClassFile.FieldType.object "com/example/tidingsd/tidingsd/model/Notice$State"))).before args0 about1 = true := code_word (m := ⟨1, 1⟩) (meth := k1m1) (c := k1c1) (by decide +kernel) rfl rfl rfl (by decide +kernel)
set_option maxRecDepth 65536 in
theorem w_c2 : (Jvm.Cond.code ({ cls := "com/example/tidingsd/tidingsd/model/Notice$State", name := "isSettled", desc := "()Z" } : Jvm.MethodName) prog_74_method_4_code (1 : Nat) (Option.some Jvm.ClassFile.FieldType.boolean)).before args0 about1 = true := code_word (m := ⟨6, 0⟩) (meth := k6m0) (c := k6c0) (by decide +kernel) rfl rfl rfl (by decide +kernel)
set_option maxRecDepth 65536 in
theorem w_c3 : (Jvm.Cond.code ({ cls := "com/example/tidingsd/tidingsd/model/StateIsSettledPinLaw", name := "op", desc := "(I)Lcom/example/tidingsd/tidingsd/model/Operation;" } : Jvm.MethodName) method_3_code (1 : Nat) (Option.some (Jvm.ClassFile.FieldType.object "com/example/tidingsd/tidingsd/model/Operation"))).before args0 about1 = true := code_word (m := ⟨1, 2⟩) (meth := k1m2) (c := k1c2) (by decide +kernel) rfl rfl rfl (by decide +kernel)
set_option maxRecDepth 65536 in
theorem w_c4 : (Jvm.Cond.code ({ cls := "com/example/tidingsd/tidingsd/model/Notice$State", name := "settled", desc := "(Lcom/example/tidingsd/tidingsd/model/Operation;I)Lcom/example/tidingsd/tidingsd/model/Notice$State;" } : Jvm.MethodName) prog_74_method_5_code (4 : Nat) (Option.some (Jvm.ClassFile.FieldType.object "com/example/tidingsd/tidingsd/model/Notice$State"))).before args0 about1 = true := code_word (m := ⟨6, 1⟩) (meth := k6m1) (c := k6c1) (by decide +kernel) rfl rfl rfl (by decide +kernel)
set_option maxRecDepth 65536 in
theorem w_c5 : (Jvm.Cond.code ({ cls := "com/example/tidingsd/tidingsd/model/Outcome", name := "errorClass", desc := "()I" } : Jvm.MethodName) prog_77_method_5_code (1 : Nat) (Option.some Jvm.ClassFile.FieldType.int)).before args0 about1 = true := code_word (m := ⟨10, 0⟩) (meth := k10m0) (c := k10c0) (by decide +kernel) rfl rfl rfl (by decide +kernel)
def codes1 : List Jvm.Cond := [Jvm.Cond.code x code maxLocals ret, Jvm.Cond.code ({ cls := "com/example/tidingsd/tidingsd/model/StateIsSettledPinLaw", name := "state", desc := "(I)Lcom/example/tidingsd/tidingsd/model/Notice$State;" } : Jvm.MethodName) method_2_code (1 : Nat) (Option.some (Jvm.ClassFile.FieldType.object "com/example/tidingsd/tidingsd/model/Notice$State")), Jvm.Cond.code ({ cls := "com/example/tidingsd/tidingsd/model/Notice$State", name := "isSettled", desc := "()Z" } : Jvm.MethodName) prog_74_method_4_code (1 : Nat) (Option.some Jvm.ClassFile.FieldType.boolean), Jvm.Cond.code ({ cls := "com/example/tidingsd/tidingsd/model/StateIsSettledPinLaw", name := "op", desc := "(I)Lcom/example/tidingsd/tidingsd/model/Operation;" } : Jvm.MethodName) method_3_code (1 : Nat) (Option.some (Jvm.ClassFile.FieldType.object "com/example/tidingsd/tidingsd/model/Operation")), Jvm.Cond.code ({ cls := "com/example/tidingsd/tidingsd/model/Notice$State", name := "settled", desc := "(Lcom/example/tidingsd/tidingsd/model/Operation;I)Lcom/example/tidingsd/tidingsd/model/Notice$State;" } : Jvm.MethodName) prog_74_method_5_code (4 : Nat) (Option.some (Jvm.ClassFile.FieldType.object "com/example/tidingsd/tidingsd/model/Notice$State")), Jvm.Cond.code ({ cls := "com/example/tidingsd/tidingsd/model/Outcome", name := "errorClass", desc := "()I" } : Jvm.MethodName) prog_77_method_5_code (1 : Nat) (Option.some Jvm.ClassFile.FieldType.int)]
set_option maxRecDepth 65536 in
theorem codes_eq : words1.filter isCode = codes1 := rfl
theorem w_codes : ∀ c ∈ words1.filter isCode, c.before args0 about1 = true := by
  rw [codes_eq]
  intro c hc
  simp only [codes1, List.mem_cons, List.not_mem_nil, or_false] at hc
  rcases hc with rfl | rfl | rfl | rfl | rfl | rfl
  · exact w_c0
  · exact w_c1
  · exact w_c2
  · exact w_c3
  · exact w_c4
  · exact w_c5
set_option maxRecDepth 65536 in
theorem w_t1 : (words1.take 24).all (fun c => isCode c || c.before args0 about1) = true := by decide +kernel
set_option maxRecDepth 65536 in
theorem w_t2 : ((words1.drop 24).take 24).all (fun c => isCode c || c.before args0 about1) = true := by decide +kernel
set_option maxRecDepth 65536 in
theorem w_t3 : (((words1.drop 24).drop 24).take 24).all (fun c => isCode c || c.before args0 about1) = true := by decide +kernel
set_option maxRecDepth 65536 in
theorem w_t4 : (((words1.drop 24).drop 24).drop 24).all (fun c => isCode c || c.before args0 about1) = true := by decide +kernel
theorem w_tables : (allAtoms (Jvm.Cond.code x code maxLocals ret :: tables_1)).before args0 about1 = true := by
  rw [allAtoms_all]
  show words1.all (fun c => c.before args0 about1) = true
  refine all_split ?_ w_codes
  rw [← List.take_append_drop 24 words1, List.all_append, w_t1, ← List.take_append_drop 24 (words1.drop 24), List.all_append, w_t2, ← List.take_append_drop 24 ((words1.drop 24).drop 24), List.all_append, w_t3, w_t4]
  rfl
set_option maxRecDepth 65536 in
theorem w_case : (Jvm.Cond.and given_1 narrow_1).before args0 about1 = true := by decide +kernel
theorem w_applies : (headSpec (Jvm.Cond.code x code maxLocals ret :: tables_1) room_1).applies x e0.platform about1 = true :=
  (Spec.applies_iff w_frames).mpr ⟨w_running, w_runnable, w_alone, w_named, w_hears, w_ripe, w_room, w_tables⟩
theorem atStart : AtStart classFile x code maxLocals ret World_1 tables_1 room_1 Calls_1 rest_1 Pre_1 launch0 p0 e0 about1 theMethod args0 below0 :=
  ⟨lists_1, trivial, launch0.admits_env _ _ _, launch0.least_env, fairChoices_fair.cas, fairChoices_fair.clock, w_frames, w_args, w_heap, w_applies, trivial, trivial, w_case⟩
end start1
theorem witness_1 : WitnessClaimed_1 := ⟨start1.p0, start1.e0, start1.about1, start1.theMethod, start1.args0, start1.below0, start1.atStart⟩
end Jvm.Pilot.@@N@@
