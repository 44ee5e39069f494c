import JvmDerived
import JvmDerived.Pilot.@@N@@Statement
import JvmDerived.Pilot.@@N@@Code
set_option linter.unusedVariables false
set_option linter.unusedSimpArgs false
@@BLOCK:NumsL.lean.txt@@
namespace Jvm.OwnW
open Sem ClassFile Op Lib Jvm.Stand Jvm.Free Jvm.LawKit Jvm.RoadKit
section Own
variable {p : Program} {l : Launch} {e : Env} {R : Room} {s : State} {m : MethodId} {args : Array Value} {below : List Frame} {meth : Method} {c : Code} {T : State} {locs : List Loc} {cells slots : Nat} {K N : Nat} {Q : Option Value → Heap → List Loc → Prop}
/-- from U the run comes to the method's end, and what it leaves there is Q -/
def OwnEnds (tb : Tables) (e : Env) (below : List Frame) (s : State) (K N : Nat) (Q : Option Value → Heap → List Loc → Prop) (U : State) : Prop :=
  ∃ s₂ o, Steps tb e below U s₂ ∧ s₂.status = .running ∧ Ended s₂ below o ∧ ∃ v L, o = .returned v ∧ Q v s₂.heap L ∧ FrameEnd s o s₂ L K N
theorem ogo {tb : Tables} {U U' : State} (st : ∀ t, Steps tb e below U' t → Steps tb e below U t) (h : OwnEnds tb e below s K N Q U') : OwnEnds tb e below s K N Q U := by
  obtain ⟨s₂, o, h1, h2⟩ := h
  exact ⟨s₂, o, st _ h1, h2⟩
theorem endR (X : Stand p l e R s m args below meth c T locs cells slots) (hx : p.tables.exec = Jvm.exec) (hlk : meth.locks = false) {pc : Nat} {Ls : Array Slot} {w : Value} {t : FieldType} {i : Instr} {rest : List Value} (hret : meth.sig.returnType = some t) (hn : narrow t w = w)
    (hi : (i = .ireturn ∧ (t = .int ∨ t = .boolean ∨ t = .byte ∨ t = .char ∨ t = .short) ∧ ∃ z, w = .int z) ∨ (i = .lreturn ∧ t = .long ∧ ∃ z, w = .long z) ∨ (i = .dreturn ∧ t = .double ∧ ∃ z, w = .double z) ∨ (i = .freturn ∧ t = .float ∧ ∃ z, w = .float z) ∨ (i = .areturn ∧ t.isReference = true ∧ w.isRef = true))
    (hd : decode c.code pc = .ok (i, 1)) (hK : cells ≤ K) (hN : slots ≤ N) (hQ : Q (some w) T.heap locs) : OwnEnds p.tables e below s K N Q (T.setTop (mkF m pc Ls (w :: rest))) := by
  obtain ⟨fs, hr, hrun, hended, hW, hsame⟩ := X.leave (v := some w) (fun h => by rw [hret] at h; cases h) hlk
  exact ⟨_, _, retOut X hx hret hn hi hd hr, hrun, hended, _, _, rfl, hQ, ⟨_, rfl⟩, hW, hsame.mono hK hN⟩
theorem endI (X : Stand p l e R s m args below meth c T locs cells slots) (hx : p.tables.exec = Jvm.exec) (hlk : meth.locks = false) {pc : Nat} {Ls : Array Slot} {z : Int32} {rest : List Value} (hret : meth.sig.returnType = some .int)
    (hd : decode c.code pc = .ok (.ireturn, 1)) (hK : cells ≤ K) (hN : slots ≤ N) (hQ : Q (some (.int z)) T.heap locs) : OwnEnds p.tables e below s K N Q (T.setTop (mkF m pc Ls (.int z :: rest))) :=
  endR X hx hlk hret rfl (Or.inl ⟨rfl, Or.inl rfl, z, rfl⟩) hd hK hN hQ
theorem endZ (X : Stand p l e R s m args below meth c T locs cells slots) (hx : p.tables.exec = Jvm.exec) (hlk : meth.locks = false) {pc : Nat} {Ls : Array Slot} {z : Int32} {rest : List Value} (hret : meth.sig.returnType = some .boolean) (hn : narrow .boolean (.int z) = .int z)
    (hd : decode c.code pc = .ok (.ireturn, 1)) (hK : cells ≤ K) (hN : slots ≤ N) (hQ : Q (some (.int z)) T.heap locs) : OwnEnds p.tables e below s K N Q (T.setTop (mkF m pc Ls (.int z :: rest))) :=
  endR X hx hlk hret hn (Or.inl ⟨rfl, Or.inr (Or.inl rfl), z, rfl⟩) hd hK hN hQ
theorem endJ (X : Stand p l e R s m args below meth c T locs cells slots) (hx : p.tables.exec = Jvm.exec) (hlk : meth.locks = false) {pc : Nat} {Ls : Array Slot} {z : Int64} {rest : List Value} (hret : meth.sig.returnType = some .long)
    (hd : decode c.code pc = .ok (.lreturn, 1)) (hK : cells ≤ K) (hN : slots ≤ N) (hQ : Q (some (.long z)) T.heap locs) : OwnEnds p.tables e below s K N Q (T.setTop (mkF m pc Ls (.long z :: rest))) :=
  endR X hx hlk hret rfl (Or.inr (Or.inl ⟨rfl, rfl, z, rfl⟩)) hd hK hN hQ
theorem endA (X : Stand p l e R s m args below meth c T locs cells slots) (hx : p.tables.exec = Jvm.exec) (hlk : meth.locks = false) {pc : Nat} {Ls : Array Slot} {w : Value} {t : FieldType} {rest : List Value} (hret : meth.sig.returnType = some t) (ht : t.isReference = true) (hw : w.isRef = true)
    (hd : decode c.code pc = .ok (.areturn, 1)) (hK : cells ≤ K) (hN : slots ≤ N) (hQ : Q (some w) T.heap locs) : OwnEnds p.tables e below s K N Q (T.setTop (mkF m pc Ls (w :: rest))) :=
  endR X hx hlk hret (by rcases ref_cases hw with rfl | ⟨a, rfl⟩ <;> cases t <;> simp_all [narrow, FieldType.isReference]) (Or.inr (Or.inr (Or.inr (Or.inr ⟨rfl, ht, hw⟩)))) hd hK hN hQ
theorem endV (X : Stand p l e R s m args below meth c T locs cells slots) (hx : p.tables.exec = Jvm.exec) (hlk : meth.locks = false) {pc : Nat} {Ls : Array Slot} (hret : meth.sig.returnType = none)
    (hd : decode c.code pc = .ok (.return_, 1)) (hK : cells ≤ K) (hN : slots ≤ N) (hQ : Q none T.heap locs) : OwnEnds p.tables e below s K N Q (T.setTop (mkF m pc Ls [])) := by
  obtain ⟨fs, hr, hrun, hended, hW, hsame⟩ := X.leave (v := none) (fun _ => rfl) hlk
  exact ⟨_, _, X.returnOut hx hret hd hr, hrun, hended, _, _, rfl, hQ, ⟨_, rfl⟩, hW, hsame.mono hK hN⟩
end Own
end Jvm.OwnW
namespace Jvm.Pilot.@@N@@
open Jvm Jvm.ClassFile Sem Op Lib Jvm.Free Jvm.Stand Jvm.LawKit Jvm.RoadKit Jvm.OwnW Bundle Jvm.Pilot.@@N@@.Jvm.D
theorem own_fld {args : Array Value} {s : State} {t : Term} {C n d : String} {k : Int32} {a : Addr} (h : (Cond.eq (.field t C n d) (.int k)).value args s none s [] = some true) (ev : t.eval args s none [] s = some (.ref a)) : Fld s s.heap a C n d (.int k) := by
  obtain ⟨x, y, e1, e2, -, -⟩ := cmp_v (Or.inl h)
  have e3 : y = .int k := (Option.some.inj (e2.symm.trans (Term.int_eval k)))
  subst e3
  have e4 : s.fieldOf? a C n d = some x := by simpa [Term.eval, ev] using e1
  cases x <;> simp [Cond.value, e1, e2] at h
  subst h
  exact Fld.start e4
theorem own_rng (x n : Int32) (hn : 0 < n.toInt) : 0 ≤ ((x &&& 2147483647) % n).toInt ∧ ((x &&& 2147483647) % n).toInt < n.toInt := by
  have e1 : (x &&& 2147483647).toInt = x.toInt % 2 ^ 31 := Jvm.Kit.i32_mask x 2147483647 (k := 31) (by decide) (by decide)
  have e2 := Jvm.Kit.i32_rem_nonneg (x := x &&& 2147483647) (y := n) (by omega)
  rw [e2]
  exact ⟨Int.emod_nonneg _ (by omega), Int.emod_lt_of_pos _ hn⟩
theorem own_case9 {k : Int32} (h : 0 ≤ k.toInt ∧ k.toInt < 9) : k = 0 ∨ k = 1 ∨ k = 2 ∨ k = 3 ∨ k = 4 ∨ k = 5 ∨ k = 6 ∨ k = 7 ∨ k = 8 := by
  rcases (by omega : k.toInt = 0 ∨ k.toInt = 1 ∨ k.toInt = 2 ∨ k.toInt = 3 ∨ k.toInt = 4 ∨ k.toInt = 5 ∨ k.toInt = 6 ∨ k.toInt = 7 ∨ k.toInt = 8) with q | q | q | q | q | q | q | q | q
  · exact Or.inl (Int32.toInt_inj.mp (q.trans (by decide)))
  · exact Or.inr (Or.inl (Int32.toInt_inj.mp (q.trans (by decide))))
  · exact Or.inr (Or.inr (Or.inl (Int32.toInt_inj.mp (q.trans (by decide)))))
  · exact Or.inr (Or.inr (Or.inr (Or.inl (Int32.toInt_inj.mp (q.trans (by decide))))))
  · exact Or.inr (Or.inr (Or.inr (Or.inr (Or.inl (Int32.toInt_inj.mp (q.trans (by decide)))))))
  · exact Or.inr (Or.inr (Or.inr (Or.inr (Or.inr (Or.inl (Int32.toInt_inj.mp (q.trans (by decide))))))))
  · exact Or.inr (Or.inr (Or.inr (Or.inr (Or.inr (Or.inr (Or.inl (Int32.toInt_inj.mp (q.trans (by decide)))))))))
  · exact Or.inr (Or.inr (Or.inr (Or.inr (Or.inr (Or.inr (Or.inr (Or.inl (Int32.toInt_inj.mp (q.trans (by decide))))))))))
  · exact Or.inr (Or.inr (Or.inr (Or.inr (Or.inr (Or.inr (Or.inr (Or.inr ((Int32.toInt_inj.mp (q.trans (by decide)))))))))))

def own_pick (k : Int32) (w_INPUT_DATA w_OUTPUT_DATA w_CONFIGURATION w_EXPONENT w_MODULUS w_COUNTER w_CLOCK_OFFSET w_ROM_DATA w_RANDOM_FILL : Addr) : Addr := if k = 0 then w_INPUT_DATA else if k = 1 then w_OUTPUT_DATA else if k = 2 then w_CONFIGURATION else if k = 3 then w_EXPONENT else if k = 4 then w_MODULUS else if k = 5 then w_COUNTER else if k = 6 then w_CLOCK_OFFSET else if k = 7 then w_ROM_DATA else w_RANDOM_FILL
theorem d1_0 : decode method_2_code 0 = .ok (.iload_n 0, 1) := by decide +kernel
theorem d1_1 : decode method_2_code 1 = .ok (.ifCond .ne 7, 3) := by decide +kernel
theorem d1_4 : decode method_2_code 4 = .ok (.getstatic 7, 3) := by decide +kernel
theorem d1_7 : decode method_2_code 7 = .ok (.areturn, 1) := by decide +kernel
theorem d1_8 : decode method_2_code 8 = .ok (.iload_n 0, 1) := by decide +kernel
theorem d1_9 : decode method_2_code 9 = .ok (.iconst 1, 1) := by decide +kernel
theorem d1_10 : decode method_2_code 10 = .ok (.if_icmp .ne 7, 3) := by decide +kernel
theorem d1_13 : decode method_2_code 13 = .ok (.getstatic 13, 3) := by decide +kernel
theorem d1_16 : decode method_2_code 16 = .ok (.areturn, 1) := by decide +kernel
theorem d1_17 : decode method_2_code 17 = .ok (.iload_n 0, 1) := by decide +kernel
theorem d1_18 : decode method_2_code 18 = .ok (.iconst 2, 1) := by decide +kernel
theorem d1_19 : decode method_2_code 19 = .ok (.if_icmp .ne 7, 3) := by decide +kernel
theorem d1_22 : decode method_2_code 22 = .ok (.getstatic 16, 3) := by decide +kernel
theorem d1_25 : decode method_2_code 25 = .ok (.areturn, 1) := by decide +kernel
theorem d1_26 : decode method_2_code 26 = .ok (.iload_n 0, 1) := by decide +kernel
theorem d1_27 : decode method_2_code 27 = .ok (.iconst 3, 1) := by decide +kernel
theorem d1_28 : decode method_2_code 28 = .ok (.if_icmp .ne 7, 3) := by decide +kernel
theorem d1_31 : decode method_2_code 31 = .ok (.getstatic 19, 3) := by decide +kernel
theorem d1_34 : decode method_2_code 34 = .ok (.areturn, 1) := by decide +kernel
theorem d1_35 : decode method_2_code 35 = .ok (.iload_n 0, 1) := by decide +kernel
theorem d1_36 : decode method_2_code 36 = .ok (.iconst 4, 1) := by decide +kernel
theorem d1_37 : decode method_2_code 37 = .ok (.if_icmp .ne 7, 3) := by decide +kernel
theorem d1_40 : decode method_2_code 40 = .ok (.getstatic 22, 3) := by decide +kernel
theorem d1_43 : decode method_2_code 43 = .ok (.areturn, 1) := by decide +kernel
theorem d1_44 : decode method_2_code 44 = .ok (.iload_n 0, 1) := by decide +kernel
theorem d1_45 : decode method_2_code 45 = .ok (.iconst 5, 1) := by decide +kernel
theorem d1_46 : decode method_2_code 46 = .ok (.if_icmp .ne 7, 3) := by decide +kernel
theorem d1_49 : decode method_2_code 49 = .ok (.getstatic 25, 3) := by decide +kernel
theorem d1_52 : decode method_2_code 52 = .ok (.areturn, 1) := by decide +kernel
theorem d1_53 : decode method_2_code 53 = .ok (.iload_n 0, 1) := by decide +kernel
theorem d1_54 : decode method_2_code 54 = .ok (.bipush 6, 2) := by decide +kernel
theorem d1_56 : decode method_2_code 56 = .ok (.if_icmp .ne 7, 3) := by decide +kernel
theorem d1_59 : decode method_2_code 59 = .ok (.getstatic 28, 3) := by decide +kernel
theorem d1_62 : decode method_2_code 62 = .ok (.areturn, 1) := by decide +kernel
theorem d1_63 : decode method_2_code 63 = .ok (.iload_n 0, 1) := by decide +kernel
theorem d1_64 : decode method_2_code 64 = .ok (.bipush 7, 2) := by decide +kernel
theorem d1_66 : decode method_2_code 66 = .ok (.if_icmp .ne 7, 3) := by decide +kernel
theorem d1_69 : decode method_2_code 69 = .ok (.getstatic 31, 3) := by decide +kernel
theorem d1_72 : decode method_2_code 72 = .ok (.areturn, 1) := by decide +kernel
theorem d1_73 : decode method_2_code 73 = .ok (.getstatic 34, 3) := by decide +kernel
theorem d1_76 : decode method_2_code 76 = .ok (.areturn, 1) := by decide +kernel
theorem pn_ObjectTypeStoresValuePinLaw : plainName "com/example/opaque_token/opaquetoken/token/ObjectTypeStoresValuePinLaw" = true := by first | (simp [plainName, overriddenIn]; done) | decide +kernel
theorem ef_1 (m : MethodId) (x0 : Int32) : entryFrame m #[(.int x0)] 1 = mkF m 0 #[.val (.int x0)] [] := by first | (simp [entryFrame, mkF, argsToLocals, Value.category]; done) | rfl
def Q1 (Z : State) (kk : Int32) (w_INPUT_DATA w_OUTPUT_DATA w_CONFIGURATION w_EXPONENT w_MODULUS w_COUNTER w_CLOCK_OFFSET w_ROM_DATA w_RANDOM_FILL : Addr) (h0 : Heap) (n0 : Nat) (v : Option Value) (h : Heap) (L : List Loc) : Prop := v = some (.ref (own_pick kk w_INPUT_DATA w_OUTPUT_DATA w_CONFIGURATION w_EXPONENT w_MODULUS w_COUNTER w_CLOCK_OFFSET w_ROM_DATA w_RANDOM_FILL)) ∧ Fr n0 L ∧ h = h0
set_option maxRecDepth 65536 in
set_option maxHeartbeats 40000000 in
theorem rm1 (l : Launch) (Z : State) (a0 : Array Value) (hw : ∀ d ∈ tables_1, d.before a0 Z = true) (ws : List Jvm.Cond) (kk : Int32) (w_INPUT_DATA w_OUTPUT_DATA w_CONFIGURATION w_EXPONENT w_MODULUS w_COUNTER w_CLOCK_OFFSET w_ROM_DATA w_RANDOM_FILL : Addr) (h0 : Heap) (n0 : Nat) (Z0 : n0 ≤ h0.size) (S_INPUT_DATA : Sta Z h0 "com/example/opaque_token/opaquetoken/token/ObjectType" "INPUT_DATA" "Lcom/example/opaque_token/opaquetoken/token/ObjectType;" (.ref w_INPUT_DATA)) (S_OUTPUT_DATA : Sta Z h0 "com/example/opaque_token/opaquetoken/token/ObjectType" "OUTPUT_DATA" "Lcom/example/opaque_token/opaquetoken/token/ObjectType;" (.ref w_OUTPUT_DATA)) (S_CONFIGURATION : Sta Z h0 "com/example/opaque_token/opaquetoken/token/ObjectType" "CONFIGURATION" "Lcom/example/opaque_token/opaquetoken/token/ObjectType;" (.ref w_CONFIGURATION)) (S_EXPONENT : Sta Z h0 "com/example/opaque_token/opaquetoken/token/ObjectType" "EXPONENT" "Lcom/example/opaque_token/opaquetoken/token/ObjectType;" (.ref w_EXPONENT)) (S_MODULUS : Sta Z h0 "com/example/opaque_token/opaquetoken/token/ObjectType" "MODULUS" "Lcom/example/opaque_token/opaquetoken/token/ObjectType;" (.ref w_MODULUS)) (S_COUNTER : Sta Z h0 "com/example/opaque_token/opaquetoken/token/ObjectType" "COUNTER" "Lcom/example/opaque_token/opaquetoken/token/ObjectType;" (.ref w_COUNTER)) (S_CLOCK_OFFSET : Sta Z h0 "com/example/opaque_token/opaquetoken/token/ObjectType" "CLOCK_OFFSET" "Lcom/example/opaque_token/opaquetoken/token/ObjectType;" (.ref w_CLOCK_OFFSET)) (S_ROM_DATA : Sta Z h0 "com/example/opaque_token/opaquetoken/token/ObjectType" "ROM_DATA" "Lcom/example/opaque_token/opaquetoken/token/ObjectType;" (.ref w_ROM_DATA)) (S_RANDOM_FILL : Sta Z h0 "com/example/opaque_token/opaquetoken/token/ObjectType" "RANDOM_FILL" "Lcom/example/opaque_token/opaquetoken/token/ObjectType;" (.ref w_RANDOM_FILL)) :
    MetFree l (⟨"com/example/opaque_token/opaquetoken/token/ObjectTypeStoresValuePinLaw", "pick", "(I)Lcom/example/opaque_token/opaquetoken/token/ObjectType;"⟩ : MethodName) (head1 (Jvm.Cond.code (⟨"com/example/opaque_token/opaquetoken/token/ObjectTypeStoresValuePinLaw", "pick", "(I)Lcom/example/opaque_token/opaquetoken/token/ObjectType;"⟩ : MethodName) method_2_code 1 (some (.object "com/example/opaque_token/opaquetoken/token/ObjectType")) :: ws) ({ frames := 0, cells := 0, slots := 0, locals := 0 } : Room)) (fun a U => a = #[(.int kk)] ∧ Z.Warmed39 U.vm ∧ U.heap = h0) (fun _ _ _ _ _ => True) (fun _ U o U' => ∃ v L, o = .returned v ∧ Q1 Z kk w_INPUT_DATA w_OUTPUT_DATA w_CONFIGURATION w_EXPONENT w_MODULUS w_COUNTER w_CLOCK_OFFSET w_ROM_DATA w_RANDOM_FILL h0 n0 v U'.heap L ∧ FrameEnd U o U' L ({ frames := 0, cells := 0, slots := 0, locals := 0 } : Room).cells ({ frames := 0, cells := 0, slots := 0, locals := 0 } : Room).slots) := by
  refine MetFree.of_bodySF (plainFor_of_name pn_ObjectTypeStoresValuePinLaw) hisR ?_
  intro p e s m args below meth c s₁ Bd hml0 hP hK
  obtain ⟨rfl, hZ, hh⟩ := hP
  have hx := Bd.exec
  have hby := Bd.bytes
  have hml : c.maxLocals = 1 := hml0
  have hown : s.vm.findClass "com/example/opaque_token/opaquetoken/token/ObjectTypeStoresValuePinLaw" = some m.cls := findClass_of_methodNamed Bd.named
  have hnm := (name_of_methodNamed Bd.named Bd.method).1
  have hlk : meth.locks = false := BodyLoose.notSynchronized Bd
  have X0 : Stand p l e ({ frames := 0, cells := 0, slots := 0, locals := 0 } : Room) s m #[(.int kk)] below meth c s₁ [] 0 0 := Stand.of_body Bd
  have e0 : s₁.heap = h0 := by rw [← hh, Bd.state]; rfl
  have N0 := Fr.nil n0
  refine ogo (U' := s₁.setTop (mkF m 0 #[.val (.int kk)] [])) (Q := Q1 Z kk w_INPUT_DATA w_OUTPUT_DATA w_CONFIGURATION w_EXPONENT w_MODULUS w_COUNTER w_CLOCK_OFFSET w_ROM_DATA w_RANDOM_FILL h0 n0) (K := ({ frames := 0, cells := 0, slots := 0, locals := 0 } : Room).cells) (N := ({ frames := 0, cells := 0, slots := 0, locals := 0 } : Room).slots) (fun t k => castTop (ef_1 m kk) k) ?_
  show OwnEnds _ _ _ _ _ _ _ (s₁.setTop (mkF m 0 #[.val (.int kk)] []))
  refine ogo (fun t k => XS.iloadN X0.here hx rfl (hb hby d1_0) rfl k) ?_
  show OwnEnds _ _ _ _ _ _ _ (s₁.setTop (mkF m 1 #[.val (.int kk)] [(.int kk)]))
  by_cases hc1 : kk = (0 : Int32)
  · refine ogo (fun t k => XS.ifNo X0.here hx rfl (hb hby d1_1) rfl ((if0 _ _).trans (teq hc1).2) k) ?_
    show OwnEnds _ _ _ _ _ _ _ (s₁.setTop (mkF m 4 #[.val (.int kk)] []))
    obtain ⟨T2, X2, e2, st2⟩ := getS2 X0 hx hZ hown (host := "") (Or.inl (hw _ (List.mem_of_getElem? (i := 5) rfl))) Via.refl e0 S_INPUT_DATA (g := (mkF m 4 #[.val (.int kk)] [])) rfl (hb hby d1_4)
    refine ogo st2 ?_
    show OwnEnds _ _ _ _ _ _ _ (T2.setTop (mkF m 7 #[.val (.int kk)] [(.ref w_INPUT_DATA)]))
    refine endA X2 hx hlk Bd.returns rfl rfl (hb hby d1_7) (by decide) (by decide) ?_
    show Q1 Z kk w_INPUT_DATA w_OUTPUT_DATA w_CONFIGURATION w_EXPONENT w_MODULUS w_COUNTER w_CLOCK_OFFSET w_ROM_DATA w_RANDOM_FILL h0 n0 _ T2.heap _
    rw [e2]
    exact ⟨by simp [own_pick, hc1], N0, rfl⟩
  · refine ogo (fun t k => XS.ifYes X0.here hx rfl (pc0 := 1) (pc' := 8) rfl (hb hby d1_1) rfl ((if0 _ _).trans (feq hc1).2) (by decide) (by decide) k) ?_
    show OwnEnds _ _ _ _ _ _ _ (s₁.setTop (mkF m 8 #[.val (.int kk)] []))
    refine ogo (fun t k => XS.iloadN X0.here hx rfl (hb hby d1_8) rfl k) ?_
    show OwnEnds _ _ _ _ _ _ _ (s₁.setTop (mkF m 9 #[.val (.int kk)] [(.int kk)]))
    refine ogo (fun t k => XS.iconst X0.here hx rfl (hb hby d1_9) k) ?_
    show OwnEnds _ _ _ _ _ _ _ (s₁.setTop (mkF m 10 #[.val (.int kk)] [(.int (1 : Int32)), (.int kk)]))
    by_cases hc3 : kk = (1 : Int32)
    · refine ogo (fun t k => XS.icmpNo X0.here hx rfl (hb hby d1_10) rfl (teq hc3).2 k) ?_
      show OwnEnds _ _ _ _ _ _ _ (s₁.setTop (mkF m 13 #[.val (.int kk)] []))
      obtain ⟨T4, X4, e4, st4⟩ := getS2 X0 hx hZ hown (host := "") (Or.inl (hw _ (List.mem_of_getElem? (i := 21) rfl))) Via.refl e0 S_OUTPUT_DATA (g := (mkF m 13 #[.val (.int kk)] [])) rfl (hb hby d1_13)
      refine ogo st4 ?_
      show OwnEnds _ _ _ _ _ _ _ (T4.setTop (mkF m 16 #[.val (.int kk)] [(.ref w_OUTPUT_DATA)]))
      refine endA X4 hx hlk Bd.returns rfl rfl (hb hby d1_16) (by decide) (by decide) ?_
      show Q1 Z kk w_INPUT_DATA w_OUTPUT_DATA w_CONFIGURATION w_EXPONENT w_MODULUS w_COUNTER w_CLOCK_OFFSET w_ROM_DATA w_RANDOM_FILL h0 n0 _ T4.heap _
      rw [e4]
      exact ⟨by simp [own_pick, hc1, hc3], N0, rfl⟩
    · refine ogo (fun t k => XS.icmpYes X0.here hx rfl (pc0 := 10) (pc' := 17) rfl (hb hby d1_10) rfl (feq hc3).2 (by decide) (by decide) k) ?_
      show OwnEnds _ _ _ _ _ _ _ (s₁.setTop (mkF m 17 #[.val (.int kk)] []))
      refine ogo (fun t k => XS.iloadN X0.here hx rfl (hb hby d1_17) rfl k) ?_
      show OwnEnds _ _ _ _ _ _ _ (s₁.setTop (mkF m 18 #[.val (.int kk)] [(.int kk)]))
      refine ogo (fun t k => XS.iconst X0.here hx rfl (hb hby d1_18) k) ?_
      show OwnEnds _ _ _ _ _ _ _ (s₁.setTop (mkF m 19 #[.val (.int kk)] [(.int (2 : Int32)), (.int kk)]))
      by_cases hc5 : kk = (2 : Int32)
      · refine ogo (fun t k => XS.icmpNo X0.here hx rfl (hb hby d1_19) rfl (teq hc5).2 k) ?_
        show OwnEnds _ _ _ _ _ _ _ (s₁.setTop (mkF m 22 #[.val (.int kk)] []))
        obtain ⟨T6, X6, e6, st6⟩ := getS2 X0 hx hZ hown (host := "") (Or.inl (hw _ (List.mem_of_getElem? (i := 19) rfl))) Via.refl e0 S_CONFIGURATION (g := (mkF m 22 #[.val (.int kk)] [])) rfl (hb hby d1_22)
        refine ogo st6 ?_
        show OwnEnds _ _ _ _ _ _ _ (T6.setTop (mkF m 25 #[.val (.int kk)] [(.ref w_CONFIGURATION)]))
        refine endA X6 hx hlk Bd.returns rfl rfl (hb hby d1_25) (by decide) (by decide) ?_
        show Q1 Z kk w_INPUT_DATA w_OUTPUT_DATA w_CONFIGURATION w_EXPONENT w_MODULUS w_COUNTER w_CLOCK_OFFSET w_ROM_DATA w_RANDOM_FILL h0 n0 _ T6.heap _
        rw [e6]
        exact ⟨by simp [own_pick, hc1, hc3, hc5], N0, rfl⟩
      · refine ogo (fun t k => XS.icmpYes X0.here hx rfl (pc0 := 19) (pc' := 26) rfl (hb hby d1_19) rfl (feq hc5).2 (by decide) (by decide) k) ?_
        show OwnEnds _ _ _ _ _ _ _ (s₁.setTop (mkF m 26 #[.val (.int kk)] []))
        refine ogo (fun t k => XS.iloadN X0.here hx rfl (hb hby d1_26) rfl k) ?_
        show OwnEnds _ _ _ _ _ _ _ (s₁.setTop (mkF m 27 #[.val (.int kk)] [(.int kk)]))
        refine ogo (fun t k => XS.iconst X0.here hx rfl (hb hby d1_27) k) ?_
        show OwnEnds _ _ _ _ _ _ _ (s₁.setTop (mkF m 28 #[.val (.int kk)] [(.int (3 : Int32)), (.int kk)]))
        by_cases hc7 : kk = (3 : Int32)
        · refine ogo (fun t k => XS.icmpNo X0.here hx rfl (hb hby d1_28) rfl (teq hc7).2 k) ?_
          show OwnEnds _ _ _ _ _ _ _ (s₁.setTop (mkF m 31 #[.val (.int kk)] []))
          obtain ⟨T8, X8, e8, st8⟩ := getS2 X0 hx hZ hown (host := "") (Or.inl (hw _ (List.mem_of_getElem? (i := 17) rfl))) Via.refl e0 S_EXPONENT (g := (mkF m 31 #[.val (.int kk)] [])) rfl (hb hby d1_31)
          refine ogo st8 ?_
          show OwnEnds _ _ _ _ _ _ _ (T8.setTop (mkF m 34 #[.val (.int kk)] [(.ref w_EXPONENT)]))
          refine endA X8 hx hlk Bd.returns rfl rfl (hb hby d1_34) (by decide) (by decide) ?_
          show Q1 Z kk w_INPUT_DATA w_OUTPUT_DATA w_CONFIGURATION w_EXPONENT w_MODULUS w_COUNTER w_CLOCK_OFFSET w_ROM_DATA w_RANDOM_FILL h0 n0 _ T8.heap _
          rw [e8]
          exact ⟨by simp [own_pick, hc1, hc3, hc5, hc7], N0, rfl⟩
        · refine ogo (fun t k => XS.icmpYes X0.here hx rfl (pc0 := 28) (pc' := 35) rfl (hb hby d1_28) rfl (feq hc7).2 (by decide) (by decide) k) ?_
          show OwnEnds _ _ _ _ _ _ _ (s₁.setTop (mkF m 35 #[.val (.int kk)] []))
          refine ogo (fun t k => XS.iloadN X0.here hx rfl (hb hby d1_35) rfl k) ?_
          show OwnEnds _ _ _ _ _ _ _ (s₁.setTop (mkF m 36 #[.val (.int kk)] [(.int kk)]))
          refine ogo (fun t k => XS.iconst X0.here hx rfl (hb hby d1_36) k) ?_
          show OwnEnds _ _ _ _ _ _ _ (s₁.setTop (mkF m 37 #[.val (.int kk)] [(.int (4 : Int32)), (.int kk)]))
          by_cases hc9 : kk = (4 : Int32)
          · refine ogo (fun t k => XS.icmpNo X0.here hx rfl (hb hby d1_37) rfl (teq hc9).2 k) ?_
            show OwnEnds _ _ _ _ _ _ _ (s₁.setTop (mkF m 40 #[.val (.int kk)] []))
            obtain ⟨T10, X10, e10, st10⟩ := getS2 X0 hx hZ hown (host := "") (Or.inl (hw _ (List.mem_of_getElem? (i := 24) rfl))) Via.refl e0 S_MODULUS (g := (mkF m 40 #[.val (.int kk)] [])) rfl (hb hby d1_40)
            refine ogo st10 ?_
            show OwnEnds _ _ _ _ _ _ _ (T10.setTop (mkF m 43 #[.val (.int kk)] [(.ref w_MODULUS)]))
            refine endA X10 hx hlk Bd.returns rfl rfl (hb hby d1_43) (by decide) (by decide) ?_
            show Q1 Z kk w_INPUT_DATA w_OUTPUT_DATA w_CONFIGURATION w_EXPONENT w_MODULUS w_COUNTER w_CLOCK_OFFSET w_ROM_DATA w_RANDOM_FILL h0 n0 _ T10.heap _
            rw [e10]
            exact ⟨by simp [own_pick, hc1, hc3, hc5, hc7, hc9], N0, rfl⟩
          · refine ogo (fun t k => XS.icmpYes X0.here hx rfl (pc0 := 37) (pc' := 44) rfl (hb hby d1_37) rfl (feq hc9).2 (by decide) (by decide) k) ?_
            show OwnEnds _ _ _ _ _ _ _ (s₁.setTop (mkF m 44 #[.val (.int kk)] []))
            refine ogo (fun t k => XS.iloadN X0.here hx rfl (hb hby d1_44) rfl k) ?_
            show OwnEnds _ _ _ _ _ _ _ (s₁.setTop (mkF m 45 #[.val (.int kk)] [(.int kk)]))
            refine ogo (fun t k => XS.iconst X0.here hx rfl (hb hby d1_45) k) ?_
            show OwnEnds _ _ _ _ _ _ _ (s₁.setTop (mkF m 46 #[.val (.int kk)] [(.int (5 : Int32)), (.int kk)]))
            by_cases hc11 : kk = (5 : Int32)
            · refine ogo (fun t k => XS.icmpNo X0.here hx rfl (hb hby d1_46) rfl (teq hc11).2 k) ?_
              show OwnEnds _ _ _ _ _ _ _ (s₁.setTop (mkF m 49 #[.val (.int kk)] []))
              obtain ⟨T12, X12, e12, st12⟩ := getS2 X0 hx hZ hown (host := "") (Or.inl (hw _ (List.mem_of_getElem? (i := 29) rfl))) Via.refl e0 S_COUNTER (g := (mkF m 49 #[.val (.int kk)] [])) rfl (hb hby d1_49)
              refine ogo st12 ?_
              show OwnEnds _ _ _ _ _ _ _ (T12.setTop (mkF m 52 #[.val (.int kk)] [(.ref w_COUNTER)]))
              refine endA X12 hx hlk Bd.returns rfl rfl (hb hby d1_52) (by decide) (by decide) ?_
              show Q1 Z kk w_INPUT_DATA w_OUTPUT_DATA w_CONFIGURATION w_EXPONENT w_MODULUS w_COUNTER w_CLOCK_OFFSET w_ROM_DATA w_RANDOM_FILL h0 n0 _ T12.heap _
              rw [e12]
              exact ⟨by simp [own_pick, hc1, hc3, hc5, hc7, hc9, hc11], N0, rfl⟩
            · refine ogo (fun t k => XS.icmpYes X0.here hx rfl (pc0 := 46) (pc' := 53) rfl (hb hby d1_46) rfl (feq hc11).2 (by decide) (by decide) k) ?_
              show OwnEnds _ _ _ _ _ _ _ (s₁.setTop (mkF m 53 #[.val (.int kk)] []))
              refine ogo (fun t k => XS.iloadN X0.here hx rfl (hb hby d1_53) rfl k) ?_
              show OwnEnds _ _ _ _ _ _ _ (s₁.setTop (mkF m 54 #[.val (.int kk)] [(.int kk)]))
              refine ogo (fun t k => XS.bipush X0.here hx rfl (hb hby d1_54) k) ?_
              show OwnEnds _ _ _ _ _ _ _ (s₁.setTop (mkF m 56 #[.val (.int kk)] [(.int (6 : Int32)), (.int kk)]))
              by_cases hc13 : kk = (6 : Int32)
              · refine ogo (fun t k => XS.icmpNo X0.here hx rfl (hb hby d1_56) rfl (teq hc13).2 k) ?_
                show OwnEnds _ _ _ _ _ _ _ (s₁.setTop (mkF m 59 #[.val (.int kk)] []))
                obtain ⟨T14, X14, e14, st14⟩ := getS2 X0 hx hZ hown (host := "") (Or.inl (hw _ (List.mem_of_getElem? (i := 27) rfl))) Via.refl e0 S_CLOCK_OFFSET (g := (mkF m 59 #[.val (.int kk)] [])) rfl (hb hby d1_59)
                refine ogo st14 ?_
                show OwnEnds _ _ _ _ _ _ _ (T14.setTop (mkF m 62 #[.val (.int kk)] [(.ref w_CLOCK_OFFSET)]))
                refine endA X14 hx hlk Bd.returns rfl rfl (hb hby d1_62) (by decide) (by decide) ?_
                show Q1 Z kk w_INPUT_DATA w_OUTPUT_DATA w_CONFIGURATION w_EXPONENT w_MODULUS w_COUNTER w_CLOCK_OFFSET w_ROM_DATA w_RANDOM_FILL h0 n0 _ T14.heap _
                rw [e14]
                exact ⟨by simp [own_pick, hc1, hc3, hc5, hc7, hc9, hc11, hc13], N0, rfl⟩
              · refine ogo (fun t k => XS.icmpYes X0.here hx rfl (pc0 := 56) (pc' := 63) rfl (hb hby d1_56) rfl (feq hc13).2 (by decide) (by decide) k) ?_
                show OwnEnds _ _ _ _ _ _ _ (s₁.setTop (mkF m 63 #[.val (.int kk)] []))
                refine ogo (fun t k => XS.iloadN X0.here hx rfl (hb hby d1_63) rfl k) ?_
                show OwnEnds _ _ _ _ _ _ _ (s₁.setTop (mkF m 64 #[.val (.int kk)] [(.int kk)]))
                refine ogo (fun t k => XS.bipush X0.here hx rfl (hb hby d1_64) k) ?_
                show OwnEnds _ _ _ _ _ _ _ (s₁.setTop (mkF m 66 #[.val (.int kk)] [(.int (7 : Int32)), (.int kk)]))
                by_cases hc15 : kk = (7 : Int32)
                · refine ogo (fun t k => XS.icmpNo X0.here hx rfl (hb hby d1_66) rfl (teq hc15).2 k) ?_
                  show OwnEnds _ _ _ _ _ _ _ (s₁.setTop (mkF m 69 #[.val (.int kk)] []))
                  obtain ⟨T16, X16, e16, st16⟩ := getS2 X0 hx hZ hown (host := "") (Or.inl (hw _ (List.mem_of_getElem? (i := 23) rfl))) Via.refl e0 S_ROM_DATA (g := (mkF m 69 #[.val (.int kk)] [])) rfl (hb hby d1_69)
                  refine ogo st16 ?_
                  show OwnEnds _ _ _ _ _ _ _ (T16.setTop (mkF m 72 #[.val (.int kk)] [(.ref w_ROM_DATA)]))
                  refine endA X16 hx hlk Bd.returns rfl rfl (hb hby d1_72) (by decide) (by decide) ?_
                  show Q1 Z kk w_INPUT_DATA w_OUTPUT_DATA w_CONFIGURATION w_EXPONENT w_MODULUS w_COUNTER w_CLOCK_OFFSET w_ROM_DATA w_RANDOM_FILL h0 n0 _ T16.heap _
                  rw [e16]
                  exact ⟨by simp [own_pick, hc1, hc3, hc5, hc7, hc9, hc11, hc13, hc15], N0, rfl⟩
                · refine ogo (fun t k => XS.icmpYes X0.here hx rfl (pc0 := 66) (pc' := 73) rfl (hb hby d1_66) rfl (feq hc15).2 (by decide) (by decide) k) ?_
                  show OwnEnds _ _ _ _ _ _ _ (s₁.setTop (mkF m 73 #[.val (.int kk)] []))
                  obtain ⟨T17, X17, e17, st17⟩ := getS2 X0 hx hZ hown (host := "") (Or.inl (hw _ (List.mem_of_getElem? (i := 26) rfl))) Via.refl e0 S_RANDOM_FILL (g := (mkF m 73 #[.val (.int kk)] [])) rfl (hb hby d1_73)
                  refine ogo st17 ?_
                  show OwnEnds _ _ _ _ _ _ _ (T17.setTop (mkF m 76 #[.val (.int kk)] [(.ref w_RANDOM_FILL)]))
                  refine endA X17 hx hlk Bd.returns rfl rfl (hb hby d1_76) (by decide) (by decide) ?_
                  show Q1 Z kk w_INPUT_DATA w_OUTPUT_DATA w_CONFIGURATION w_EXPONENT w_MODULUS w_COUNTER w_CLOCK_OFFSET w_ROM_DATA w_RANDOM_FILL h0 n0 _ T17.heap _
                  rw [e17]
                  exact ⟨by simp [own_pick, hc1, hc3, hc5, hc7, hc9, hc11, hc13, hc15], N0, rfl⟩
theorem d2_0 : decode prog_55_method_4_code 0 = .ok (.aload_n 0, 1) := by decide +kernel
theorem d2_1 : decode prog_55_method_4_code 1 = .ok (.getstatic 25, 3) := by decide +kernel
theorem d2_4 : decode prog_55_method_4_code 4 = .ok (.if_acmp .eq 14, 3) := by decide +kernel
theorem d2_7 : decode prog_55_method_4_code 7 = .ok (.aload_n 0, 1) := by decide +kernel
theorem d2_8 : decode prog_55_method_4_code 8 = .ok (.getstatic 28, 3) := by decide +kernel
theorem d2_11 : decode prog_55_method_4_code 11 = .ok (.if_acmp .eq 7, 3) := by decide +kernel
theorem d2_14 : decode prog_55_method_4_code 14 = .ok (.iconst 1, 1) := by decide +kernel
theorem d2_15 : decode prog_55_method_4_code 15 = .ok (.goto 4, 3) := by decide +kernel
theorem d2_18 : decode prog_55_method_4_code 18 = .ok (.iconst 0, 1) := by decide +kernel
theorem d2_19 : decode prog_55_method_4_code 19 = .ok (.ireturn, 1) := by decide +kernel
theorem pn_ObjectType : plainName "com/example/opaque_token/opaquetoken/token/ObjectType" = true := by first | (simp [plainName, overriddenIn]; done) | decide +kernel
theorem ef_2 (m : MethodId) (x0 : Addr) : entryFrame m #[(.ref x0)] 1 = mkF m 0 #[.val (.ref x0)] [] := by first | (simp [entryFrame, mkF, argsToLocals, Value.category]; done) | rfl
def Q2 (Z : State) (a1 w_ROM_DATA w_RANDOM_FILL : Addr) (h0 : Heap) (n0 : Nat) (v : Option Value) (h : Heap) (L : List Loc) : Prop := v = some (.int (if a1 = w_ROM_DATA then 0 else if a1 = w_RANDOM_FILL then 0 else 1)) ∧ Fr n0 L ∧ h = h0
set_option maxRecDepth 65536 in
set_option maxHeartbeats 40000000 in
theorem rm2 (l : Launch) (Z : State) (a0 : Array Value) (hw : ∀ d ∈ tables_1, d.before a0 Z = true) (ws : List Jvm.Cond) (a1 w_ROM_DATA w_RANDOM_FILL : Addr) (h0 : Heap) (n0 : Nat) (Z0 : n0 ≤ h0.size) (S_ROM_DATA : Sta Z h0 "com/example/opaque_token/opaquetoken/token/ObjectType" "ROM_DATA" "Lcom/example/opaque_token/opaquetoken/token/ObjectType;" (.ref w_ROM_DATA)) (S_RANDOM_FILL : Sta Z h0 "com/example/opaque_token/opaquetoken/token/ObjectType" "RANDOM_FILL" "Lcom/example/opaque_token/opaquetoken/token/ObjectType;" (.ref w_RANDOM_FILL)) :
    MetFree l (⟨"com/example/opaque_token/opaquetoken/token/ObjectType", "storesValue", "()Z"⟩ : MethodName) (head1 (Jvm.Cond.code (⟨"com/example/opaque_token/opaquetoken/token/ObjectType", "storesValue", "()Z"⟩ : MethodName) prog_55_method_4_code 1 (some .boolean) :: ws) ({ frames := 0, cells := 0, slots := 0, locals := 0 } : Room)) (fun a U => a = #[(.ref a1)] ∧ Z.Warmed39 U.vm ∧ U.heap = h0) (fun _ _ _ _ _ => True) (fun _ U o U' => ∃ v L, o = .returned v ∧ Q2 Z a1 w_ROM_DATA w_RANDOM_FILL h0 n0 v U'.heap L ∧ FrameEnd U o U' L ({ frames := 0, cells := 0, slots := 0, locals := 0 } : Room).cells ({ frames := 0, cells := 0, slots := 0, locals := 0 } : Room).slots) := by
  refine MetFree.of_bodySF (plainFor_of_name pn_ObjectType) hisR ?_
  intro p e s m args below meth c s₁ Bd hml0 hP hK
  obtain ⟨rfl, hZ, hh⟩ := hP
  have hx := Bd.exec
  have hby := Bd.bytes
  have hml : c.maxLocals = 1 := hml0
  have hown : s.vm.findClass "com/example/opaque_token/opaquetoken/token/ObjectType" = some m.cls := findClass_of_methodNamed Bd.named
  have hnm := (name_of_methodNamed Bd.named Bd.method).1
  have hlk : meth.locks = false := BodyLoose.notSynchronized Bd
  have X0 : Stand p l e ({ frames := 0, cells := 0, slots := 0, locals := 0 } : Room) s m #[(.ref a1)] below meth c s₁ [] 0 0 := Stand.of_body Bd
  have e0 : s₁.heap = h0 := by rw [← hh, Bd.state]; rfl
  have N0 := Fr.nil n0
  refine ogo (U' := s₁.setTop (mkF m 0 #[.val (.ref a1)] [])) (Q := Q2 Z a1 w_ROM_DATA w_RANDOM_FILL h0 n0) (K := ({ frames := 0, cells := 0, slots := 0, locals := 0 } : Room).cells) (N := ({ frames := 0, cells := 0, slots := 0, locals := 0 } : Room).slots) (fun t k => castTop (ef_2 m a1) k) ?_
  show OwnEnds _ _ _ _ _ _ _ (s₁.setTop (mkF m 0 #[.val (.ref a1)] []))
  refine ogo (fun t k => XS.aloadN X0.here hx rfl (hb hby d2_0) rfl rfl k) ?_
  show OwnEnds _ _ _ _ _ _ _ (s₁.setTop (mkF m 1 #[.val (.ref a1)] [(.ref a1)]))
  obtain ⟨T1, X1, e1, st1⟩ := getS2 X0 hx hZ hown (host := "") (Or.inl (hw _ (List.mem_of_getElem? (i := 13) rfl))) Via.refl e0 S_ROM_DATA (g := (mkF m 1 #[.val (.ref a1)] [(.ref a1)])) rfl (hb hby d2_1)
  refine ogo st1 ?_
  show OwnEnds _ _ _ _ _ _ _ (T1.setTop (mkF m 4 #[.val (.ref a1)] [(.ref w_ROM_DATA), (.ref a1)]))
  by_cases hc2 : a1 = w_ROM_DATA
  · refine ogo (fun t k => Jvm.RoadKit.acmp (g := (mkF m 4 #[.val (.ref a1)] [(.ref w_ROM_DATA), (.ref a1)])) X1 hx rfl rfl rfl (pc0 := 4) (pc' := 18) (same := true) rfl (hb hby d2_4) rfl (decide_eq_true (congrArg Value.ref hc2)) (by decide) (by decide) k) ?_
    show OwnEnds _ _ _ _ _ _ _ (T1.setTop (mkF m 18 #[.val (.ref a1)] []))
    refine ogo (fun t k => XS.iconst X1.here hx rfl (hb hby d2_18) k) ?_
    show OwnEnds _ _ _ _ _ _ _ (T1.setTop (mkF m 19 #[.val (.ref a1)] [(.int (0 : Int32))]))
    refine endZ X1 hx hlk Bd.returns rfl (hb hby d2_19) (by decide) (by decide) ?_
    show Q2 Z a1 w_ROM_DATA w_RANDOM_FILL h0 n0 _ T1.heap _
    rw [e1]
    exact ⟨by simp [hc2], N0, rfl⟩
  · refine ogo (fun t k => Jvm.RoadKit.acmp (g := (mkF m 4 #[.val (.ref a1)] [(.ref w_ROM_DATA), (.ref a1)])) X1 hx rfl rfl rfl (pc0 := 4) (pc' := 7) (same := false) rfl (hb hby d2_4) rfl (decide_eq_false fun q => hc2 (Value.ref.inj q)) (by decide) (by decide) k) ?_
    show OwnEnds _ _ _ _ _ _ _ (T1.setTop (mkF m 7 #[.val (.ref a1)] []))
    refine ogo (fun t k => XS.aloadN X1.here hx rfl (hb hby d2_7) rfl rfl k) ?_
    show OwnEnds _ _ _ _ _ _ _ (T1.setTop (mkF m 8 #[.val (.ref a1)] [(.ref a1)]))
    obtain ⟨T3, X3, e3, st3⟩ := getS2 X1 hx hZ hown (host := "") (Or.inl (hw _ (List.mem_of_getElem? (i := 15) rfl))) Via.refl e1 S_RANDOM_FILL (g := (mkF m 8 #[.val (.ref a1)] [(.ref a1)])) rfl (hb hby d2_8)
    refine ogo st3 ?_
    show OwnEnds _ _ _ _ _ _ _ (T3.setTop (mkF m 11 #[.val (.ref a1)] [(.ref w_RANDOM_FILL), (.ref a1)]))
    by_cases hc4 : a1 = w_RANDOM_FILL
    · refine ogo (fun t k => Jvm.RoadKit.acmp (g := (mkF m 11 #[.val (.ref a1)] [(.ref w_RANDOM_FILL), (.ref a1)])) X3 hx rfl rfl rfl (pc0 := 11) (pc' := 18) (same := true) rfl (hb hby d2_11) rfl (decide_eq_true (congrArg Value.ref hc4)) (by decide) (by decide) k) ?_
      show OwnEnds _ _ _ _ _ _ _ (T3.setTop (mkF m 18 #[.val (.ref a1)] []))
      refine ogo (fun t k => XS.iconst X3.here hx rfl (hb hby d2_18) k) ?_
      show OwnEnds _ _ _ _ _ _ _ (T3.setTop (mkF m 19 #[.val (.ref a1)] [(.int (0 : Int32))]))
      refine endZ X3 hx hlk Bd.returns rfl (hb hby d2_19) (by decide) (by decide) ?_
      show Q2 Z a1 w_ROM_DATA w_RANDOM_FILL h0 n0 _ T3.heap _
      rw [e3]
      exact ⟨by simp [hc2, hc4], N0, rfl⟩
    · refine ogo (fun t k => Jvm.RoadKit.acmp (g := (mkF m 11 #[.val (.ref a1)] [(.ref w_RANDOM_FILL), (.ref a1)])) X3 hx rfl rfl rfl (pc0 := 11) (pc' := 14) (same := false) rfl (hb hby d2_11) rfl (decide_eq_false fun q => hc4 (Value.ref.inj q)) (by decide) (by decide) k) ?_
      show OwnEnds _ _ _ _ _ _ _ (T3.setTop (mkF m 14 #[.val (.ref a1)] []))
      refine ogo (fun t k => XS.iconst X3.here hx rfl (hb hby d2_14) k) ?_
      show OwnEnds _ _ _ _ _ _ _ (T3.setTop (mkF m 15 #[.val (.ref a1)] [(.int (1 : Int32))]))
      refine ogo (fun t k => XS.goto X3.here hx rfl (pc0 := 15) (pc' := 19) rfl (hb hby d2_15) (by decide) (by decide) k) ?_
      show OwnEnds _ _ _ _ _ _ _ (T3.setTop (mkF m 19 #[.val (.ref a1)] [(.int (1 : Int32))]))
      refine endZ X3 hx hlk Bd.returns rfl (hb hby d2_19) (by decide) (by decide) ?_
      show Q2 Z a1 w_ROM_DATA w_RANDOM_FILL h0 n0 _ T3.heap _
      rw [e3]
      exact ⟨by simp [hc2, hc4], N0, rfl⟩
theorem pd_e6b9a279 : parseMethodDescriptor "(I)Lcom/example/opaque_token/opaquetoken/token/ObjectType;" = some ⟨[.int], some (.object "com/example/opaque_token/opaquetoken/token/ObjectType")⟩ := by decide +kernel
theorem pd___Z : parseMethodDescriptor "()Z" = some ⟨[], some .boolean⟩ := by decide +kernel
theorem ef_0 (m : MethodId) (x0 : Int32) : entryFrame m #[(.int x0)] maxLocals = mkF m 0 #[.val (.int x0), .unset, .unset, .unset] [] := by first | (simp [entryFrame, mkF, argsToLocals, Value.category, maxLocals]; done) | rfl
def Q0 (Z : State) (p0 : Int32) (w_INPUT_DATA w_ROM_DATA w_RANDOM_FILL w_EXPONENT w_CONFIGURATION w_OUTPUT_DATA w_MODULUS w_CLOCK_OFFSET w_COUNTER : Addr) (h0 : Heap) (n0 : Nat) (v : Option Value) (h : Heap) (L : List Loc) : Prop := v = some (.int 1) ∧ Fr n0 L
set_option maxRecDepth 65536 in
set_option maxHeartbeats 40000000 in
theorem rm0 (l : Launch) (Z : State) (a0 : Array Value) (hw : ∀ d ∈ tables_1, d.before a0 Z = true) (ws : List Jvm.Cond) (p0 : Int32) (w_INPUT_DATA w_ROM_DATA w_RANDOM_FILL w_EXPONENT w_CONFIGURATION w_OUTPUT_DATA w_MODULUS w_CLOCK_OFFSET w_COUNTER : Addr) (h0 : Heap) (n0 : Nat) (Z0 : n0 ≤ h0.size) (S_INPUT_DATA : Sta Z h0 "com/example/opaque_token/opaquetoken/token/ObjectType" "INPUT_DATA" "Lcom/example/opaque_token/opaquetoken/token/ObjectType;" (.ref w_INPUT_DATA)) (E_INPUT_DATA : Exa Z h0 w_INPUT_DATA "com/example/opaque_token/opaquetoken/token/ObjectType") (F_ordinal_INPUT_DATA : Fld Z h0 w_INPUT_DATA "java/lang/Enum" "ordinal" "I" (.int (0 : Int32))) (S_ROM_DATA : Sta Z h0 "com/example/opaque_token/opaquetoken/token/ObjectType" "ROM_DATA" "Lcom/example/opaque_token/opaquetoken/token/ObjectType;" (.ref w_ROM_DATA)) (E_ROM_DATA : Exa Z h0 w_ROM_DATA "com/example/opaque_token/opaquetoken/token/ObjectType") (F_ordinal_ROM_DATA : Fld Z h0 w_ROM_DATA "java/lang/Enum" "ordinal" "I" (.int (7 : Int32))) (S_RANDOM_FILL : Sta Z h0 "com/example/opaque_token/opaquetoken/token/ObjectType" "RANDOM_FILL" "Lcom/example/opaque_token/opaquetoken/token/ObjectType;" (.ref w_RANDOM_FILL)) (E_RANDOM_FILL : Exa Z h0 w_RANDOM_FILL "com/example/opaque_token/opaquetoken/token/ObjectType") (F_ordinal_RANDOM_FILL : Fld Z h0 w_RANDOM_FILL "java/lang/Enum" "ordinal" "I" (.int (8 : Int32))) (S_EXPONENT : Sta Z h0 "com/example/opaque_token/opaquetoken/token/ObjectType" "EXPONENT" "Lcom/example/opaque_token/opaquetoken/token/ObjectType;" (.ref w_EXPONENT)) (E_EXPONENT : Exa Z h0 w_EXPONENT "com/example/opaque_token/opaquetoken/token/ObjectType") (F_ordinal_EXPONENT : Fld Z h0 w_EXPONENT "java/lang/Enum" "ordinal" "I" (.int (3 : Int32))) (S_CONFIGURATION : Sta Z h0 "com/example/opaque_token/opaquetoken/token/ObjectType" "CONFIGURATION" "Lcom/example/opaque_token/opaquetoken/token/ObjectType;" (.ref w_CONFIGURATION)) (E_CONFIGURATION : Exa Z h0 w_CONFIGURATION "com/example/opaque_token/opaquetoken/token/ObjectType") (F_ordinal_CONFIGURATION : Fld Z h0 w_CONFIGURATION "java/lang/Enum" "ordinal" "I" (.int (2 : Int32))) (S_OUTPUT_DATA : Sta Z h0 "com/example/opaque_token/opaquetoken/token/ObjectType" "OUTPUT_DATA" "Lcom/example/opaque_token/opaquetoken/token/ObjectType;" (.ref w_OUTPUT_DATA)) (E_OUTPUT_DATA : Exa Z h0 w_OUTPUT_DATA "com/example/opaque_token/opaquetoken/token/ObjectType") (F_ordinal_OUTPUT_DATA : Fld Z h0 w_OUTPUT_DATA "java/lang/Enum" "ordinal" "I" (.int (1 : Int32))) (S_MODULUS : Sta Z h0 "com/example/opaque_token/opaquetoken/token/ObjectType" "MODULUS" "Lcom/example/opaque_token/opaquetoken/token/ObjectType;" (.ref w_MODULUS)) (E_MODULUS : Exa Z h0 w_MODULUS "com/example/opaque_token/opaquetoken/token/ObjectType") (F_ordinal_MODULUS : Fld Z h0 w_MODULUS "java/lang/Enum" "ordinal" "I" (.int (4 : Int32))) (S_CLOCK_OFFSET : Sta Z h0 "com/example/opaque_token/opaquetoken/token/ObjectType" "CLOCK_OFFSET" "Lcom/example/opaque_token/opaquetoken/token/ObjectType;" (.ref w_CLOCK_OFFSET)) (E_CLOCK_OFFSET : Exa Z h0 w_CLOCK_OFFSET "com/example/opaque_token/opaquetoken/token/ObjectType") (F_ordinal_CLOCK_OFFSET : Fld Z h0 w_CLOCK_OFFSET "java/lang/Enum" "ordinal" "I" (.int (6 : Int32))) (S_COUNTER : Sta Z h0 "com/example/opaque_token/opaquetoken/token/ObjectType" "COUNTER" "Lcom/example/opaque_token/opaquetoken/token/ObjectType;" (.ref w_COUNTER)) (E_COUNTER : Exa Z h0 w_COUNTER "com/example/opaque_token/opaquetoken/token/ObjectType") (F_ordinal_COUNTER : Fld Z h0 w_COUNTER "java/lang/Enum" "ordinal" "I" (.int (5 : Int32))) :
    MetFree l x (head1 (Jvm.Cond.code x code maxLocals ret :: ws) room_1) (fun a U => a = #[(.int p0)] ∧ Z.Warmed39 U.vm ∧ U.heap = h0) (fun _ _ _ _ _ => True) (fun _ U o U' => ∃ v L, o = .returned v ∧ Q0 Z p0 w_INPUT_DATA w_ROM_DATA w_RANDOM_FILL w_EXPONENT w_CONFIGURATION w_OUTPUT_DATA w_MODULUS w_CLOCK_OFFSET w_COUNTER h0 n0 v U'.heap L ∧ FrameEnd U o U' L 0 0) := by
  refine MetFree.of_bodySF (plainFor_of_name pn_ObjectTypeStoresValuePinLaw) hisR ?_
  intro p e s m args below meth c s₁ Bd hml0 hP hK
  obtain ⟨rfl, hZ, hh⟩ := hP
  have hx := Bd.exec
  have hby := Bd.bytes
  have hml : c.maxLocals = 4 := hml0
  have hown : s.vm.findClass "com/example/opaque_token/opaquetoken/token/ObjectTypeStoresValuePinLaw" = some m.cls := findClass_of_methodNamed Bd.named
  have hnm := (name_of_methodNamed Bd.named Bd.method).1
  have hlk : meth.locks = false := BodyLoose.notSynchronized Bd
  have X0 : Stand p l e room_1 s m #[(.int p0)] below meth c s₁ [] 0 0 := Stand.of_body Bd
  have e0 : s₁.heap = h0 := by rw [← hh, Bd.state]; rfl
  have N0 := Fr.nil n0
  refine ogo (U' := s₁.setTop (mkF m 0 #[.val (.int p0), .unset, .unset, .unset] [])) (Q := Q0 Z p0 w_INPUT_DATA w_ROM_DATA w_RANDOM_FILL w_EXPONENT w_CONFIGURATION w_OUTPUT_DATA w_MODULUS w_CLOCK_OFFSET w_COUNTER h0 n0) (K := 0) (N := 0) (fun t k => castTop (ef_0 m p0) k) ?_
  show OwnEnds _ _ _ _ _ _ _ (s₁.setTop (mkF m 0 #[.val (.int p0), .unset, .unset, .unset] []))
  refine ogo (fun t k => XS.iloadN X0.here hx rfl (hb hby at_0) rfl k) ?_
  show OwnEnds _ _ _ _ _ _ _ (s₁.setTop (mkF m 1 #[.val (.int p0), .unset, .unset, .unset] [(.int p0)]))
  refine ogo (fun t k => X0.ldcInt hx hown (mvT hZ (hw _ (List.mem_of_getElem? (i := 0) rfl))) (g := (mkF m 1 #[.val (.int p0), .unset, .unset, .unset] [(.int p0)])) rfl (hb hby at_1) t k) ?_
  show OwnEnds _ _ _ _ _ _ _ (s₁.setTop (mkF m 3 #[.val (.int p0), .unset, .unset, .unset] [(.int (2147483647 : Int32)), (.int p0)]))
  refine ogo (fun t k => XS.iand X0.here hx rfl (hb hby at_3) rfl k) ?_
  show OwnEnds _ _ _ _ _ _ _ (s₁.setTop (mkF m 4 #[.val (.int p0), .unset, .unset, .unset] [(.int (p0 &&& (2147483647 : Int32)))]))
  refine ogo (fun t k => XS.bipush X0.here hx rfl (hb hby at_4) k) ?_
  show OwnEnds _ _ _ _ _ _ _ (s₁.setTop (mkF m 6 #[.val (.int p0), .unset, .unset, .unset] [(.int (9 : Int32)), (.int (p0 &&& (2147483647 : Int32)))]))
  refine ogo (fun t k => iremM (g := (mkF m 6 #[.val (.int p0), .unset, .unset, .unset] [(.int (9 : Int32)), (.int (p0 &&& (2147483647 : Int32)))])) X0 hx rfl (hb hby at_6) rfl (by decide) k) ?_
  generalize hk : ((p0 &&& (2147483647 : Int32)) % (9 : Int32)) = k
  rcases own_case9 (hk ▸ own_rng p0 9 (by decide)) with rfl | rfl | rfl | rfl | rfl | rfl | rfl | rfl | rfl
  · show OwnEnds _ _ _ _ _ _ _ (s₁.setTop (mkF m 7 #[.val (.int p0), .unset, .unset, .unset] [(.int (0 : Int32))]))
    refine ogo (fun t k => XS.istoreN X0.here hx rfl (hb hby at_7) rfl (l' := #[.val (.int p0), .val (.int (0 : Int32)), .unset, .unset]) rfl k) ?_
    show OwnEnds _ _ _ _ _ _ _ (s₁.setTop (mkF m 8 #[.val (.int p0), .val (.int (0 : Int32)), .unset, .unset] []))
    refine ogo (fun t k => XS.iloadN X0.here hx rfl (hb hby at_8) rfl k) ?_
    show OwnEnds _ _ _ _ _ _ _ (s₁.setTop (mkF m 9 #[.val (.int p0), .val (.int (0 : Int32)), .unset, .unset] [(.int (0 : Int32))]))
    obtain ⟨v1, _, ⟨T1, L1, k1, n1⟩, -, X1, ⟨Lc1, hQ1, l1, y1, z1⟩, st1⟩ := Jvm.LawKit.callS X0 hx (y := (⟨"com/example/opaque_token/opaquetoken/token/ObjectTypeStoresValuePinLaw", "pick", "(I)Lcom/example/opaque_token/opaquetoken/token/ObjectType;"⟩ : MethodName)) hown (mvT hZ (hw _ (List.mem_of_getElem? (i := 1) rfl))) (mvT hZ (hw _ (List.mem_of_getElem? (i := 2) rfl))) (mvT hZ (hw _ (List.mem_of_getElem? (i := 3) rfl))) (mvT hZ (hw _ (List.mem_of_getElem? (i := 4) rfl))) (by decide) (backOf (W := 0) (rm1 l Z a0 hw [] (0 : Int32) w_INPUT_DATA w_OUTPUT_DATA w_CONFIGURATION w_EXPONENT w_MODULUS w_COUNTER w_CLOCK_OFFSET w_ROM_DATA w_RANDOM_FILL h0 n0 Z0 S_INPUT_DATA S_OUTPUT_DATA S_CONFIGURATION S_EXPONENT S_MODULUS S_COUNTER S_CLOCK_OFFSET S_ROM_DATA S_RANDOM_FILL) hZ (hw _ (List.mem_of_getElem? (i := 4) rfl)) (hw _ (List.mem_of_getElem? (i := 3) rfl)) (by decide) (by decide)) (g := (mkF m 9 #[.val (.int p0), .val (.int (0 : Int32)), .unset, .unset] [(.int (0 : Int32))])) rfl (by rw [hml]; rfl) (argsL := [(.int (0 : Int32))]) (rest := []) (lenOf pd_e6b9a279 rfl) rfl (by show 2 * 0 + _ ≤ _; exact Nat.le_of_eq rfl) (hb hby at_9) (fun _ _ => ⟨rfl, e0, (by decide : 0 + 0 ≤ _), (by decide : 0 + 0 ≤ _)⟩)
    dsimp only [Pt.U, Pt.locs, Pt.cells, Pt.slots] at X1 l1 y1 z1 st1 hQ1
    subst l1 y1 z1
    obtain ⟨hv1, N1q, e1⟩ := hQ1
    obtain rfl : v1 = some (.ref w_INPUT_DATA) := hv1.trans (by simp [own_pick])
    have N1 := Fr.app N0 N1q
    refine ogo (fun t k => st1 t k) ?_
    show OwnEnds _ _ _ _ _ _ _ (T1.setTop (mkF m 12 #[.val (.int p0), .val (.int (0 : Int32)), .unset, .unset] [(.ref w_INPUT_DATA)]))
    refine ogo (fun t k => XS.astoreN X1.here hx rfl (hb hby at_12) rfl rfl (l' := #[.val (.int p0), .val (.int (0 : Int32)), .val (.ref w_INPUT_DATA), .unset]) rfl k) ?_
    show OwnEnds _ _ _ _ _ _ _ (T1.setTop (mkF m 13 #[.val (.int p0), .val (.int (0 : Int32)), .val (.ref w_INPUT_DATA), .unset] []))
    refine ogo (fun t k => XS.iloadN X1.here hx rfl (hb hby at_13) rfl k) ?_
    show OwnEnds _ _ _ _ _ _ _ (T1.setTop (mkF m 14 #[.val (.int p0), .val (.int (0 : Int32)), .val (.ref w_INPUT_DATA), .unset] [(.int (0 : Int32))]))
    refine ogo (fun t k => XS.bipush X1.here hx rfl (hb hby at_14) k) ?_
    show OwnEnds _ _ _ _ _ _ _ (T1.setTop (mkF m 16 #[.val (.int p0), .val (.int (0 : Int32)), .val (.ref w_INPUT_DATA), .unset] [(.int (6 : Int32)), (.int (0 : Int32))]))
    refine ogo (fun t k => XS.icmpNo X1.here hx rfl (hb hby at_16) rfl (flt (by decide : ¬ ((6 : Int32) < (0 : Int32)))).2.2.1 k) ?_
    show OwnEnds _ _ _ _ _ _ _ (T1.setTop (mkF m 19 #[.val (.int p0), .val (.int (0 : Int32)), .val (.ref w_INPUT_DATA), .unset] []))
    refine ogo (fun t k => XS.iconst X1.here hx rfl (hb hby at_19) k) ?_
    show OwnEnds _ _ _ _ _ _ _ (T1.setTop (mkF m 20 #[.val (.int p0), .val (.int (0 : Int32)), .val (.ref w_INPUT_DATA), .unset] [(.int (1 : Int32))]))
    refine ogo (fun t k => XS.goto X1.here hx rfl (pc0 := 20) (pc' := 24) rfl (hb hby at_20) (by decide) (by decide) k) ?_
    show OwnEnds _ _ _ _ _ _ _ (T1.setTop (mkF m 24 #[.val (.int p0), .val (.int (0 : Int32)), .val (.ref w_INPUT_DATA), .unset] [(.int (1 : Int32))]))
    refine ogo (fun t k => XS.istoreN X1.here hx rfl (hb hby at_24) rfl (l' := #[.val (.int p0), .val (.int (0 : Int32)), .val (.ref w_INPUT_DATA), .val (.int (1 : Int32))]) rfl k) ?_
    show OwnEnds _ _ _ _ _ _ _ (T1.setTop (mkF m 25 #[.val (.int p0), .val (.int (0 : Int32)), .val (.ref w_INPUT_DATA), .val (.int (1 : Int32))] []))
    refine ogo (fun t k => XS.aloadN X1.here hx rfl (hb hby at_25) rfl rfl k) ?_
    show OwnEnds _ _ _ _ _ _ _ (T1.setTop (mkF m 26 #[.val (.int p0), .val (.int (0 : Int32)), .val (.ref w_INPUT_DATA), .val (.int (1 : Int32))] [(.ref w_INPUT_DATA)]))
    obtain ⟨cq2, kq2, q2a, q2b, q2c⟩ := isOf hZ e1 E_INPUT_DATA
    obtain ⟨v2, _, ⟨T2, L2, k2, n2⟩, -, X2, ⟨Lc2, hQ2, l2, y2, z2⟩, st2⟩ := X1.virtualBack hx (y := (⟨"com/example/opaque_token/opaquetoken/token/ObjectType", "storesValue", "()Z"⟩ : MethodName)) (z := (⟨"com/example/opaque_token/opaquetoken/token/ObjectType", "storesValue", "()Z"⟩ : MethodName)) hown (mvT hZ (hw _ (List.mem_of_getElem? (i := 8) rfl))) (mvT hZ (hw _ (List.mem_of_getElem? (i := 9) rfl))) (notFace_of_selects (args := #[]) (mvT hZ (hw _ (List.mem_of_getElem? (i := 11) rfl)))) (mvT hZ (hw _ (List.mem_of_getElem? (i := 11) rfl))) (mvT hZ (hw _ (List.mem_of_getElem? (i := 10) rfl))) (by decide) (backOf (W := 0) (rm2 l Z a0 hw [] w_INPUT_DATA w_ROM_DATA w_RANDOM_FILL h0 n0 Z0 S_ROM_DATA S_RANDOM_FILL) hZ (hw _ (List.mem_of_getElem? (i := 12) rfl)) (hw _ (List.mem_of_getElem? (i := 6) rfl)) (by decide) (by decide)) q2a q2c (g := (mkF m 26 #[.val (.int p0), .val (.int (0 : Int32)), .val (.ref w_INPUT_DATA), .val (.int (1 : Int32))] [(.ref w_INPUT_DATA)])) rfl (by rw [hml]; rfl) (Steps.refl _) (argsL := []) (rest := []) (lenOf pd___Z rfl) rfl (by show 2 * 0 + _ ≤ _; exact Nat.le_of_eq rfl) (hb hby at_26) (fun _ _ => ⟨rfl, e1, (by decide : 0 + 0 ≤ _), (by decide : 0 + 0 ≤ _)⟩)
    dsimp only [Pt.U, Pt.locs, Pt.cells, Pt.slots] at X2 l2 y2 z2 st2 hQ2
    subst l2 y2 z2
    obtain ⟨hv2, N2q, e2⟩ := hQ2
    obtain rfl : v2 = some (.int (1 : Int32)) := hv2.trans (by simp [(Fld.ne F_ordinal_INPUT_DATA F_ordinal_ROM_DATA (by simp)), (Fld.ne F_ordinal_INPUT_DATA F_ordinal_RANDOM_FILL (by simp))])
    have N2 := Fr.app N1 N2q
    refine ogo (fun t k => st2.trans k) ?_
    show OwnEnds _ _ _ _ _ _ _ (T2.setTop (mkF m 29 #[.val (.int p0), .val (.int (0 : Int32)), .val (.ref w_INPUT_DATA), .val (.int (1 : Int32))] [(.int (1 : Int32))]))
    refine ogo (fun t k => XS.iloadN X2.here hx rfl (hb hby at_29) rfl k) ?_
    show OwnEnds _ _ _ _ _ _ _ (T2.setTop (mkF m 30 #[.val (.int p0), .val (.int (0 : Int32)), .val (.ref w_INPUT_DATA), .val (.int (1 : Int32))] [(.int (1 : Int32)), (.int (1 : Int32))]))
    refine ogo (fun t k => XS.icmpNo X2.here hx rfl (hb hby at_30) rfl (teq (by decide : (1 : Int32) = (1 : Int32))).2 k) ?_
    show OwnEnds _ _ _ _ _ _ _ (T2.setTop (mkF m 33 #[.val (.int p0), .val (.int (0 : Int32)), .val (.ref w_INPUT_DATA), .val (.int (1 : Int32))] []))
    refine ogo (fun t k => XS.iconst X2.here hx rfl (hb hby at_33) k) ?_
    show OwnEnds _ _ _ _ _ _ _ (T2.setTop (mkF m 34 #[.val (.int p0), .val (.int (0 : Int32)), .val (.ref w_INPUT_DATA), .val (.int (1 : Int32))] [(.int (1 : Int32))]))
    refine ogo (fun t k => XS.goto X2.here hx rfl (pc0 := 34) (pc' := 38) rfl (hb hby at_34) (by decide) (by decide) k) ?_
    show OwnEnds _ _ _ _ _ _ _ (T2.setTop (mkF m 38 #[.val (.int p0), .val (.int (0 : Int32)), .val (.ref w_INPUT_DATA), .val (.int (1 : Int32))] [(.int (1 : Int32))]))
    refine endZ X2 hx hlk Bd.returns rfl (hb hby at_38) (by decide) (by decide) ?_
    show Q0 Z p0 w_INPUT_DATA w_ROM_DATA w_RANDOM_FILL w_EXPONENT w_CONFIGURATION w_OUTPUT_DATA w_MODULUS w_CLOCK_OFFSET w_COUNTER h0 n0 _ T2.heap _
    rw [e2]
    exact ⟨rfl, N2⟩
  · show OwnEnds _ _ _ _ _ _ _ (s₁.setTop (mkF m 7 #[.val (.int p0), .unset, .unset, .unset] [(.int (1 : Int32))]))
    refine ogo (fun t k => XS.istoreN X0.here hx rfl (hb hby at_7) rfl (l' := #[.val (.int p0), .val (.int (1 : Int32)), .unset, .unset]) rfl k) ?_
    show OwnEnds _ _ _ _ _ _ _ (s₁.setTop (mkF m 8 #[.val (.int p0), .val (.int (1 : Int32)), .unset, .unset] []))
    refine ogo (fun t k => XS.iloadN X0.here hx rfl (hb hby at_8) rfl k) ?_
    show OwnEnds _ _ _ _ _ _ _ (s₁.setTop (mkF m 9 #[.val (.int p0), .val (.int (1 : Int32)), .unset, .unset] [(.int (1 : Int32))]))
    obtain ⟨v3, _, ⟨T3, L3, k3, n3⟩, -, X3, ⟨Lc3, hQ3, l3, y3, z3⟩, st3⟩ := Jvm.LawKit.callS X0 hx (y := (⟨"com/example/opaque_token/opaquetoken/token/ObjectTypeStoresValuePinLaw", "pick", "(I)Lcom/example/opaque_token/opaquetoken/token/ObjectType;"⟩ : MethodName)) hown (mvT hZ (hw _ (List.mem_of_getElem? (i := 1) rfl))) (mvT hZ (hw _ (List.mem_of_getElem? (i := 2) rfl))) (mvT hZ (hw _ (List.mem_of_getElem? (i := 3) rfl))) (mvT hZ (hw _ (List.mem_of_getElem? (i := 4) rfl))) (by decide) (backOf (W := 0) (rm1 l Z a0 hw [] (1 : Int32) w_INPUT_DATA w_OUTPUT_DATA w_CONFIGURATION w_EXPONENT w_MODULUS w_COUNTER w_CLOCK_OFFSET w_ROM_DATA w_RANDOM_FILL h0 n0 Z0 S_INPUT_DATA S_OUTPUT_DATA S_CONFIGURATION S_EXPONENT S_MODULUS S_COUNTER S_CLOCK_OFFSET S_ROM_DATA S_RANDOM_FILL) hZ (hw _ (List.mem_of_getElem? (i := 4) rfl)) (hw _ (List.mem_of_getElem? (i := 3) rfl)) (by decide) (by decide)) (g := (mkF m 9 #[.val (.int p0), .val (.int (1 : Int32)), .unset, .unset] [(.int (1 : Int32))])) rfl (by rw [hml]; rfl) (argsL := [(.int (1 : Int32))]) (rest := []) (lenOf pd_e6b9a279 rfl) rfl (by show 2 * 0 + _ ≤ _; exact Nat.le_of_eq rfl) (hb hby at_9) (fun _ _ => ⟨rfl, e0, (by decide : 0 + 0 ≤ _), (by decide : 0 + 0 ≤ _)⟩)
    dsimp only [Pt.U, Pt.locs, Pt.cells, Pt.slots] at X3 l3 y3 z3 st3 hQ3
    subst l3 y3 z3
    obtain ⟨hv3, N3q, e3⟩ := hQ3
    obtain rfl : v3 = some (.ref w_OUTPUT_DATA) := hv3.trans (by simp [own_pick])
    have N3 := Fr.app N0 N3q
    refine ogo (fun t k => st3 t k) ?_
    show OwnEnds _ _ _ _ _ _ _ (T3.setTop (mkF m 12 #[.val (.int p0), .val (.int (1 : Int32)), .unset, .unset] [(.ref w_OUTPUT_DATA)]))
    refine ogo (fun t k => XS.astoreN X3.here hx rfl (hb hby at_12) rfl rfl (l' := #[.val (.int p0), .val (.int (1 : Int32)), .val (.ref w_OUTPUT_DATA), .unset]) rfl k) ?_
    show OwnEnds _ _ _ _ _ _ _ (T3.setTop (mkF m 13 #[.val (.int p0), .val (.int (1 : Int32)), .val (.ref w_OUTPUT_DATA), .unset] []))
    refine ogo (fun t k => XS.iloadN X3.here hx rfl (hb hby at_13) rfl k) ?_
    show OwnEnds _ _ _ _ _ _ _ (T3.setTop (mkF m 14 #[.val (.int p0), .val (.int (1 : Int32)), .val (.ref w_OUTPUT_DATA), .unset] [(.int (1 : Int32))]))
    refine ogo (fun t k => XS.bipush X3.here hx rfl (hb hby at_14) k) ?_
    show OwnEnds _ _ _ _ _ _ _ (T3.setTop (mkF m 16 #[.val (.int p0), .val (.int (1 : Int32)), .val (.ref w_OUTPUT_DATA), .unset] [(.int (6 : Int32)), (.int (1 : Int32))]))
    refine ogo (fun t k => XS.icmpNo X3.here hx rfl (hb hby at_16) rfl (flt (by decide : ¬ ((6 : Int32) < (1 : Int32)))).2.2.1 k) ?_
    show OwnEnds _ _ _ _ _ _ _ (T3.setTop (mkF m 19 #[.val (.int p0), .val (.int (1 : Int32)), .val (.ref w_OUTPUT_DATA), .unset] []))
    refine ogo (fun t k => XS.iconst X3.here hx rfl (hb hby at_19) k) ?_
    show OwnEnds _ _ _ _ _ _ _ (T3.setTop (mkF m 20 #[.val (.int p0), .val (.int (1 : Int32)), .val (.ref w_OUTPUT_DATA), .unset] [(.int (1 : Int32))]))
    refine ogo (fun t k => XS.goto X3.here hx rfl (pc0 := 20) (pc' := 24) rfl (hb hby at_20) (by decide) (by decide) k) ?_
    show OwnEnds _ _ _ _ _ _ _ (T3.setTop (mkF m 24 #[.val (.int p0), .val (.int (1 : Int32)), .val (.ref w_OUTPUT_DATA), .unset] [(.int (1 : Int32))]))
    refine ogo (fun t k => XS.istoreN X3.here hx rfl (hb hby at_24) rfl (l' := #[.val (.int p0), .val (.int (1 : Int32)), .val (.ref w_OUTPUT_DATA), .val (.int (1 : Int32))]) rfl k) ?_
    show OwnEnds _ _ _ _ _ _ _ (T3.setTop (mkF m 25 #[.val (.int p0), .val (.int (1 : Int32)), .val (.ref w_OUTPUT_DATA), .val (.int (1 : Int32))] []))
    refine ogo (fun t k => XS.aloadN X3.here hx rfl (hb hby at_25) rfl rfl k) ?_
    show OwnEnds _ _ _ _ _ _ _ (T3.setTop (mkF m 26 #[.val (.int p0), .val (.int (1 : Int32)), .val (.ref w_OUTPUT_DATA), .val (.int (1 : Int32))] [(.ref w_OUTPUT_DATA)]))
    obtain ⟨cq4, kq4, q4a, q4b, q4c⟩ := isOf hZ e3 E_OUTPUT_DATA
    obtain ⟨v4, _, ⟨T4, L4, k4, n4⟩, -, X4, ⟨Lc4, hQ4, l4, y4, z4⟩, st4⟩ := X3.virtualBack hx (y := (⟨"com/example/opaque_token/opaquetoken/token/ObjectType", "storesValue", "()Z"⟩ : MethodName)) (z := (⟨"com/example/opaque_token/opaquetoken/token/ObjectType", "storesValue", "()Z"⟩ : MethodName)) hown (mvT hZ (hw _ (List.mem_of_getElem? (i := 8) rfl))) (mvT hZ (hw _ (List.mem_of_getElem? (i := 9) rfl))) (notFace_of_selects (args := #[]) (mvT hZ (hw _ (List.mem_of_getElem? (i := 11) rfl)))) (mvT hZ (hw _ (List.mem_of_getElem? (i := 11) rfl))) (mvT hZ (hw _ (List.mem_of_getElem? (i := 10) rfl))) (by decide) (backOf (W := 0) (rm2 l Z a0 hw [] w_OUTPUT_DATA w_ROM_DATA w_RANDOM_FILL h0 n0 Z0 S_ROM_DATA S_RANDOM_FILL) hZ (hw _ (List.mem_of_getElem? (i := 12) rfl)) (hw _ (List.mem_of_getElem? (i := 6) rfl)) (by decide) (by decide)) q4a q4c (g := (mkF m 26 #[.val (.int p0), .val (.int (1 : Int32)), .val (.ref w_OUTPUT_DATA), .val (.int (1 : Int32))] [(.ref w_OUTPUT_DATA)])) rfl (by rw [hml]; rfl) (Steps.refl _) (argsL := []) (rest := []) (lenOf pd___Z rfl) rfl (by show 2 * 0 + _ ≤ _; exact Nat.le_of_eq rfl) (hb hby at_26) (fun _ _ => ⟨rfl, e3, (by decide : 0 + 0 ≤ _), (by decide : 0 + 0 ≤ _)⟩)
    dsimp only [Pt.U, Pt.locs, Pt.cells, Pt.slots] at X4 l4 y4 z4 st4 hQ4
    subst l4 y4 z4
    obtain ⟨hv4, N4q, e4⟩ := hQ4
    obtain rfl : v4 = some (.int (1 : Int32)) := hv4.trans (by simp [(Fld.ne F_ordinal_OUTPUT_DATA F_ordinal_ROM_DATA (by simp)), (Fld.ne F_ordinal_OUTPUT_DATA F_ordinal_RANDOM_FILL (by simp))])
    have N4 := Fr.app N3 N4q
    refine ogo (fun t k => st4.trans k) ?_
    show OwnEnds _ _ _ _ _ _ _ (T4.setTop (mkF m 29 #[.val (.int p0), .val (.int (1 : Int32)), .val (.ref w_OUTPUT_DATA), .val (.int (1 : Int32))] [(.int (1 : Int32))]))
    refine ogo (fun t k => XS.iloadN X4.here hx rfl (hb hby at_29) rfl k) ?_
    show OwnEnds _ _ _ _ _ _ _ (T4.setTop (mkF m 30 #[.val (.int p0), .val (.int (1 : Int32)), .val (.ref w_OUTPUT_DATA), .val (.int (1 : Int32))] [(.int (1 : Int32)), (.int (1 : Int32))]))
    refine ogo (fun t k => XS.icmpNo X4.here hx rfl (hb hby at_30) rfl (teq (by decide : (1 : Int32) = (1 : Int32))).2 k) ?_
    show OwnEnds _ _ _ _ _ _ _ (T4.setTop (mkF m 33 #[.val (.int p0), .val (.int (1 : Int32)), .val (.ref w_OUTPUT_DATA), .val (.int (1 : Int32))] []))
    refine ogo (fun t k => XS.iconst X4.here hx rfl (hb hby at_33) k) ?_
    show OwnEnds _ _ _ _ _ _ _ (T4.setTop (mkF m 34 #[.val (.int p0), .val (.int (1 : Int32)), .val (.ref w_OUTPUT_DATA), .val (.int (1 : Int32))] [(.int (1 : Int32))]))
    refine ogo (fun t k => XS.goto X4.here hx rfl (pc0 := 34) (pc' := 38) rfl (hb hby at_34) (by decide) (by decide) k) ?_
    show OwnEnds _ _ _ _ _ _ _ (T4.setTop (mkF m 38 #[.val (.int p0), .val (.int (1 : Int32)), .val (.ref w_OUTPUT_DATA), .val (.int (1 : Int32))] [(.int (1 : Int32))]))
    refine endZ X4 hx hlk Bd.returns rfl (hb hby at_38) (by decide) (by decide) ?_
    show Q0 Z p0 w_INPUT_DATA w_ROM_DATA w_RANDOM_FILL w_EXPONENT w_CONFIGURATION w_OUTPUT_DATA w_MODULUS w_CLOCK_OFFSET w_COUNTER h0 n0 _ T4.heap _
    rw [e4]
    exact ⟨rfl, N4⟩
  · show OwnEnds _ _ _ _ _ _ _ (s₁.setTop (mkF m 7 #[.val (.int p0), .unset, .unset, .unset] [(.int (2 : Int32))]))
    refine ogo (fun t k => XS.istoreN X0.here hx rfl (hb hby at_7) rfl (l' := #[.val (.int p0), .val (.int (2 : Int32)), .unset, .unset]) rfl k) ?_
    show OwnEnds _ _ _ _ _ _ _ (s₁.setTop (mkF m 8 #[.val (.int p0), .val (.int (2 : Int32)), .unset, .unset] []))
    refine ogo (fun t k => XS.iloadN X0.here hx rfl (hb hby at_8) rfl k) ?_
    show OwnEnds _ _ _ _ _ _ _ (s₁.setTop (mkF m 9 #[.val (.int p0), .val (.int (2 : Int32)), .unset, .unset] [(.int (2 : Int32))]))
    obtain ⟨v5, _, ⟨T5, L5, k5, n5⟩, -, X5, ⟨Lc5, hQ5, l5, y5, z5⟩, st5⟩ := Jvm.LawKit.callS X0 hx (y := (⟨"com/example/opaque_token/opaquetoken/token/ObjectTypeStoresValuePinLaw", "pick", "(I)Lcom/example/opaque_token/opaquetoken/token/ObjectType;"⟩ : MethodName)) hown (mvT hZ (hw _ (List.mem_of_getElem? (i := 1) rfl))) (mvT hZ (hw _ (List.mem_of_getElem? (i := 2) rfl))) (mvT hZ (hw _ (List.mem_of_getElem? (i := 3) rfl))) (mvT hZ (hw _ (List.mem_of_getElem? (i := 4) rfl))) (by decide) (backOf (W := 0) (rm1 l Z a0 hw [] (2 : Int32) w_INPUT_DATA w_OUTPUT_DATA w_CONFIGURATION w_EXPONENT w_MODULUS w_COUNTER w_CLOCK_OFFSET w_ROM_DATA w_RANDOM_FILL h0 n0 Z0 S_INPUT_DATA S_OUTPUT_DATA S_CONFIGURATION S_EXPONENT S_MODULUS S_COUNTER S_CLOCK_OFFSET S_ROM_DATA S_RANDOM_FILL) hZ (hw _ (List.mem_of_getElem? (i := 4) rfl)) (hw _ (List.mem_of_getElem? (i := 3) rfl)) (by decide) (by decide)) (g := (mkF m 9 #[.val (.int p0), .val (.int (2 : Int32)), .unset, .unset] [(.int (2 : Int32))])) rfl (by rw [hml]; rfl) (argsL := [(.int (2 : Int32))]) (rest := []) (lenOf pd_e6b9a279 rfl) rfl (by show 2 * 0 + _ ≤ _; exact Nat.le_of_eq rfl) (hb hby at_9) (fun _ _ => ⟨rfl, e0, (by decide : 0 + 0 ≤ _), (by decide : 0 + 0 ≤ _)⟩)
    dsimp only [Pt.U, Pt.locs, Pt.cells, Pt.slots] at X5 l5 y5 z5 st5 hQ5
    subst l5 y5 z5
    obtain ⟨hv5, N5q, e5⟩ := hQ5
    obtain rfl : v5 = some (.ref w_CONFIGURATION) := hv5.trans (by simp [own_pick])
    have N5 := Fr.app N0 N5q
    refine ogo (fun t k => st5 t k) ?_
    show OwnEnds _ _ _ _ _ _ _ (T5.setTop (mkF m 12 #[.val (.int p0), .val (.int (2 : Int32)), .unset, .unset] [(.ref w_CONFIGURATION)]))
    refine ogo (fun t k => XS.astoreN X5.here hx rfl (hb hby at_12) rfl rfl (l' := #[.val (.int p0), .val (.int (2 : Int32)), .val (.ref w_CONFIGURATION), .unset]) rfl k) ?_
    show OwnEnds _ _ _ _ _ _ _ (T5.setTop (mkF m 13 #[.val (.int p0), .val (.int (2 : Int32)), .val (.ref w_CONFIGURATION), .unset] []))
    refine ogo (fun t k => XS.iloadN X5.here hx rfl (hb hby at_13) rfl k) ?_
    show OwnEnds _ _ _ _ _ _ _ (T5.setTop (mkF m 14 #[.val (.int p0), .val (.int (2 : Int32)), .val (.ref w_CONFIGURATION), .unset] [(.int (2 : Int32))]))
    refine ogo (fun t k => XS.bipush X5.here hx rfl (hb hby at_14) k) ?_
    show OwnEnds _ _ _ _ _ _ _ (T5.setTop (mkF m 16 #[.val (.int p0), .val (.int (2 : Int32)), .val (.ref w_CONFIGURATION), .unset] [(.int (6 : Int32)), (.int (2 : Int32))]))
    refine ogo (fun t k => XS.icmpNo X5.here hx rfl (hb hby at_16) rfl (flt (by decide : ¬ ((6 : Int32) < (2 : Int32)))).2.2.1 k) ?_
    show OwnEnds _ _ _ _ _ _ _ (T5.setTop (mkF m 19 #[.val (.int p0), .val (.int (2 : Int32)), .val (.ref w_CONFIGURATION), .unset] []))
    refine ogo (fun t k => XS.iconst X5.here hx rfl (hb hby at_19) k) ?_
    show OwnEnds _ _ _ _ _ _ _ (T5.setTop (mkF m 20 #[.val (.int p0), .val (.int (2 : Int32)), .val (.ref w_CONFIGURATION), .unset] [(.int (1 : Int32))]))
    refine ogo (fun t k => XS.goto X5.here hx rfl (pc0 := 20) (pc' := 24) rfl (hb hby at_20) (by decide) (by decide) k) ?_
    show OwnEnds _ _ _ _ _ _ _ (T5.setTop (mkF m 24 #[.val (.int p0), .val (.int (2 : Int32)), .val (.ref w_CONFIGURATION), .unset] [(.int (1 : Int32))]))
    refine ogo (fun t k => XS.istoreN X5.here hx rfl (hb hby at_24) rfl (l' := #[.val (.int p0), .val (.int (2 : Int32)), .val (.ref w_CONFIGURATION), .val (.int (1 : Int32))]) rfl k) ?_
    show OwnEnds _ _ _ _ _ _ _ (T5.setTop (mkF m 25 #[.val (.int p0), .val (.int (2 : Int32)), .val (.ref w_CONFIGURATION), .val (.int (1 : Int32))] []))
    refine ogo (fun t k => XS.aloadN X5.here hx rfl (hb hby at_25) rfl rfl k) ?_
    show OwnEnds _ _ _ _ _ _ _ (T5.setTop (mkF m 26 #[.val (.int p0), .val (.int (2 : Int32)), .val (.ref w_CONFIGURATION), .val (.int (1 : Int32))] [(.ref w_CONFIGURATION)]))
    obtain ⟨cq6, kq6, q6a, q6b, q6c⟩ := isOf hZ e5 E_CONFIGURATION
    obtain ⟨v6, _, ⟨T6, L6, k6, n6⟩, -, X6, ⟨Lc6, hQ6, l6, y6, z6⟩, st6⟩ := X5.virtualBack hx (y := (⟨"com/example/opaque_token/opaquetoken/token/ObjectType", "storesValue", "()Z"⟩ : MethodName)) (z := (⟨"com/example/opaque_token/opaquetoken/token/ObjectType", "storesValue", "()Z"⟩ : MethodName)) hown (mvT hZ (hw _ (List.mem_of_getElem? (i := 8) rfl))) (mvT hZ (hw _ (List.mem_of_getElem? (i := 9) rfl))) (notFace_of_selects (args := #[]) (mvT hZ (hw _ (List.mem_of_getElem? (i := 11) rfl)))) (mvT hZ (hw _ (List.mem_of_getElem? (i := 11) rfl))) (mvT hZ (hw _ (List.mem_of_getElem? (i := 10) rfl))) (by decide) (backOf (W := 0) (rm2 l Z a0 hw [] w_CONFIGURATION w_ROM_DATA w_RANDOM_FILL h0 n0 Z0 S_ROM_DATA S_RANDOM_FILL) hZ (hw _ (List.mem_of_getElem? (i := 12) rfl)) (hw _ (List.mem_of_getElem? (i := 6) rfl)) (by decide) (by decide)) q6a q6c (g := (mkF m 26 #[.val (.int p0), .val (.int (2 : Int32)), .val (.ref w_CONFIGURATION), .val (.int (1 : Int32))] [(.ref w_CONFIGURATION)])) rfl (by rw [hml]; rfl) (Steps.refl _) (argsL := []) (rest := []) (lenOf pd___Z rfl) rfl (by show 2 * 0 + _ ≤ _; exact Nat.le_of_eq rfl) (hb hby at_26) (fun _ _ => ⟨rfl, e5, (by decide : 0 + 0 ≤ _), (by decide : 0 + 0 ≤ _)⟩)
    dsimp only [Pt.U, Pt.locs, Pt.cells, Pt.slots] at X6 l6 y6 z6 st6 hQ6
    subst l6 y6 z6
    obtain ⟨hv6, N6q, e6⟩ := hQ6
    obtain rfl : v6 = some (.int (1 : Int32)) := hv6.trans (by simp [(Fld.ne F_ordinal_CONFIGURATION F_ordinal_ROM_DATA (by simp)), (Fld.ne F_ordinal_CONFIGURATION F_ordinal_RANDOM_FILL (by simp))])
    have N6 := Fr.app N5 N6q
    refine ogo (fun t k => st6.trans k) ?_
    show OwnEnds _ _ _ _ _ _ _ (T6.setTop (mkF m 29 #[.val (.int p0), .val (.int (2 : Int32)), .val (.ref w_CONFIGURATION), .val (.int (1 : Int32))] [(.int (1 : Int32))]))
    refine ogo (fun t k => XS.iloadN X6.here hx rfl (hb hby at_29) rfl k) ?_
    show OwnEnds _ _ _ _ _ _ _ (T6.setTop (mkF m 30 #[.val (.int p0), .val (.int (2 : Int32)), .val (.ref w_CONFIGURATION), .val (.int (1 : Int32))] [(.int (1 : Int32)), (.int (1 : Int32))]))
    refine ogo (fun t k => XS.icmpNo X6.here hx rfl (hb hby at_30) rfl (teq (by decide : (1 : Int32) = (1 : Int32))).2 k) ?_
    show OwnEnds _ _ _ _ _ _ _ (T6.setTop (mkF m 33 #[.val (.int p0), .val (.int (2 : Int32)), .val (.ref w_CONFIGURATION), .val (.int (1 : Int32))] []))
    refine ogo (fun t k => XS.iconst X6.here hx rfl (hb hby at_33) k) ?_
    show OwnEnds _ _ _ _ _ _ _ (T6.setTop (mkF m 34 #[.val (.int p0), .val (.int (2 : Int32)), .val (.ref w_CONFIGURATION), .val (.int (1 : Int32))] [(.int (1 : Int32))]))
    refine ogo (fun t k => XS.goto X6.here hx rfl (pc0 := 34) (pc' := 38) rfl (hb hby at_34) (by decide) (by decide) k) ?_
    show OwnEnds _ _ _ _ _ _ _ (T6.setTop (mkF m 38 #[.val (.int p0), .val (.int (2 : Int32)), .val (.ref w_CONFIGURATION), .val (.int (1 : Int32))] [(.int (1 : Int32))]))
    refine endZ X6 hx hlk Bd.returns rfl (hb hby at_38) (by decide) (by decide) ?_
    show Q0 Z p0 w_INPUT_DATA w_ROM_DATA w_RANDOM_FILL w_EXPONENT w_CONFIGURATION w_OUTPUT_DATA w_MODULUS w_CLOCK_OFFSET w_COUNTER h0 n0 _ T6.heap _
    rw [e6]
    exact ⟨rfl, N6⟩
  · show OwnEnds _ _ _ _ _ _ _ (s₁.setTop (mkF m 7 #[.val (.int p0), .unset, .unset, .unset] [(.int (3 : Int32))]))
    refine ogo (fun t k => XS.istoreN X0.here hx rfl (hb hby at_7) rfl (l' := #[.val (.int p0), .val (.int (3 : Int32)), .unset, .unset]) rfl k) ?_
    show OwnEnds _ _ _ _ _ _ _ (s₁.setTop (mkF m 8 #[.val (.int p0), .val (.int (3 : Int32)), .unset, .unset] []))
    refine ogo (fun t k => XS.iloadN X0.here hx rfl (hb hby at_8) rfl k) ?_
    show OwnEnds _ _ _ _ _ _ _ (s₁.setTop (mkF m 9 #[.val (.int p0), .val (.int (3 : Int32)), .unset, .unset] [(.int (3 : Int32))]))
    obtain ⟨v7, _, ⟨T7, L7, k7, n7⟩, -, X7, ⟨Lc7, hQ7, l7, y7, z7⟩, st7⟩ := Jvm.LawKit.callS X0 hx (y := (⟨"com/example/opaque_token/opaquetoken/token/ObjectTypeStoresValuePinLaw", "pick", "(I)Lcom/example/opaque_token/opaquetoken/token/ObjectType;"⟩ : MethodName)) hown (mvT hZ (hw _ (List.mem_of_getElem? (i := 1) rfl))) (mvT hZ (hw _ (List.mem_of_getElem? (i := 2) rfl))) (mvT hZ (hw _ (List.mem_of_getElem? (i := 3) rfl))) (mvT hZ (hw _ (List.mem_of_getElem? (i := 4) rfl))) (by decide) (backOf (W := 0) (rm1 l Z a0 hw [] (3 : Int32) w_INPUT_DATA w_OUTPUT_DATA w_CONFIGURATION w_EXPONENT w_MODULUS w_COUNTER w_CLOCK_OFFSET w_ROM_DATA w_RANDOM_FILL h0 n0 Z0 S_INPUT_DATA S_OUTPUT_DATA S_CONFIGURATION S_EXPONENT S_MODULUS S_COUNTER S_CLOCK_OFFSET S_ROM_DATA S_RANDOM_FILL) hZ (hw _ (List.mem_of_getElem? (i := 4) rfl)) (hw _ (List.mem_of_getElem? (i := 3) rfl)) (by decide) (by decide)) (g := (mkF m 9 #[.val (.int p0), .val (.int (3 : Int32)), .unset, .unset] [(.int (3 : Int32))])) rfl (by rw [hml]; rfl) (argsL := [(.int (3 : Int32))]) (rest := []) (lenOf pd_e6b9a279 rfl) rfl (by show 2 * 0 + _ ≤ _; exact Nat.le_of_eq rfl) (hb hby at_9) (fun _ _ => ⟨rfl, e0, (by decide : 0 + 0 ≤ _), (by decide : 0 + 0 ≤ _)⟩)
    dsimp only [Pt.U, Pt.locs, Pt.cells, Pt.slots] at X7 l7 y7 z7 st7 hQ7
    subst l7 y7 z7
    obtain ⟨hv7, N7q, e7⟩ := hQ7
    obtain rfl : v7 = some (.ref w_EXPONENT) := hv7.trans (by simp [own_pick])
    have N7 := Fr.app N0 N7q
    refine ogo (fun t k => st7 t k) ?_
    show OwnEnds _ _ _ _ _ _ _ (T7.setTop (mkF m 12 #[.val (.int p0), .val (.int (3 : Int32)), .unset, .unset] [(.ref w_EXPONENT)]))
    refine ogo (fun t k => XS.astoreN X7.here hx rfl (hb hby at_12) rfl rfl (l' := #[.val (.int p0), .val (.int (3 : Int32)), .val (.ref w_EXPONENT), .unset]) rfl k) ?_
    show OwnEnds _ _ _ _ _ _ _ (T7.setTop (mkF m 13 #[.val (.int p0), .val (.int (3 : Int32)), .val (.ref w_EXPONENT), .unset] []))
    refine ogo (fun t k => XS.iloadN X7.here hx rfl (hb hby at_13) rfl k) ?_
    show OwnEnds _ _ _ _ _ _ _ (T7.setTop (mkF m 14 #[.val (.int p0), .val (.int (3 : Int32)), .val (.ref w_EXPONENT), .unset] [(.int (3 : Int32))]))
    refine ogo (fun t k => XS.bipush X7.here hx rfl (hb hby at_14) k) ?_
    show OwnEnds _ _ _ _ _ _ _ (T7.setTop (mkF m 16 #[.val (.int p0), .val (.int (3 : Int32)), .val (.ref w_EXPONENT), .unset] [(.int (6 : Int32)), (.int (3 : Int32))]))
    refine ogo (fun t k => XS.icmpNo X7.here hx rfl (hb hby at_16) rfl (flt (by decide : ¬ ((6 : Int32) < (3 : Int32)))).2.2.1 k) ?_
    show OwnEnds _ _ _ _ _ _ _ (T7.setTop (mkF m 19 #[.val (.int p0), .val (.int (3 : Int32)), .val (.ref w_EXPONENT), .unset] []))
    refine ogo (fun t k => XS.iconst X7.here hx rfl (hb hby at_19) k) ?_
    show OwnEnds _ _ _ _ _ _ _ (T7.setTop (mkF m 20 #[.val (.int p0), .val (.int (3 : Int32)), .val (.ref w_EXPONENT), .unset] [(.int (1 : Int32))]))
    refine ogo (fun t k => XS.goto X7.here hx rfl (pc0 := 20) (pc' := 24) rfl (hb hby at_20) (by decide) (by decide) k) ?_
    show OwnEnds _ _ _ _ _ _ _ (T7.setTop (mkF m 24 #[.val (.int p0), .val (.int (3 : Int32)), .val (.ref w_EXPONENT), .unset] [(.int (1 : Int32))]))
    refine ogo (fun t k => XS.istoreN X7.here hx rfl (hb hby at_24) rfl (l' := #[.val (.int p0), .val (.int (3 : Int32)), .val (.ref w_EXPONENT), .val (.int (1 : Int32))]) rfl k) ?_
    show OwnEnds _ _ _ _ _ _ _ (T7.setTop (mkF m 25 #[.val (.int p0), .val (.int (3 : Int32)), .val (.ref w_EXPONENT), .val (.int (1 : Int32))] []))
    refine ogo (fun t k => XS.aloadN X7.here hx rfl (hb hby at_25) rfl rfl k) ?_
    show OwnEnds _ _ _ _ _ _ _ (T7.setTop (mkF m 26 #[.val (.int p0), .val (.int (3 : Int32)), .val (.ref w_EXPONENT), .val (.int (1 : Int32))] [(.ref w_EXPONENT)]))
    obtain ⟨cq8, kq8, q8a, q8b, q8c⟩ := isOf hZ e7 E_EXPONENT
    obtain ⟨v8, _, ⟨T8, L8, k8, n8⟩, -, X8, ⟨Lc8, hQ8, l8, y8, z8⟩, st8⟩ := X7.virtualBack hx (y := (⟨"com/example/opaque_token/opaquetoken/token/ObjectType", "storesValue", "()Z"⟩ : MethodName)) (z := (⟨"com/example/opaque_token/opaquetoken/token/ObjectType", "storesValue", "()Z"⟩ : MethodName)) hown (mvT hZ (hw _ (List.mem_of_getElem? (i := 8) rfl))) (mvT hZ (hw _ (List.mem_of_getElem? (i := 9) rfl))) (notFace_of_selects (args := #[]) (mvT hZ (hw _ (List.mem_of_getElem? (i := 11) rfl)))) (mvT hZ (hw _ (List.mem_of_getElem? (i := 11) rfl))) (mvT hZ (hw _ (List.mem_of_getElem? (i := 10) rfl))) (by decide) (backOf (W := 0) (rm2 l Z a0 hw [] w_EXPONENT w_ROM_DATA w_RANDOM_FILL h0 n0 Z0 S_ROM_DATA S_RANDOM_FILL) hZ (hw _ (List.mem_of_getElem? (i := 12) rfl)) (hw _ (List.mem_of_getElem? (i := 6) rfl)) (by decide) (by decide)) q8a q8c (g := (mkF m 26 #[.val (.int p0), .val (.int (3 : Int32)), .val (.ref w_EXPONENT), .val (.int (1 : Int32))] [(.ref w_EXPONENT)])) rfl (by rw [hml]; rfl) (Steps.refl _) (argsL := []) (rest := []) (lenOf pd___Z rfl) rfl (by show 2 * 0 + _ ≤ _; exact Nat.le_of_eq rfl) (hb hby at_26) (fun _ _ => ⟨rfl, e7, (by decide : 0 + 0 ≤ _), (by decide : 0 + 0 ≤ _)⟩)
    dsimp only [Pt.U, Pt.locs, Pt.cells, Pt.slots] at X8 l8 y8 z8 st8 hQ8
    subst l8 y8 z8
    obtain ⟨hv8, N8q, e8⟩ := hQ8
    obtain rfl : v8 = some (.int (1 : Int32)) := hv8.trans (by simp [(Fld.ne F_ordinal_EXPONENT F_ordinal_ROM_DATA (by simp)), (Fld.ne F_ordinal_EXPONENT F_ordinal_RANDOM_FILL (by simp))])
    have N8 := Fr.app N7 N8q
    refine ogo (fun t k => st8.trans k) ?_
    show OwnEnds _ _ _ _ _ _ _ (T8.setTop (mkF m 29 #[.val (.int p0), .val (.int (3 : Int32)), .val (.ref w_EXPONENT), .val (.int (1 : Int32))] [(.int (1 : Int32))]))
    refine ogo (fun t k => XS.iloadN X8.here hx rfl (hb hby at_29) rfl k) ?_
    show OwnEnds _ _ _ _ _ _ _ (T8.setTop (mkF m 30 #[.val (.int p0), .val (.int (3 : Int32)), .val (.ref w_EXPONENT), .val (.int (1 : Int32))] [(.int (1 : Int32)), (.int (1 : Int32))]))
    refine ogo (fun t k => XS.icmpNo X8.here hx rfl (hb hby at_30) rfl (teq (by decide : (1 : Int32) = (1 : Int32))).2 k) ?_
    show OwnEnds _ _ _ _ _ _ _ (T8.setTop (mkF m 33 #[.val (.int p0), .val (.int (3 : Int32)), .val (.ref w_EXPONENT), .val (.int (1 : Int32))] []))
    refine ogo (fun t k => XS.iconst X8.here hx rfl (hb hby at_33) k) ?_
    show OwnEnds _ _ _ _ _ _ _ (T8.setTop (mkF m 34 #[.val (.int p0), .val (.int (3 : Int32)), .val (.ref w_EXPONENT), .val (.int (1 : Int32))] [(.int (1 : Int32))]))
    refine ogo (fun t k => XS.goto X8.here hx rfl (pc0 := 34) (pc' := 38) rfl (hb hby at_34) (by decide) (by decide) k) ?_
    show OwnEnds _ _ _ _ _ _ _ (T8.setTop (mkF m 38 #[.val (.int p0), .val (.int (3 : Int32)), .val (.ref w_EXPONENT), .val (.int (1 : Int32))] [(.int (1 : Int32))]))
    refine endZ X8 hx hlk Bd.returns rfl (hb hby at_38) (by decide) (by decide) ?_
    show Q0 Z p0 w_INPUT_DATA w_ROM_DATA w_RANDOM_FILL w_EXPONENT w_CONFIGURATION w_OUTPUT_DATA w_MODULUS w_CLOCK_OFFSET w_COUNTER h0 n0 _ T8.heap _
    rw [e8]
    exact ⟨rfl, N8⟩
  · show OwnEnds _ _ _ _ _ _ _ (s₁.setTop (mkF m 7 #[.val (.int p0), .unset, .unset, .unset] [(.int (4 : Int32))]))
    refine ogo (fun t k => XS.istoreN X0.here hx rfl (hb hby at_7) rfl (l' := #[.val (.int p0), .val (.int (4 : Int32)), .unset, .unset]) rfl k) ?_
    show OwnEnds _ _ _ _ _ _ _ (s₁.setTop (mkF m 8 #[.val (.int p0), .val (.int (4 : Int32)), .unset, .unset] []))
    refine ogo (fun t k => XS.iloadN X0.here hx rfl (hb hby at_8) rfl k) ?_
    show OwnEnds _ _ _ _ _ _ _ (s₁.setTop (mkF m 9 #[.val (.int p0), .val (.int (4 : Int32)), .unset, .unset] [(.int (4 : Int32))]))
    obtain ⟨v9, _, ⟨T9, L9, k9, n9⟩, -, X9, ⟨Lc9, hQ9, l9, y9, z9⟩, st9⟩ := Jvm.LawKit.callS X0 hx (y := (⟨"com/example/opaque_token/opaquetoken/token/ObjectTypeStoresValuePinLaw", "pick", "(I)Lcom/example/opaque_token/opaquetoken/token/ObjectType;"⟩ : MethodName)) hown (mvT hZ (hw _ (List.mem_of_getElem? (i := 1) rfl))) (mvT hZ (hw _ (List.mem_of_getElem? (i := 2) rfl))) (mvT hZ (hw _ (List.mem_of_getElem? (i := 3) rfl))) (mvT hZ (hw _ (List.mem_of_getElem? (i := 4) rfl))) (by decide) (backOf (W := 0) (rm1 l Z a0 hw [] (4 : Int32) w_INPUT_DATA w_OUTPUT_DATA w_CONFIGURATION w_EXPONENT w_MODULUS w_COUNTER w_CLOCK_OFFSET w_ROM_DATA w_RANDOM_FILL h0 n0 Z0 S_INPUT_DATA S_OUTPUT_DATA S_CONFIGURATION S_EXPONENT S_MODULUS S_COUNTER S_CLOCK_OFFSET S_ROM_DATA S_RANDOM_FILL) hZ (hw _ (List.mem_of_getElem? (i := 4) rfl)) (hw _ (List.mem_of_getElem? (i := 3) rfl)) (by decide) (by decide)) (g := (mkF m 9 #[.val (.int p0), .val (.int (4 : Int32)), .unset, .unset] [(.int (4 : Int32))])) rfl (by rw [hml]; rfl) (argsL := [(.int (4 : Int32))]) (rest := []) (lenOf pd_e6b9a279 rfl) rfl (by show 2 * 0 + _ ≤ _; exact Nat.le_of_eq rfl) (hb hby at_9) (fun _ _ => ⟨rfl, e0, (by decide : 0 + 0 ≤ _), (by decide : 0 + 0 ≤ _)⟩)
    dsimp only [Pt.U, Pt.locs, Pt.cells, Pt.slots] at X9 l9 y9 z9 st9 hQ9
    subst l9 y9 z9
    obtain ⟨hv9, N9q, e9⟩ := hQ9
    obtain rfl : v9 = some (.ref w_MODULUS) := hv9.trans (by simp [own_pick])
    have N9 := Fr.app N0 N9q
    refine ogo (fun t k => st9 t k) ?_
    show OwnEnds _ _ _ _ _ _ _ (T9.setTop (mkF m 12 #[.val (.int p0), .val (.int (4 : Int32)), .unset, .unset] [(.ref w_MODULUS)]))
    refine ogo (fun t k => XS.astoreN X9.here hx rfl (hb hby at_12) rfl rfl (l' := #[.val (.int p0), .val (.int (4 : Int32)), .val (.ref w_MODULUS), .unset]) rfl k) ?_
    show OwnEnds _ _ _ _ _ _ _ (T9.setTop (mkF m 13 #[.val (.int p0), .val (.int (4 : Int32)), .val (.ref w_MODULUS), .unset] []))
    refine ogo (fun t k => XS.iloadN X9.here hx rfl (hb hby at_13) rfl k) ?_
    show OwnEnds _ _ _ _ _ _ _ (T9.setTop (mkF m 14 #[.val (.int p0), .val (.int (4 : Int32)), .val (.ref w_MODULUS), .unset] [(.int (4 : Int32))]))
    refine ogo (fun t k => XS.bipush X9.here hx rfl (hb hby at_14) k) ?_
    show OwnEnds _ _ _ _ _ _ _ (T9.setTop (mkF m 16 #[.val (.int p0), .val (.int (4 : Int32)), .val (.ref w_MODULUS), .unset] [(.int (6 : Int32)), (.int (4 : Int32))]))
    refine ogo (fun t k => XS.icmpNo X9.here hx rfl (hb hby at_16) rfl (flt (by decide : ¬ ((6 : Int32) < (4 : Int32)))).2.2.1 k) ?_
    show OwnEnds _ _ _ _ _ _ _ (T9.setTop (mkF m 19 #[.val (.int p0), .val (.int (4 : Int32)), .val (.ref w_MODULUS), .unset] []))
    refine ogo (fun t k => XS.iconst X9.here hx rfl (hb hby at_19) k) ?_
    show OwnEnds _ _ _ _ _ _ _ (T9.setTop (mkF m 20 #[.val (.int p0), .val (.int (4 : Int32)), .val (.ref w_MODULUS), .unset] [(.int (1 : Int32))]))
    refine ogo (fun t k => XS.goto X9.here hx rfl (pc0 := 20) (pc' := 24) rfl (hb hby at_20) (by decide) (by decide) k) ?_
    show OwnEnds _ _ _ _ _ _ _ (T9.setTop (mkF m 24 #[.val (.int p0), .val (.int (4 : Int32)), .val (.ref w_MODULUS), .unset] [(.int (1 : Int32))]))
    refine ogo (fun t k => XS.istoreN X9.here hx rfl (hb hby at_24) rfl (l' := #[.val (.int p0), .val (.int (4 : Int32)), .val (.ref w_MODULUS), .val (.int (1 : Int32))]) rfl k) ?_
    show OwnEnds _ _ _ _ _ _ _ (T9.setTop (mkF m 25 #[.val (.int p0), .val (.int (4 : Int32)), .val (.ref w_MODULUS), .val (.int (1 : Int32))] []))
    refine ogo (fun t k => XS.aloadN X9.here hx rfl (hb hby at_25) rfl rfl k) ?_
    show OwnEnds _ _ _ _ _ _ _ (T9.setTop (mkF m 26 #[.val (.int p0), .val (.int (4 : Int32)), .val (.ref w_MODULUS), .val (.int (1 : Int32))] [(.ref w_MODULUS)]))
    obtain ⟨cq10, kq10, q10a, q10b, q10c⟩ := isOf hZ e9 E_MODULUS
    obtain ⟨v10, _, ⟨T10, L10, k10, n10⟩, -, X10, ⟨Lc10, hQ10, l10, y10, z10⟩, st10⟩ := X9.virtualBack hx (y := (⟨"com/example/opaque_token/opaquetoken/token/ObjectType", "storesValue", "()Z"⟩ : MethodName)) (z := (⟨"com/example/opaque_token/opaquetoken/token/ObjectType", "storesValue", "()Z"⟩ : MethodName)) hown (mvT hZ (hw _ (List.mem_of_getElem? (i := 8) rfl))) (mvT hZ (hw _ (List.mem_of_getElem? (i := 9) rfl))) (notFace_of_selects (args := #[]) (mvT hZ (hw _ (List.mem_of_getElem? (i := 11) rfl)))) (mvT hZ (hw _ (List.mem_of_getElem? (i := 11) rfl))) (mvT hZ (hw _ (List.mem_of_getElem? (i := 10) rfl))) (by decide) (backOf (W := 0) (rm2 l Z a0 hw [] w_MODULUS w_ROM_DATA w_RANDOM_FILL h0 n0 Z0 S_ROM_DATA S_RANDOM_FILL) hZ (hw _ (List.mem_of_getElem? (i := 12) rfl)) (hw _ (List.mem_of_getElem? (i := 6) rfl)) (by decide) (by decide)) q10a q10c (g := (mkF m 26 #[.val (.int p0), .val (.int (4 : Int32)), .val (.ref w_MODULUS), .val (.int (1 : Int32))] [(.ref w_MODULUS)])) rfl (by rw [hml]; rfl) (Steps.refl _) (argsL := []) (rest := []) (lenOf pd___Z rfl) rfl (by show 2 * 0 + _ ≤ _; exact Nat.le_of_eq rfl) (hb hby at_26) (fun _ _ => ⟨rfl, e9, (by decide : 0 + 0 ≤ _), (by decide : 0 + 0 ≤ _)⟩)
    dsimp only [Pt.U, Pt.locs, Pt.cells, Pt.slots] at X10 l10 y10 z10 st10 hQ10
    subst l10 y10 z10
    obtain ⟨hv10, N10q, e10⟩ := hQ10
    obtain rfl : v10 = some (.int (1 : Int32)) := hv10.trans (by simp [(Fld.ne F_ordinal_MODULUS F_ordinal_ROM_DATA (by simp)), (Fld.ne F_ordinal_MODULUS F_ordinal_RANDOM_FILL (by simp))])
    have N10 := Fr.app N9 N10q
    refine ogo (fun t k => st10.trans k) ?_
    show OwnEnds _ _ _ _ _ _ _ (T10.setTop (mkF m 29 #[.val (.int p0), .val (.int (4 : Int32)), .val (.ref w_MODULUS), .val (.int (1 : Int32))] [(.int (1 : Int32))]))
    refine ogo (fun t k => XS.iloadN X10.here hx rfl (hb hby at_29) rfl k) ?_
    show OwnEnds _ _ _ _ _ _ _ (T10.setTop (mkF m 30 #[.val (.int p0), .val (.int (4 : Int32)), .val (.ref w_MODULUS), .val (.int (1 : Int32))] [(.int (1 : Int32)), (.int (1 : Int32))]))
    refine ogo (fun t k => XS.icmpNo X10.here hx rfl (hb hby at_30) rfl (teq (by decide : (1 : Int32) = (1 : Int32))).2 k) ?_
    show OwnEnds _ _ _ _ _ _ _ (T10.setTop (mkF m 33 #[.val (.int p0), .val (.int (4 : Int32)), .val (.ref w_MODULUS), .val (.int (1 : Int32))] []))
    refine ogo (fun t k => XS.iconst X10.here hx rfl (hb hby at_33) k) ?_
    show OwnEnds _ _ _ _ _ _ _ (T10.setTop (mkF m 34 #[.val (.int p0), .val (.int (4 : Int32)), .val (.ref w_MODULUS), .val (.int (1 : Int32))] [(.int (1 : Int32))]))
    refine ogo (fun t k => XS.goto X10.here hx rfl (pc0 := 34) (pc' := 38) rfl (hb hby at_34) (by decide) (by decide) k) ?_
    show OwnEnds _ _ _ _ _ _ _ (T10.setTop (mkF m 38 #[.val (.int p0), .val (.int (4 : Int32)), .val (.ref w_MODULUS), .val (.int (1 : Int32))] [(.int (1 : Int32))]))
    refine endZ X10 hx hlk Bd.returns rfl (hb hby at_38) (by decide) (by decide) ?_
    show Q0 Z p0 w_INPUT_DATA w_ROM_DATA w_RANDOM_FILL w_EXPONENT w_CONFIGURATION w_OUTPUT_DATA w_MODULUS w_CLOCK_OFFSET w_COUNTER h0 n0 _ T10.heap _
    rw [e10]
    exact ⟨rfl, N10⟩
  · show OwnEnds _ _ _ _ _ _ _ (s₁.setTop (mkF m 7 #[.val (.int p0), .unset, .unset, .unset] [(.int (5 : Int32))]))
    refine ogo (fun t k => XS.istoreN X0.here hx rfl (hb hby at_7) rfl (l' := #[.val (.int p0), .val (.int (5 : Int32)), .unset, .unset]) rfl k) ?_
    show OwnEnds _ _ _ _ _ _ _ (s₁.setTop (mkF m 8 #[.val (.int p0), .val (.int (5 : Int32)), .unset, .unset] []))
    refine ogo (fun t k => XS.iloadN X0.here hx rfl (hb hby at_8) rfl k) ?_
    show OwnEnds _ _ _ _ _ _ _ (s₁.setTop (mkF m 9 #[.val (.int p0), .val (.int (5 : Int32)), .unset, .unset] [(.int (5 : Int32))]))
    obtain ⟨v11, _, ⟨T11, L11, k11, n11⟩, -, X11, ⟨Lc11, hQ11, l11, y11, z11⟩, st11⟩ := Jvm.LawKit.callS X0 hx (y := (⟨"com/example/opaque_token/opaquetoken/token/ObjectTypeStoresValuePinLaw", "pick", "(I)Lcom/example/opaque_token/opaquetoken/token/ObjectType;"⟩ : MethodName)) hown (mvT hZ (hw _ (List.mem_of_getElem? (i := 1) rfl))) (mvT hZ (hw _ (List.mem_of_getElem? (i := 2) rfl))) (mvT hZ (hw _ (List.mem_of_getElem? (i := 3) rfl))) (mvT hZ (hw _ (List.mem_of_getElem? (i := 4) rfl))) (by decide) (backOf (W := 0) (rm1 l Z a0 hw [] (5 : Int32) w_INPUT_DATA w_OUTPUT_DATA w_CONFIGURATION w_EXPONENT w_MODULUS w_COUNTER w_CLOCK_OFFSET w_ROM_DATA w_RANDOM_FILL h0 n0 Z0 S_INPUT_DATA S_OUTPUT_DATA S_CONFIGURATION S_EXPONENT S_MODULUS S_COUNTER S_CLOCK_OFFSET S_ROM_DATA S_RANDOM_FILL) hZ (hw _ (List.mem_of_getElem? (i := 4) rfl)) (hw _ (List.mem_of_getElem? (i := 3) rfl)) (by decide) (by decide)) (g := (mkF m 9 #[.val (.int p0), .val (.int (5 : Int32)), .unset, .unset] [(.int (5 : Int32))])) rfl (by rw [hml]; rfl) (argsL := [(.int (5 : Int32))]) (rest := []) (lenOf pd_e6b9a279 rfl) rfl (by show 2 * 0 + _ ≤ _; exact Nat.le_of_eq rfl) (hb hby at_9) (fun _ _ => ⟨rfl, e0, (by decide : 0 + 0 ≤ _), (by decide : 0 + 0 ≤ _)⟩)
    dsimp only [Pt.U, Pt.locs, Pt.cells, Pt.slots] at X11 l11 y11 z11 st11 hQ11
    subst l11 y11 z11
    obtain ⟨hv11, N11q, e11⟩ := hQ11
    obtain rfl : v11 = some (.ref w_COUNTER) := hv11.trans (by simp [own_pick])
    have N11 := Fr.app N0 N11q
    refine ogo (fun t k => st11 t k) ?_
    show OwnEnds _ _ _ _ _ _ _ (T11.setTop (mkF m 12 #[.val (.int p0), .val (.int (5 : Int32)), .unset, .unset] [(.ref w_COUNTER)]))
    refine ogo (fun t k => XS.astoreN X11.here hx rfl (hb hby at_12) rfl rfl (l' := #[.val (.int p0), .val (.int (5 : Int32)), .val (.ref w_COUNTER), .unset]) rfl k) ?_
    show OwnEnds _ _ _ _ _ _ _ (T11.setTop (mkF m 13 #[.val (.int p0), .val (.int (5 : Int32)), .val (.ref w_COUNTER), .unset] []))
    refine ogo (fun t k => XS.iloadN X11.here hx rfl (hb hby at_13) rfl k) ?_
    show OwnEnds _ _ _ _ _ _ _ (T11.setTop (mkF m 14 #[.val (.int p0), .val (.int (5 : Int32)), .val (.ref w_COUNTER), .unset] [(.int (5 : Int32))]))
    refine ogo (fun t k => XS.bipush X11.here hx rfl (hb hby at_14) k) ?_
    show OwnEnds _ _ _ _ _ _ _ (T11.setTop (mkF m 16 #[.val (.int p0), .val (.int (5 : Int32)), .val (.ref w_COUNTER), .unset] [(.int (6 : Int32)), (.int (5 : Int32))]))
    refine ogo (fun t k => XS.icmpNo X11.here hx rfl (hb hby at_16) rfl (flt (by decide : ¬ ((6 : Int32) < (5 : Int32)))).2.2.1 k) ?_
    show OwnEnds _ _ _ _ _ _ _ (T11.setTop (mkF m 19 #[.val (.int p0), .val (.int (5 : Int32)), .val (.ref w_COUNTER), .unset] []))
    refine ogo (fun t k => XS.iconst X11.here hx rfl (hb hby at_19) k) ?_
    show OwnEnds _ _ _ _ _ _ _ (T11.setTop (mkF m 20 #[.val (.int p0), .val (.int (5 : Int32)), .val (.ref w_COUNTER), .unset] [(.int (1 : Int32))]))
    refine ogo (fun t k => XS.goto X11.here hx rfl (pc0 := 20) (pc' := 24) rfl (hb hby at_20) (by decide) (by decide) k) ?_
    show OwnEnds _ _ _ _ _ _ _ (T11.setTop (mkF m 24 #[.val (.int p0), .val (.int (5 : Int32)), .val (.ref w_COUNTER), .unset] [(.int (1 : Int32))]))
    refine ogo (fun t k => XS.istoreN X11.here hx rfl (hb hby at_24) rfl (l' := #[.val (.int p0), .val (.int (5 : Int32)), .val (.ref w_COUNTER), .val (.int (1 : Int32))]) rfl k) ?_
    show OwnEnds _ _ _ _ _ _ _ (T11.setTop (mkF m 25 #[.val (.int p0), .val (.int (5 : Int32)), .val (.ref w_COUNTER), .val (.int (1 : Int32))] []))
    refine ogo (fun t k => XS.aloadN X11.here hx rfl (hb hby at_25) rfl rfl k) ?_
    show OwnEnds _ _ _ _ _ _ _ (T11.setTop (mkF m 26 #[.val (.int p0), .val (.int (5 : Int32)), .val (.ref w_COUNTER), .val (.int (1 : Int32))] [(.ref w_COUNTER)]))
    obtain ⟨cq12, kq12, q12a, q12b, q12c⟩ := isOf hZ e11 E_COUNTER
    obtain ⟨v12, _, ⟨T12, L12, k12, n12⟩, -, X12, ⟨Lc12, hQ12, l12, y12, z12⟩, st12⟩ := X11.virtualBack hx (y := (⟨"com/example/opaque_token/opaquetoken/token/ObjectType", "storesValue", "()Z"⟩ : MethodName)) (z := (⟨"com/example/opaque_token/opaquetoken/token/ObjectType", "storesValue", "()Z"⟩ : MethodName)) hown (mvT hZ (hw _ (List.mem_of_getElem? (i := 8) rfl))) (mvT hZ (hw _ (List.mem_of_getElem? (i := 9) rfl))) (notFace_of_selects (args := #[]) (mvT hZ (hw _ (List.mem_of_getElem? (i := 11) rfl)))) (mvT hZ (hw _ (List.mem_of_getElem? (i := 11) rfl))) (mvT hZ (hw _ (List.mem_of_getElem? (i := 10) rfl))) (by decide) (backOf (W := 0) (rm2 l Z a0 hw [] w_COUNTER w_ROM_DATA w_RANDOM_FILL h0 n0 Z0 S_ROM_DATA S_RANDOM_FILL) hZ (hw _ (List.mem_of_getElem? (i := 12) rfl)) (hw _ (List.mem_of_getElem? (i := 6) rfl)) (by decide) (by decide)) q12a q12c (g := (mkF m 26 #[.val (.int p0), .val (.int (5 : Int32)), .val (.ref w_COUNTER), .val (.int (1 : Int32))] [(.ref w_COUNTER)])) rfl (by rw [hml]; rfl) (Steps.refl _) (argsL := []) (rest := []) (lenOf pd___Z rfl) rfl (by show 2 * 0 + _ ≤ _; exact Nat.le_of_eq rfl) (hb hby at_26) (fun _ _ => ⟨rfl, e11, (by decide : 0 + 0 ≤ _), (by decide : 0 + 0 ≤ _)⟩)
    dsimp only [Pt.U, Pt.locs, Pt.cells, Pt.slots] at X12 l12 y12 z12 st12 hQ12
    subst l12 y12 z12
    obtain ⟨hv12, N12q, e12⟩ := hQ12
    obtain rfl : v12 = some (.int (1 : Int32)) := hv12.trans (by simp [(Fld.ne F_ordinal_COUNTER F_ordinal_ROM_DATA (by simp)), (Fld.ne F_ordinal_COUNTER F_ordinal_RANDOM_FILL (by simp))])
    have N12 := Fr.app N11 N12q
    refine ogo (fun t k => st12.trans k) ?_
    show OwnEnds _ _ _ _ _ _ _ (T12.setTop (mkF m 29 #[.val (.int p0), .val (.int (5 : Int32)), .val (.ref w_COUNTER), .val (.int (1 : Int32))] [(.int (1 : Int32))]))
    refine ogo (fun t k => XS.iloadN X12.here hx rfl (hb hby at_29) rfl k) ?_
    show OwnEnds _ _ _ _ _ _ _ (T12.setTop (mkF m 30 #[.val (.int p0), .val (.int (5 : Int32)), .val (.ref w_COUNTER), .val (.int (1 : Int32))] [(.int (1 : Int32)), (.int (1 : Int32))]))
    refine ogo (fun t k => XS.icmpNo X12.here hx rfl (hb hby at_30) rfl (teq (by decide : (1 : Int32) = (1 : Int32))).2 k) ?_
    show OwnEnds _ _ _ _ _ _ _ (T12.setTop (mkF m 33 #[.val (.int p0), .val (.int (5 : Int32)), .val (.ref w_COUNTER), .val (.int (1 : Int32))] []))
    refine ogo (fun t k => XS.iconst X12.here hx rfl (hb hby at_33) k) ?_
    show OwnEnds _ _ _ _ _ _ _ (T12.setTop (mkF m 34 #[.val (.int p0), .val (.int (5 : Int32)), .val (.ref w_COUNTER), .val (.int (1 : Int32))] [(.int (1 : Int32))]))
    refine ogo (fun t k => XS.goto X12.here hx rfl (pc0 := 34) (pc' := 38) rfl (hb hby at_34) (by decide) (by decide) k) ?_
    show OwnEnds _ _ _ _ _ _ _ (T12.setTop (mkF m 38 #[.val (.int p0), .val (.int (5 : Int32)), .val (.ref w_COUNTER), .val (.int (1 : Int32))] [(.int (1 : Int32))]))
    refine endZ X12 hx hlk Bd.returns rfl (hb hby at_38) (by decide) (by decide) ?_
    show Q0 Z p0 w_INPUT_DATA w_ROM_DATA w_RANDOM_FILL w_EXPONENT w_CONFIGURATION w_OUTPUT_DATA w_MODULUS w_CLOCK_OFFSET w_COUNTER h0 n0 _ T12.heap _
    rw [e12]
    exact ⟨rfl, N12⟩
  · show OwnEnds _ _ _ _ _ _ _ (s₁.setTop (mkF m 7 #[.val (.int p0), .unset, .unset, .unset] [(.int (6 : Int32))]))
    refine ogo (fun t k => XS.istoreN X0.here hx rfl (hb hby at_7) rfl (l' := #[.val (.int p0), .val (.int (6 : Int32)), .unset, .unset]) rfl k) ?_
    show OwnEnds _ _ _ _ _ _ _ (s₁.setTop (mkF m 8 #[.val (.int p0), .val (.int (6 : Int32)), .unset, .unset] []))
    refine ogo (fun t k => XS.iloadN X0.here hx rfl (hb hby at_8) rfl k) ?_
    show OwnEnds _ _ _ _ _ _ _ (s₁.setTop (mkF m 9 #[.val (.int p0), .val (.int (6 : Int32)), .unset, .unset] [(.int (6 : Int32))]))
    obtain ⟨v13, _, ⟨T13, L13, k13, n13⟩, -, X13, ⟨Lc13, hQ13, l13, y13, z13⟩, st13⟩ := Jvm.LawKit.callS X0 hx (y := (⟨"com/example/opaque_token/opaquetoken/token/ObjectTypeStoresValuePinLaw", "pick", "(I)Lcom/example/opaque_token/opaquetoken/token/ObjectType;"⟩ : MethodName)) hown (mvT hZ (hw _ (List.mem_of_getElem? (i := 1) rfl))) (mvT hZ (hw _ (List.mem_of_getElem? (i := 2) rfl))) (mvT hZ (hw _ (List.mem_of_getElem? (i := 3) rfl))) (mvT hZ (hw _ (List.mem_of_getElem? (i := 4) rfl))) (by decide) (backOf (W := 0) (rm1 l Z a0 hw [] (6 : Int32) w_INPUT_DATA w_OUTPUT_DATA w_CONFIGURATION w_EXPONENT w_MODULUS w_COUNTER w_CLOCK_OFFSET w_ROM_DATA w_RANDOM_FILL h0 n0 Z0 S_INPUT_DATA S_OUTPUT_DATA S_CONFIGURATION S_EXPONENT S_MODULUS S_COUNTER S_CLOCK_OFFSET S_ROM_DATA S_RANDOM_FILL) hZ (hw _ (List.mem_of_getElem? (i := 4) rfl)) (hw _ (List.mem_of_getElem? (i := 3) rfl)) (by decide) (by decide)) (g := (mkF m 9 #[.val (.int p0), .val (.int (6 : Int32)), .unset, .unset] [(.int (6 : Int32))])) rfl (by rw [hml]; rfl) (argsL := [(.int (6 : Int32))]) (rest := []) (lenOf pd_e6b9a279 rfl) rfl (by show 2 * 0 + _ ≤ _; exact Nat.le_of_eq rfl) (hb hby at_9) (fun _ _ => ⟨rfl, e0, (by decide : 0 + 0 ≤ _), (by decide : 0 + 0 ≤ _)⟩)
    dsimp only [Pt.U, Pt.locs, Pt.cells, Pt.slots] at X13 l13 y13 z13 st13 hQ13
    subst l13 y13 z13
    obtain ⟨hv13, N13q, e13⟩ := hQ13
    obtain rfl : v13 = some (.ref w_CLOCK_OFFSET) := hv13.trans (by simp [own_pick])
    have N13 := Fr.app N0 N13q
    refine ogo (fun t k => st13 t k) ?_
    show OwnEnds _ _ _ _ _ _ _ (T13.setTop (mkF m 12 #[.val (.int p0), .val (.int (6 : Int32)), .unset, .unset] [(.ref w_CLOCK_OFFSET)]))
    refine ogo (fun t k => XS.astoreN X13.here hx rfl (hb hby at_12) rfl rfl (l' := #[.val (.int p0), .val (.int (6 : Int32)), .val (.ref w_CLOCK_OFFSET), .unset]) rfl k) ?_
    show OwnEnds _ _ _ _ _ _ _ (T13.setTop (mkF m 13 #[.val (.int p0), .val (.int (6 : Int32)), .val (.ref w_CLOCK_OFFSET), .unset] []))
    refine ogo (fun t k => XS.iloadN X13.here hx rfl (hb hby at_13) rfl k) ?_
    show OwnEnds _ _ _ _ _ _ _ (T13.setTop (mkF m 14 #[.val (.int p0), .val (.int (6 : Int32)), .val (.ref w_CLOCK_OFFSET), .unset] [(.int (6 : Int32))]))
    refine ogo (fun t k => XS.bipush X13.here hx rfl (hb hby at_14) k) ?_
    show OwnEnds _ _ _ _ _ _ _ (T13.setTop (mkF m 16 #[.val (.int p0), .val (.int (6 : Int32)), .val (.ref w_CLOCK_OFFSET), .unset] [(.int (6 : Int32)), (.int (6 : Int32))]))
    refine ogo (fun t k => XS.icmpNo X13.here hx rfl (hb hby at_16) rfl (flt (by decide : ¬ ((6 : Int32) < (6 : Int32)))).2.2.1 k) ?_
    show OwnEnds _ _ _ _ _ _ _ (T13.setTop (mkF m 19 #[.val (.int p0), .val (.int (6 : Int32)), .val (.ref w_CLOCK_OFFSET), .unset] []))
    refine ogo (fun t k => XS.iconst X13.here hx rfl (hb hby at_19) k) ?_
    show OwnEnds _ _ _ _ _ _ _ (T13.setTop (mkF m 20 #[.val (.int p0), .val (.int (6 : Int32)), .val (.ref w_CLOCK_OFFSET), .unset] [(.int (1 : Int32))]))
    refine ogo (fun t k => XS.goto X13.here hx rfl (pc0 := 20) (pc' := 24) rfl (hb hby at_20) (by decide) (by decide) k) ?_
    show OwnEnds _ _ _ _ _ _ _ (T13.setTop (mkF m 24 #[.val (.int p0), .val (.int (6 : Int32)), .val (.ref w_CLOCK_OFFSET), .unset] [(.int (1 : Int32))]))
    refine ogo (fun t k => XS.istoreN X13.here hx rfl (hb hby at_24) rfl (l' := #[.val (.int p0), .val (.int (6 : Int32)), .val (.ref w_CLOCK_OFFSET), .val (.int (1 : Int32))]) rfl k) ?_
    show OwnEnds _ _ _ _ _ _ _ (T13.setTop (mkF m 25 #[.val (.int p0), .val (.int (6 : Int32)), .val (.ref w_CLOCK_OFFSET), .val (.int (1 : Int32))] []))
    refine ogo (fun t k => XS.aloadN X13.here hx rfl (hb hby at_25) rfl rfl k) ?_
    show OwnEnds _ _ _ _ _ _ _ (T13.setTop (mkF m 26 #[.val (.int p0), .val (.int (6 : Int32)), .val (.ref w_CLOCK_OFFSET), .val (.int (1 : Int32))] [(.ref w_CLOCK_OFFSET)]))
    obtain ⟨cq14, kq14, q14a, q14b, q14c⟩ := isOf hZ e13 E_CLOCK_OFFSET
    obtain ⟨v14, _, ⟨T14, L14, k14, n14⟩, -, X14, ⟨Lc14, hQ14, l14, y14, z14⟩, st14⟩ := X13.virtualBack hx (y := (⟨"com/example/opaque_token/opaquetoken/token/ObjectType", "storesValue", "()Z"⟩ : MethodName)) (z := (⟨"com/example/opaque_token/opaquetoken/token/ObjectType", "storesValue", "()Z"⟩ : MethodName)) hown (mvT hZ (hw _ (List.mem_of_getElem? (i := 8) rfl))) (mvT hZ (hw _ (List.mem_of_getElem? (i := 9) rfl))) (notFace_of_selects (args := #[]) (mvT hZ (hw _ (List.mem_of_getElem? (i := 11) rfl)))) (mvT hZ (hw _ (List.mem_of_getElem? (i := 11) rfl))) (mvT hZ (hw _ (List.mem_of_getElem? (i := 10) rfl))) (by decide) (backOf (W := 0) (rm2 l Z a0 hw [] w_CLOCK_OFFSET w_ROM_DATA w_RANDOM_FILL h0 n0 Z0 S_ROM_DATA S_RANDOM_FILL) hZ (hw _ (List.mem_of_getElem? (i := 12) rfl)) (hw _ (List.mem_of_getElem? (i := 6) rfl)) (by decide) (by decide)) q14a q14c (g := (mkF m 26 #[.val (.int p0), .val (.int (6 : Int32)), .val (.ref w_CLOCK_OFFSET), .val (.int (1 : Int32))] [(.ref w_CLOCK_OFFSET)])) rfl (by rw [hml]; rfl) (Steps.refl _) (argsL := []) (rest := []) (lenOf pd___Z rfl) rfl (by show 2 * 0 + _ ≤ _; exact Nat.le_of_eq rfl) (hb hby at_26) (fun _ _ => ⟨rfl, e13, (by decide : 0 + 0 ≤ _), (by decide : 0 + 0 ≤ _)⟩)
    dsimp only [Pt.U, Pt.locs, Pt.cells, Pt.slots] at X14 l14 y14 z14 st14 hQ14
    subst l14 y14 z14
    obtain ⟨hv14, N14q, e14⟩ := hQ14
    obtain rfl : v14 = some (.int (1 : Int32)) := hv14.trans (by simp [(Fld.ne F_ordinal_CLOCK_OFFSET F_ordinal_ROM_DATA (by simp)), (Fld.ne F_ordinal_CLOCK_OFFSET F_ordinal_RANDOM_FILL (by simp))])
    have N14 := Fr.app N13 N14q
    refine ogo (fun t k => st14.trans k) ?_
    show OwnEnds _ _ _ _ _ _ _ (T14.setTop (mkF m 29 #[.val (.int p0), .val (.int (6 : Int32)), .val (.ref w_CLOCK_OFFSET), .val (.int (1 : Int32))] [(.int (1 : Int32))]))
    refine ogo (fun t k => XS.iloadN X14.here hx rfl (hb hby at_29) rfl k) ?_
    show OwnEnds _ _ _ _ _ _ _ (T14.setTop (mkF m 30 #[.val (.int p0), .val (.int (6 : Int32)), .val (.ref w_CLOCK_OFFSET), .val (.int (1 : Int32))] [(.int (1 : Int32)), (.int (1 : Int32))]))
    refine ogo (fun t k => XS.icmpNo X14.here hx rfl (hb hby at_30) rfl (teq (by decide : (1 : Int32) = (1 : Int32))).2 k) ?_
    show OwnEnds _ _ _ _ _ _ _ (T14.setTop (mkF m 33 #[.val (.int p0), .val (.int (6 : Int32)), .val (.ref w_CLOCK_OFFSET), .val (.int (1 : Int32))] []))
    refine ogo (fun t k => XS.iconst X14.here hx rfl (hb hby at_33) k) ?_
    show OwnEnds _ _ _ _ _ _ _ (T14.setTop (mkF m 34 #[.val (.int p0), .val (.int (6 : Int32)), .val (.ref w_CLOCK_OFFSET), .val (.int (1 : Int32))] [(.int (1 : Int32))]))
    refine ogo (fun t k => XS.goto X14.here hx rfl (pc0 := 34) (pc' := 38) rfl (hb hby at_34) (by decide) (by decide) k) ?_
    show OwnEnds _ _ _ _ _ _ _ (T14.setTop (mkF m 38 #[.val (.int p0), .val (.int (6 : Int32)), .val (.ref w_CLOCK_OFFSET), .val (.int (1 : Int32))] [(.int (1 : Int32))]))
    refine endZ X14 hx hlk Bd.returns rfl (hb hby at_38) (by decide) (by decide) ?_
    show Q0 Z p0 w_INPUT_DATA w_ROM_DATA w_RANDOM_FILL w_EXPONENT w_CONFIGURATION w_OUTPUT_DATA w_MODULUS w_CLOCK_OFFSET w_COUNTER h0 n0 _ T14.heap _
    rw [e14]
    exact ⟨rfl, N14⟩
  · show OwnEnds _ _ _ _ _ _ _ (s₁.setTop (mkF m 7 #[.val (.int p0), .unset, .unset, .unset] [(.int (7 : Int32))]))
    refine ogo (fun t k => XS.istoreN X0.here hx rfl (hb hby at_7) rfl (l' := #[.val (.int p0), .val (.int (7 : Int32)), .unset, .unset]) rfl k) ?_
    show OwnEnds _ _ _ _ _ _ _ (s₁.setTop (mkF m 8 #[.val (.int p0), .val (.int (7 : Int32)), .unset, .unset] []))
    refine ogo (fun t k => XS.iloadN X0.here hx rfl (hb hby at_8) rfl k) ?_
    show OwnEnds _ _ _ _ _ _ _ (s₁.setTop (mkF m 9 #[.val (.int p0), .val (.int (7 : Int32)), .unset, .unset] [(.int (7 : Int32))]))
    obtain ⟨v15, _, ⟨T15, L15, k15, n15⟩, -, X15, ⟨Lc15, hQ15, l15, y15, z15⟩, st15⟩ := Jvm.LawKit.callS X0 hx (y := (⟨"com/example/opaque_token/opaquetoken/token/ObjectTypeStoresValuePinLaw", "pick", "(I)Lcom/example/opaque_token/opaquetoken/token/ObjectType;"⟩ : MethodName)) hown (mvT hZ (hw _ (List.mem_of_getElem? (i := 1) rfl))) (mvT hZ (hw _ (List.mem_of_getElem? (i := 2) rfl))) (mvT hZ (hw _ (List.mem_of_getElem? (i := 3) rfl))) (mvT hZ (hw _ (List.mem_of_getElem? (i := 4) rfl))) (by decide) (backOf (W := 0) (rm1 l Z a0 hw [] (7 : Int32) w_INPUT_DATA w_OUTPUT_DATA w_CONFIGURATION w_EXPONENT w_MODULUS w_COUNTER w_CLOCK_OFFSET w_ROM_DATA w_RANDOM_FILL h0 n0 Z0 S_INPUT_DATA S_OUTPUT_DATA S_CONFIGURATION S_EXPONENT S_MODULUS S_COUNTER S_CLOCK_OFFSET S_ROM_DATA S_RANDOM_FILL) hZ (hw _ (List.mem_of_getElem? (i := 4) rfl)) (hw _ (List.mem_of_getElem? (i := 3) rfl)) (by decide) (by decide)) (g := (mkF m 9 #[.val (.int p0), .val (.int (7 : Int32)), .unset, .unset] [(.int (7 : Int32))])) rfl (by rw [hml]; rfl) (argsL := [(.int (7 : Int32))]) (rest := []) (lenOf pd_e6b9a279 rfl) rfl (by show 2 * 0 + _ ≤ _; exact Nat.le_of_eq rfl) (hb hby at_9) (fun _ _ => ⟨rfl, e0, (by decide : 0 + 0 ≤ _), (by decide : 0 + 0 ≤ _)⟩)
    dsimp only [Pt.U, Pt.locs, Pt.cells, Pt.slots] at X15 l15 y15 z15 st15 hQ15
    subst l15 y15 z15
    obtain ⟨hv15, N15q, e15⟩ := hQ15
    obtain rfl : v15 = some (.ref w_ROM_DATA) := hv15.trans (by simp [own_pick])
    have N15 := Fr.app N0 N15q
    refine ogo (fun t k => st15 t k) ?_
    show OwnEnds _ _ _ _ _ _ _ (T15.setTop (mkF m 12 #[.val (.int p0), .val (.int (7 : Int32)), .unset, .unset] [(.ref w_ROM_DATA)]))
    refine ogo (fun t k => XS.astoreN X15.here hx rfl (hb hby at_12) rfl rfl (l' := #[.val (.int p0), .val (.int (7 : Int32)), .val (.ref w_ROM_DATA), .unset]) rfl k) ?_
    show OwnEnds _ _ _ _ _ _ _ (T15.setTop (mkF m 13 #[.val (.int p0), .val (.int (7 : Int32)), .val (.ref w_ROM_DATA), .unset] []))
    refine ogo (fun t k => XS.iloadN X15.here hx rfl (hb hby at_13) rfl k) ?_
    show OwnEnds _ _ _ _ _ _ _ (T15.setTop (mkF m 14 #[.val (.int p0), .val (.int (7 : Int32)), .val (.ref w_ROM_DATA), .unset] [(.int (7 : Int32))]))
    refine ogo (fun t k => XS.bipush X15.here hx rfl (hb hby at_14) k) ?_
    show OwnEnds _ _ _ _ _ _ _ (T15.setTop (mkF m 16 #[.val (.int p0), .val (.int (7 : Int32)), .val (.ref w_ROM_DATA), .unset] [(.int (6 : Int32)), (.int (7 : Int32))]))
    refine ogo (fun t k => XS.icmpYes X15.here hx rfl (pc0 := 16) (pc' := 23) rfl (hb hby at_16) rfl (tlt (by decide : (6 : Int32) < (7 : Int32))).2.2.1 (by decide) (by decide) k) ?_
    show OwnEnds _ _ _ _ _ _ _ (T15.setTop (mkF m 23 #[.val (.int p0), .val (.int (7 : Int32)), .val (.ref w_ROM_DATA), .unset] []))
    refine ogo (fun t k => XS.iconst X15.here hx rfl (hb hby at_23) k) ?_
    show OwnEnds _ _ _ _ _ _ _ (T15.setTop (mkF m 24 #[.val (.int p0), .val (.int (7 : Int32)), .val (.ref w_ROM_DATA), .unset] [(.int (0 : Int32))]))
    refine ogo (fun t k => XS.istoreN X15.here hx rfl (hb hby at_24) rfl (l' := #[.val (.int p0), .val (.int (7 : Int32)), .val (.ref w_ROM_DATA), .val (.int (0 : Int32))]) rfl k) ?_
    show OwnEnds _ _ _ _ _ _ _ (T15.setTop (mkF m 25 #[.val (.int p0), .val (.int (7 : Int32)), .val (.ref w_ROM_DATA), .val (.int (0 : Int32))] []))
    refine ogo (fun t k => XS.aloadN X15.here hx rfl (hb hby at_25) rfl rfl k) ?_
    show OwnEnds _ _ _ _ _ _ _ (T15.setTop (mkF m 26 #[.val (.int p0), .val (.int (7 : Int32)), .val (.ref w_ROM_DATA), .val (.int (0 : Int32))] [(.ref w_ROM_DATA)]))
    obtain ⟨cq16, kq16, q16a, q16b, q16c⟩ := isOf hZ e15 E_ROM_DATA
    obtain ⟨v16, _, ⟨T16, L16, k16, n16⟩, -, X16, ⟨Lc16, hQ16, l16, y16, z16⟩, st16⟩ := X15.virtualBack hx (y := (⟨"com/example/opaque_token/opaquetoken/token/ObjectType", "storesValue", "()Z"⟩ : MethodName)) (z := (⟨"com/example/opaque_token/opaquetoken/token/ObjectType", "storesValue", "()Z"⟩ : MethodName)) hown (mvT hZ (hw _ (List.mem_of_getElem? (i := 8) rfl))) (mvT hZ (hw _ (List.mem_of_getElem? (i := 9) rfl))) (notFace_of_selects (args := #[]) (mvT hZ (hw _ (List.mem_of_getElem? (i := 11) rfl)))) (mvT hZ (hw _ (List.mem_of_getElem? (i := 11) rfl))) (mvT hZ (hw _ (List.mem_of_getElem? (i := 10) rfl))) (by decide) (backOf (W := 0) (rm2 l Z a0 hw [] w_ROM_DATA w_ROM_DATA w_RANDOM_FILL h0 n0 Z0 S_ROM_DATA S_RANDOM_FILL) hZ (hw _ (List.mem_of_getElem? (i := 12) rfl)) (hw _ (List.mem_of_getElem? (i := 6) rfl)) (by decide) (by decide)) q16a q16c (g := (mkF m 26 #[.val (.int p0), .val (.int (7 : Int32)), .val (.ref w_ROM_DATA), .val (.int (0 : Int32))] [(.ref w_ROM_DATA)])) rfl (by rw [hml]; rfl) (Steps.refl _) (argsL := []) (rest := []) (lenOf pd___Z rfl) rfl (by show 2 * 0 + _ ≤ _; exact Nat.le_of_eq rfl) (hb hby at_26) (fun _ _ => ⟨rfl, e15, (by decide : 0 + 0 ≤ _), (by decide : 0 + 0 ≤ _)⟩)
    dsimp only [Pt.U, Pt.locs, Pt.cells, Pt.slots] at X16 l16 y16 z16 st16 hQ16
    subst l16 y16 z16
    obtain ⟨hv16, N16q, e16⟩ := hQ16
    obtain rfl : v16 = some (.int (0 : Int32)) := hv16.trans (by simp [(Fld.ne F_ordinal_ROM_DATA F_ordinal_RANDOM_FILL (by simp))])
    have N16 := Fr.app N15 N16q
    refine ogo (fun t k => st16.trans k) ?_
    show OwnEnds _ _ _ _ _ _ _ (T16.setTop (mkF m 29 #[.val (.int p0), .val (.int (7 : Int32)), .val (.ref w_ROM_DATA), .val (.int (0 : Int32))] [(.int (0 : Int32))]))
    refine ogo (fun t k => XS.iloadN X16.here hx rfl (hb hby at_29) rfl k) ?_
    show OwnEnds _ _ _ _ _ _ _ (T16.setTop (mkF m 30 #[.val (.int p0), .val (.int (7 : Int32)), .val (.ref w_ROM_DATA), .val (.int (0 : Int32))] [(.int (0 : Int32)), (.int (0 : Int32))]))
    refine ogo (fun t k => XS.icmpNo X16.here hx rfl (hb hby at_30) rfl (teq (by decide : (0 : Int32) = (0 : Int32))).2 k) ?_
    show OwnEnds _ _ _ _ _ _ _ (T16.setTop (mkF m 33 #[.val (.int p0), .val (.int (7 : Int32)), .val (.ref w_ROM_DATA), .val (.int (0 : Int32))] []))
    refine ogo (fun t k => XS.iconst X16.here hx rfl (hb hby at_33) k) ?_
    show OwnEnds _ _ _ _ _ _ _ (T16.setTop (mkF m 34 #[.val (.int p0), .val (.int (7 : Int32)), .val (.ref w_ROM_DATA), .val (.int (0 : Int32))] [(.int (1 : Int32))]))
    refine ogo (fun t k => XS.goto X16.here hx rfl (pc0 := 34) (pc' := 38) rfl (hb hby at_34) (by decide) (by decide) k) ?_
    show OwnEnds _ _ _ _ _ _ _ (T16.setTop (mkF m 38 #[.val (.int p0), .val (.int (7 : Int32)), .val (.ref w_ROM_DATA), .val (.int (0 : Int32))] [(.int (1 : Int32))]))
    refine endZ X16 hx hlk Bd.returns rfl (hb hby at_38) (by decide) (by decide) ?_
    show Q0 Z p0 w_INPUT_DATA w_ROM_DATA w_RANDOM_FILL w_EXPONENT w_CONFIGURATION w_OUTPUT_DATA w_MODULUS w_CLOCK_OFFSET w_COUNTER h0 n0 _ T16.heap _
    rw [e16]
    exact ⟨rfl, N16⟩
  · show OwnEnds _ _ _ _ _ _ _ (s₁.setTop (mkF m 7 #[.val (.int p0), .unset, .unset, .unset] [(.int (8 : Int32))]))
    refine ogo (fun t k => XS.istoreN X0.here hx rfl (hb hby at_7) rfl (l' := #[.val (.int p0), .val (.int (8 : Int32)), .unset, .unset]) rfl k) ?_
    show OwnEnds _ _ _ _ _ _ _ (s₁.setTop (mkF m 8 #[.val (.int p0), .val (.int (8 : Int32)), .unset, .unset] []))
    refine ogo (fun t k => XS.iloadN X0.here hx rfl (hb hby at_8) rfl k) ?_
    show OwnEnds _ _ _ _ _ _ _ (s₁.setTop (mkF m 9 #[.val (.int p0), .val (.int (8 : Int32)), .unset, .unset] [(.int (8 : Int32))]))
    obtain ⟨v17, _, ⟨T17, L17, k17, n17⟩, -, X17, ⟨Lc17, hQ17, l17, y17, z17⟩, st17⟩ := Jvm.LawKit.callS X0 hx (y := (⟨"com/example/opaque_token/opaquetoken/token/ObjectTypeStoresValuePinLaw", "pick", "(I)Lcom/example/opaque_token/opaquetoken/token/ObjectType;"⟩ : MethodName)) hown (mvT hZ (hw _ (List.mem_of_getElem? (i := 1) rfl))) (mvT hZ (hw _ (List.mem_of_getElem? (i := 2) rfl))) (mvT hZ (hw _ (List.mem_of_getElem? (i := 3) rfl))) (mvT hZ (hw _ (List.mem_of_getElem? (i := 4) rfl))) (by decide) (backOf (W := 0) (rm1 l Z a0 hw [] (8 : Int32) w_INPUT_DATA w_OUTPUT_DATA w_CONFIGURATION w_EXPONENT w_MODULUS w_COUNTER w_CLOCK_OFFSET w_ROM_DATA w_RANDOM_FILL h0 n0 Z0 S_INPUT_DATA S_OUTPUT_DATA S_CONFIGURATION S_EXPONENT S_MODULUS S_COUNTER S_CLOCK_OFFSET S_ROM_DATA S_RANDOM_FILL) hZ (hw _ (List.mem_of_getElem? (i := 4) rfl)) (hw _ (List.mem_of_getElem? (i := 3) rfl)) (by decide) (by decide)) (g := (mkF m 9 #[.val (.int p0), .val (.int (8 : Int32)), .unset, .unset] [(.int (8 : Int32))])) rfl (by rw [hml]; rfl) (argsL := [(.int (8 : Int32))]) (rest := []) (lenOf pd_e6b9a279 rfl) rfl (by show 2 * 0 + _ ≤ _; exact Nat.le_of_eq rfl) (hb hby at_9) (fun _ _ => ⟨rfl, e0, (by decide : 0 + 0 ≤ _), (by decide : 0 + 0 ≤ _)⟩)
    dsimp only [Pt.U, Pt.locs, Pt.cells, Pt.slots] at X17 l17 y17 z17 st17 hQ17
    subst l17 y17 z17
    obtain ⟨hv17, N17q, e17⟩ := hQ17
    obtain rfl : v17 = some (.ref w_RANDOM_FILL) := hv17.trans (by simp [own_pick])
    have N17 := Fr.app N0 N17q
    refine ogo (fun t k => st17 t k) ?_
    show OwnEnds _ _ _ _ _ _ _ (T17.setTop (mkF m 12 #[.val (.int p0), .val (.int (8 : Int32)), .unset, .unset] [(.ref w_RANDOM_FILL)]))
    refine ogo (fun t k => XS.astoreN X17.here hx rfl (hb hby at_12) rfl rfl (l' := #[.val (.int p0), .val (.int (8 : Int32)), .val (.ref w_RANDOM_FILL), .unset]) rfl k) ?_
    show OwnEnds _ _ _ _ _ _ _ (T17.setTop (mkF m 13 #[.val (.int p0), .val (.int (8 : Int32)), .val (.ref w_RANDOM_FILL), .unset] []))
    refine ogo (fun t k => XS.iloadN X17.here hx rfl (hb hby at_13) rfl k) ?_
    show OwnEnds _ _ _ _ _ _ _ (T17.setTop (mkF m 14 #[.val (.int p0), .val (.int (8 : Int32)), .val (.ref w_RANDOM_FILL), .unset] [(.int (8 : Int32))]))
    refine ogo (fun t k => XS.bipush X17.here hx rfl (hb hby at_14) k) ?_
    show OwnEnds _ _ _ _ _ _ _ (T17.setTop (mkF m 16 #[.val (.int p0), .val (.int (8 : Int32)), .val (.ref w_RANDOM_FILL), .unset] [(.int (6 : Int32)), (.int (8 : Int32))]))
    refine ogo (fun t k => XS.icmpYes X17.here hx rfl (pc0 := 16) (pc' := 23) rfl (hb hby at_16) rfl (tlt (by decide : (6 : Int32) < (8 : Int32))).2.2.1 (by decide) (by decide) k) ?_
    show OwnEnds _ _ _ _ _ _ _ (T17.setTop (mkF m 23 #[.val (.int p0), .val (.int (8 : Int32)), .val (.ref w_RANDOM_FILL), .unset] []))
    refine ogo (fun t k => XS.iconst X17.here hx rfl (hb hby at_23) k) ?_
    show OwnEnds _ _ _ _ _ _ _ (T17.setTop (mkF m 24 #[.val (.int p0), .val (.int (8 : Int32)), .val (.ref w_RANDOM_FILL), .unset] [(.int (0 : Int32))]))
    refine ogo (fun t k => XS.istoreN X17.here hx rfl (hb hby at_24) rfl (l' := #[.val (.int p0), .val (.int (8 : Int32)), .val (.ref w_RANDOM_FILL), .val (.int (0 : Int32))]) rfl k) ?_
    show OwnEnds _ _ _ _ _ _ _ (T17.setTop (mkF m 25 #[.val (.int p0), .val (.int (8 : Int32)), .val (.ref w_RANDOM_FILL), .val (.int (0 : Int32))] []))
    refine ogo (fun t k => XS.aloadN X17.here hx rfl (hb hby at_25) rfl rfl k) ?_
    show OwnEnds _ _ _ _ _ _ _ (T17.setTop (mkF m 26 #[.val (.int p0), .val (.int (8 : Int32)), .val (.ref w_RANDOM_FILL), .val (.int (0 : Int32))] [(.ref w_RANDOM_FILL)]))
    obtain ⟨cq18, kq18, q18a, q18b, q18c⟩ := isOf hZ e17 E_RANDOM_FILL
    obtain ⟨v18, _, ⟨T18, L18, k18, n18⟩, -, X18, ⟨Lc18, hQ18, l18, y18, z18⟩, st18⟩ := X17.virtualBack hx (y := (⟨"com/example/opaque_token/opaquetoken/token/ObjectType", "storesValue", "()Z"⟩ : MethodName)) (z := (⟨"com/example/opaque_token/opaquetoken/token/ObjectType", "storesValue", "()Z"⟩ : MethodName)) hown (mvT hZ (hw _ (List.mem_of_getElem? (i := 8) rfl))) (mvT hZ (hw _ (List.mem_of_getElem? (i := 9) rfl))) (notFace_of_selects (args := #[]) (mvT hZ (hw _ (List.mem_of_getElem? (i := 11) rfl)))) (mvT hZ (hw _ (List.mem_of_getElem? (i := 11) rfl))) (mvT hZ (hw _ (List.mem_of_getElem? (i := 10) rfl))) (by decide) (backOf (W := 0) (rm2 l Z a0 hw [] w_RANDOM_FILL w_ROM_DATA w_RANDOM_FILL h0 n0 Z0 S_ROM_DATA S_RANDOM_FILL) hZ (hw _ (List.mem_of_getElem? (i := 12) rfl)) (hw _ (List.mem_of_getElem? (i := 6) rfl)) (by decide) (by decide)) q18a q18c (g := (mkF m 26 #[.val (.int p0), .val (.int (8 : Int32)), .val (.ref w_RANDOM_FILL), .val (.int (0 : Int32))] [(.ref w_RANDOM_FILL)])) rfl (by rw [hml]; rfl) (Steps.refl _) (argsL := []) (rest := []) (lenOf pd___Z rfl) rfl (by show 2 * 0 + _ ≤ _; exact Nat.le_of_eq rfl) (hb hby at_26) (fun _ _ => ⟨rfl, e17, (by decide : 0 + 0 ≤ _), (by decide : 0 + 0 ≤ _)⟩)
    dsimp only [Pt.U, Pt.locs, Pt.cells, Pt.slots] at X18 l18 y18 z18 st18 hQ18
    subst l18 y18 z18
    obtain ⟨hv18, N18q, e18⟩ := hQ18
    obtain rfl : v18 = some (.int (0 : Int32)) := hv18.trans (by simp [(Fld.ne F_ordinal_RANDOM_FILL F_ordinal_ROM_DATA (by simp))])
    have N18 := Fr.app N17 N18q
    refine ogo (fun t k => st18.trans k) ?_
    show OwnEnds _ _ _ _ _ _ _ (T18.setTop (mkF m 29 #[.val (.int p0), .val (.int (8 : Int32)), .val (.ref w_RANDOM_FILL), .val (.int (0 : Int32))] [(.int (0 : Int32))]))
    refine ogo (fun t k => XS.iloadN X18.here hx rfl (hb hby at_29) rfl k) ?_
    show OwnEnds _ _ _ _ _ _ _ (T18.setTop (mkF m 30 #[.val (.int p0), .val (.int (8 : Int32)), .val (.ref w_RANDOM_FILL), .val (.int (0 : Int32))] [(.int (0 : Int32)), (.int (0 : Int32))]))
    refine ogo (fun t k => XS.icmpNo X18.here hx rfl (hb hby at_30) rfl (teq (by decide : (0 : Int32) = (0 : Int32))).2 k) ?_
    show OwnEnds _ _ _ _ _ _ _ (T18.setTop (mkF m 33 #[.val (.int p0), .val (.int (8 : Int32)), .val (.ref w_RANDOM_FILL), .val (.int (0 : Int32))] []))
    refine ogo (fun t k => XS.iconst X18.here hx rfl (hb hby at_33) k) ?_
    show OwnEnds _ _ _ _ _ _ _ (T18.setTop (mkF m 34 #[.val (.int p0), .val (.int (8 : Int32)), .val (.ref w_RANDOM_FILL), .val (.int (0 : Int32))] [(.int (1 : Int32))]))
    refine ogo (fun t k => XS.goto X18.here hx rfl (pc0 := 34) (pc' := 38) rfl (hb hby at_34) (by decide) (by decide) k) ?_
    show OwnEnds _ _ _ _ _ _ _ (T18.setTop (mkF m 38 #[.val (.int p0), .val (.int (8 : Int32)), .val (.ref w_RANDOM_FILL), .val (.int (0 : Int32))] [(.int (1 : Int32))]))
    refine endZ X18 hx hlk Bd.returns rfl (hb hby at_38) (by decide) (by decide) ?_
    show Q0 Z p0 w_INPUT_DATA w_ROM_DATA w_RANDOM_FILL w_EXPONENT w_CONFIGURATION w_OUTPUT_DATA w_MODULUS w_CLOCK_OFFSET w_COUNTER h0 n0 _ T18.heap _
    rw [e18]
    exact ⟨rfl, N18⟩
set_option maxRecDepth 65536 in
set_option maxHeartbeats 40000000 in
theorem comes_1 {Post : Tables → Env → Array Value → State → Outcome → State → Prop} (hpost : ∀ tb e args s v u, (limb_1_1.after args s (.returned v) u = true ∧ limb_1_2.after args s (.returned v) u = true ∧ True) → FrameEnd s (.returned v) u (Jvm.fieldLocs frame_1_writes args s ++ Jvm.arrayLocs frame_1_arrays args s ++ Jvm.staticLocs frame_1_statics s) 0 0 → Post tb e args s (.returned v) u) :
    ArmFor flags0 classFile x code maxLocals ret World_1 tables_1 room_1 Calls_1 rest_1 Pre_1 Post := by
  intro l hfl _ _ p e ha hc hk s m args below hf hA hF happ hP
  obtain ⟨hcalls, hrest, hpre⟩ := hP
  obtain ⟨-, -, -, hnamed, -, -, -, hat⟩ := (Spec.applies_iff hf).mp happ
  obtain ⟨hg, hn⟩ := and_e (Cond.before_iff.mp (show (Jvm.Cond.and given_1 narrow_1).before args s = true from hpre))
  obtain ⟨hcount, hg0⟩ := and_e hg
  have hk0 := hg0
  obtain ⟨w0, rfl⟩ : ∃ w0 : Value, args = #[w0] := by
    have hs : args.size = 1 := by simpa [Cond.value, given_1] using hcount
    obtain ⟨L⟩ := args
    match L, hs with
    | [w0], _ => exact ⟨w0, rfl⟩
  have hw := fun d (hd : d ∈ tables_1) => atoms_spec (ws := Jvm.Cond.code x code maxLocals ret :: tables_1) hat d (List.mem_cons_of_mem _ hd)
  have hfit : Fit s := fun {y c} hc i hi => by
    obtain ⟨ha, rfl⟩ := Array.getElem?_eq_some_iff.mp hc
    have q := List.all_eq_true.mp ((Array.all_eq_true_iff_forall_mem.mp hF) _ (Array.getElem_mem ha)) i (List.mem_range.mpr hi)
    simpa [Array.getElem?_eq_getElem hi] using q
  obtain ⟨i0, ei0⟩ := is_v hk0
  obtain rfl : w0 = (.int i0) := Option.some.inj ei0
  obtain ⟨u1a, u1b⟩ := and_e hn
  obtain ⟨u2a, u2b⟩ := and_e u1b
  obtain ⟨u3a, u3b⟩ := and_e u2b
  obtain ⟨u4a, u4b⟩ := and_e u3b
  obtain ⟨u5a, u5b⟩ := and_e u4b
  obtain ⟨u6a, u6b⟩ := and_e u5b
  obtain ⟨u7a, u7b⟩ := and_e u6b
  obtain ⟨u8a, u8b⟩ := and_e u7b
  obtain ⟨u9a, u9b⟩ := and_e u8b
  obtain ⟨u10a, u10b⟩ := and_e u9b
  obtain ⟨u11a, u11b⟩ := and_e u10b
  obtain ⟨u12a, u12b⟩ := and_e u11b
  obtain ⟨u13a, u13b⟩ := and_e u12b
  obtain ⟨u14a, u14b⟩ := and_e u13b
  obtain ⟨u15a, u15b⟩ := and_e u14b
  obtain ⟨u16a, u16b⟩ := and_e u15b
  obtain ⟨u17a, u17b⟩ := and_e u16b
  obtain ⟨w_INPUT_DATA, ev_INPUT_DATA⟩ := exa_v u1a
  have S_INPUT_DATA : Sta s s.heap "com/example/opaque_token/opaquetoken/token/ObjectType" "INPUT_DATA" "Lcom/example/opaque_token/opaquetoken/token/ObjectType;" (.ref w_INPUT_DATA) := Sta.start ev_INPUT_DATA (Or.inr ⟨(hw _ (List.mem_of_getElem? (i := 6) rfl)), (hw _ (List.mem_of_getElem? (i := 7) rfl))⟩)
  have E_INPUT_DATA : Exa s s.heap w_INPUT_DATA "com/example/opaque_token/opaquetoken/token/ObjectType" := Exa.start ev_INPUT_DATA u1a
  obtain ⟨w_ROM_DATA, ev_ROM_DATA⟩ := exa_v u2a
  have S_ROM_DATA : Sta s s.heap "com/example/opaque_token/opaquetoken/token/ObjectType" "ROM_DATA" "Lcom/example/opaque_token/opaquetoken/token/ObjectType;" (.ref w_ROM_DATA) := Sta.start ev_ROM_DATA (Or.inr ⟨(hw _ (List.mem_of_getElem? (i := 6) rfl)), (hw _ (List.mem_of_getElem? (i := 14) rfl))⟩)
  have E_ROM_DATA : Exa s s.heap w_ROM_DATA "com/example/opaque_token/opaquetoken/token/ObjectType" := Exa.start ev_ROM_DATA u2a
  obtain ⟨w_RANDOM_FILL, ev_RANDOM_FILL⟩ := exa_v u5a
  have S_RANDOM_FILL : Sta s s.heap "com/example/opaque_token/opaquetoken/token/ObjectType" "RANDOM_FILL" "Lcom/example/opaque_token/opaquetoken/token/ObjectType;" (.ref w_RANDOM_FILL) := Sta.start ev_RANDOM_FILL (Or.inr ⟨(hw _ (List.mem_of_getElem? (i := 6) rfl)), (hw _ (List.mem_of_getElem? (i := 16) rfl))⟩)
  have E_RANDOM_FILL : Exa s s.heap w_RANDOM_FILL "com/example/opaque_token/opaquetoken/token/ObjectType" := Exa.start ev_RANDOM_FILL u5a
  obtain ⟨w_EXPONENT, ev_EXPONENT⟩ := exa_v u7a
  have S_EXPONENT : Sta s s.heap "com/example/opaque_token/opaquetoken/token/ObjectType" "EXPONENT" "Lcom/example/opaque_token/opaquetoken/token/ObjectType;" (.ref w_EXPONENT) := Sta.start ev_EXPONENT (Or.inr ⟨(hw _ (List.mem_of_getElem? (i := 6) rfl)), (hw _ (List.mem_of_getElem? (i := 18) rfl))⟩)
  have E_EXPONENT : Exa s s.heap w_EXPONENT "com/example/opaque_token/opaquetoken/token/ObjectType" := Exa.start ev_EXPONENT u7a
  obtain ⟨w_CONFIGURATION, ev_CONFIGURATION⟩ := exa_v u9a
  have S_CONFIGURATION : Sta s s.heap "com/example/opaque_token/opaquetoken/token/ObjectType" "CONFIGURATION" "Lcom/example/opaque_token/opaquetoken/token/ObjectType;" (.ref w_CONFIGURATION) := Sta.start ev_CONFIGURATION (Or.inr ⟨(hw _ (List.mem_of_getElem? (i := 6) rfl)), (hw _ (List.mem_of_getElem? (i := 20) rfl))⟩)
  have E_CONFIGURATION : Exa s s.heap w_CONFIGURATION "com/example/opaque_token/opaquetoken/token/ObjectType" := Exa.start ev_CONFIGURATION u9a
  obtain ⟨w_OUTPUT_DATA, ev_OUTPUT_DATA⟩ := exa_v u11a
  have S_OUTPUT_DATA : Sta s s.heap "com/example/opaque_token/opaquetoken/token/ObjectType" "OUTPUT_DATA" "Lcom/example/opaque_token/opaquetoken/token/ObjectType;" (.ref w_OUTPUT_DATA) := Sta.start ev_OUTPUT_DATA (Or.inr ⟨(hw _ (List.mem_of_getElem? (i := 6) rfl)), (hw _ (List.mem_of_getElem? (i := 22) rfl))⟩)
  have E_OUTPUT_DATA : Exa s s.heap w_OUTPUT_DATA "com/example/opaque_token/opaquetoken/token/ObjectType" := Exa.start ev_OUTPUT_DATA u11a
  obtain ⟨w_MODULUS, ev_MODULUS⟩ := exa_v u13a
  have S_MODULUS : Sta s s.heap "com/example/opaque_token/opaquetoken/token/ObjectType" "MODULUS" "Lcom/example/opaque_token/opaquetoken/token/ObjectType;" (.ref w_MODULUS) := Sta.start ev_MODULUS (Or.inr ⟨(hw _ (List.mem_of_getElem? (i := 6) rfl)), (hw _ (List.mem_of_getElem? (i := 25) rfl))⟩)
  have E_MODULUS : Exa s s.heap w_MODULUS "com/example/opaque_token/opaquetoken/token/ObjectType" := Exa.start ev_MODULUS u13a
  obtain ⟨w_CLOCK_OFFSET, ev_CLOCK_OFFSET⟩ := exa_v u15a
  have S_CLOCK_OFFSET : Sta s s.heap "com/example/opaque_token/opaquetoken/token/ObjectType" "CLOCK_OFFSET" "Lcom/example/opaque_token/opaquetoken/token/ObjectType;" (.ref w_CLOCK_OFFSET) := Sta.start ev_CLOCK_OFFSET (Or.inr ⟨(hw _ (List.mem_of_getElem? (i := 6) rfl)), (hw _ (List.mem_of_getElem? (i := 28) rfl))⟩)
  have E_CLOCK_OFFSET : Exa s s.heap w_CLOCK_OFFSET "com/example/opaque_token/opaquetoken/token/ObjectType" := Exa.start ev_CLOCK_OFFSET u15a
  obtain ⟨w_COUNTER, ev_COUNTER⟩ := exa_v u17a
  have S_COUNTER : Sta s s.heap "com/example/opaque_token/opaquetoken/token/ObjectType" "COUNTER" "Lcom/example/opaque_token/opaquetoken/token/ObjectType;" (.ref w_COUNTER) := Sta.start ev_COUNTER (Or.inr ⟨(hw _ (List.mem_of_getElem? (i := 6) rfl)), (hw _ (List.mem_of_getElem? (i := 30) rfl))⟩)
  have E_COUNTER : Exa s s.heap w_COUNTER "com/example/opaque_token/opaquetoken/token/ObjectType" := Exa.start ev_COUNTER u17a
  have F_ordinal_INPUT_DATA : Fld s s.heap w_INPUT_DATA "java/lang/Enum" "ordinal" "I" (.int (0 : Int32)) := own_fld u3a ev_INPUT_DATA
  have F_ordinal_ROM_DATA : Fld s s.heap w_ROM_DATA "java/lang/Enum" "ordinal" "I" (.int (7 : Int32)) := own_fld u4a ev_ROM_DATA
  have F_ordinal_RANDOM_FILL : Fld s s.heap w_RANDOM_FILL "java/lang/Enum" "ordinal" "I" (.int (8 : Int32)) := own_fld u6a ev_RANDOM_FILL
  have F_ordinal_EXPONENT : Fld s s.heap w_EXPONENT "java/lang/Enum" "ordinal" "I" (.int (3 : Int32)) := own_fld u8a ev_EXPONENT
  have F_ordinal_CONFIGURATION : Fld s s.heap w_CONFIGURATION "java/lang/Enum" "ordinal" "I" (.int (2 : Int32)) := own_fld u10a ev_CONFIGURATION
  have F_ordinal_OUTPUT_DATA : Fld s s.heap w_OUTPUT_DATA "java/lang/Enum" "ordinal" "I" (.int (1 : Int32)) := own_fld u12a ev_OUTPUT_DATA
  have F_ordinal_MODULUS : Fld s s.heap w_MODULUS "java/lang/Enum" "ordinal" "I" (.int (4 : Int32)) := own_fld u14a ev_MODULUS
  have F_ordinal_CLOCK_OFFSET : Fld s s.heap w_CLOCK_OFFSET "java/lang/Enum" "ordinal" "I" (.int (6 : Int32)) := own_fld u16a ev_CLOCK_OFFSET
  have F_ordinal_COUNTER : Fld s s.heap w_COUNTER "java/lang/Enum" "ordinal" "I" (.int (5 : Int32)) := own_fld u17b ev_COUNTER
  obtain ⟨n, o, h1, h2, h3, _, L, rfl, ⟨rfl, N⟩, hq⟩ := rm0 l s _ hw tables_1 i0 w_INPUT_DATA w_ROM_DATA w_RANDOM_FILL w_EXPONENT w_CONFIGURATION w_OUTPUT_DATA w_MODULUS w_CLOCK_OFFSET w_COUNTER s.heap s.heap.size (Nat.le_refl _) S_INPUT_DATA E_INPUT_DATA F_ordinal_INPUT_DATA S_ROM_DATA E_ROM_DATA F_ordinal_ROM_DATA S_RANDOM_FILL E_RANDOM_FILL F_ordinal_RANDOM_FILL S_EXPONENT E_EXPONENT F_ordinal_EXPONENT S_CONFIGURATION E_CONFIGURATION F_ordinal_CONFIGURATION S_OUTPUT_DATA E_OUTPUT_DATA F_ordinal_OUTPUT_DATA S_MODULUS E_MODULUS F_ordinal_MODULUS S_CLOCK_OFFSET E_CLOCK_OFFSET F_ordinal_CLOCK_OFFSET S_COUNTER E_COUNTER F_ordinal_COUNTER p e ha hc hk s m _ below hf ((Spec.applies_iff_loose hf).mp happ).1 ⟨rfl, State.Warmed39.refl s, rfl⟩ trivial
  refine ⟨n, _, h1, h2, h3, hpost _ _ _ _ _ _ ⟨Cond.after_iff.mpr rfl, Cond.after_iff.mpr (eq_i res_at (Term.int_eval (1)) rfl), trivial⟩ ⟨hq.1, hq.2.1, (hq.2.2.sift fun y hy => Or.inr (N y hy)).mono (by decide) (by decide)⟩⟩
theorem main_1_1 : Claimed_1_1 := comes_1 fun _ _ _ _ _ _ h hF => ⟨h.1, hF⟩
theorem main_1_2 : Claimed_1_2 := comes_1 fun _ _ _ _ _ _ h hF => ⟨h.2.1, hF⟩
end Jvm.Pilot.@@N@@
namespace Jvm.Pilot.@@N@@
open Jvm Jvm.ClassFile Sem Op Lib Jvm.Free Jvm.Stand Jvm.Pilot.@@N@@.Jvm.D
/-! MADE BY PROGRAM (witnessworld.py) out of the Statement's table words and the real class files: 12 classes; the members and pool entries that the words name. The judged class is class 1, her method 2. -/
namespace start1
open Jvm.ClassFile
def u (s : String) : CpInfo := .utf8 (stringToUtf16 s)
/-- a pool by its gaps: so many unusable entries, then the entry; so many at the end -/
def gap : Nat → List CpInfo → List CpInfo
  | 0, r => r
  | n + 1, r => .unusable :: gap n r
def poolList (es : List (Nat × CpInfo)) (last : Nat) : List CpInfo := es.foldr (fun e r => gap e.1 (e.2 :: r)) (gap last [])
def pool (es : List (Nat × CpInfo)) (last : Nat) : Array CpInfo := ⟨poolList es last⟩
def fileOf (pool : Array CpInfo) (this : Nat) (attrs : Array Attribute := #[]) (ms : Array MethodInfo := #[]) (fl : Nat := 33) (sup : Nat := 0) (ifs : Array Nat := #[]) (fds : Array FieldInfo := #[]) : ClassFile where
  minorVersion := 0
  majorVersion := 65
  constantPool := pool
  accessFlags := fl
  thisClass := this
  superClass := sup
  interfaces := ifs
  fields := fds
  methods := ms
  attributes := attrs
def plain (name : String) (sup : Option ClassId) : Class where
  name := name
  kind := .ordinary
  loader := none
  accessFlags := 33
  super := sup
  interfaces := #[]
  cf := none
  fields := #[]
  methods := #[]
  instanceTypes := #[]
  staticTypes := #[]
  resolved := #[]
  callSites := []
  init := .initialized
  statics := none
  mirror := none

def pool0 : Array CpInfo := pool [(5, u "<init>"), (0, u "()V"), (1, .class_ 10), (1, u "java/lang/Object")] 113

def k0m0 : Method := { name := "<init>", desc := "()V", sig := { parameters := [], returnType := none }, accessFlags := 1, code := none }
/-- java/lang/Object -/
def k0 : Class := { plain "java/lang/Object" none with
  accessFlags := 33
  interfaces := #[]
  cf := some (fileOf pool0 8 #[] #[{ accessFlags := 1, nameIndex := 5, descriptorIndex := 6, attributes := #[] }] 33 0 #[] #[])
  fields := #[]
  methods := #[k0m0]
  instanceTypes := #[]
  staticTypes := #[]
  resolved := Array.replicate 124 none
  statics := none }

def pool1 : Array CpInfo := pool [(2, .class_ 4), (1, u "java/lang/Object"), (0, u "<init>"), (0, u "()V"), (0, .fieldref 8 9), (0, .class_ 10), (0, .nameAndType 11 12), (0, u "com/example/opaque_token/opaquetoken/token/ObjectType"), (0, u "INPUT_DATA"), (0, u "Lcom/example/opaque_token/opaquetoken/token/ObjectType;"), (0, .fieldref 8 14), (0, .nameAndType 15 12), (0, u "OUTPUT_DATA"), (0, .fieldref 8 17), (0, .nameAndType 18 12), (0, u "CONFIGURATION"), (0, .fieldref 8 20), (0, .nameAndType 21 12), (0, u "EXPONENT"), (0, .fieldref 8 23), (0, .nameAndType 24 12), (0, u "MODULUS"), (0, .fieldref 8 26), (0, .nameAndType 27 12), (0, u "COUNTER"), (0, .fieldref 8 29), (0, .nameAndType 30 12), (0, u "CLOCK_OFFSET"), (0, .fieldref 8 32), (0, .nameAndType 33 12), (0, u "ROM_DATA"), (0, .fieldref 8 35), (0, .nameAndType 36 12), (0, u "RANDOM_FILL"), (0, .integer 2147483647), (0, .methodref 39 40), (0, .class_ 41), (0, .nameAndType 42 43), (0, u "com/example/opaque_token/opaquetoken/token/ObjectTypeStoresValuePinLaw"), (0, u "pick"), (0, u "(I)Lcom/example/opaque_token/opaquetoken/token/ObjectType;"), (0, .methodref 8 45), (0, .nameAndType 46 47), (0, u "storesValue"), (0, u "()Z"), (3, u "law"), (0, u "(I)Z")] 2

def k1m0 : Method := { name := "<init>", desc := "()V", sig := { parameters := [], returnType := none }, accessFlags := 1, code := none }
def k1c1 : Code := { maxStack := 2, maxLocals := 1, code := method_2_code, exceptionTable := #[], attributes := #[] }
def k1m1 : Method := { name := "pick", desc := "(I)Lcom/example/opaque_token/opaquetoken/token/ObjectType;", sig := { parameters := [.int], returnType := some (.object "com/example/opaque_token/opaquetoken/token/ObjectType") }, accessFlags := 10, code := some k1c1 }
def k1c2 : Code := { maxStack := 2, maxLocals := 4, code := code, exceptionTable := #[], attributes := #[] }
def k1m2 : Method := { name := "law", desc := "(I)Z", sig := { parameters := [.int], returnType := some .boolean }, accessFlags := 9, code := some k1c2 }
/-- com/example/opaque_token/opaquetoken/token/ObjectTypeStoresValuePinLaw -/
def k1 : Class := { plain "com/example/opaque_token/opaquetoken/token/ObjectTypeStoresValuePinLaw" (some 0) with
  accessFlags := 49
  interfaces := #[]
  cf := some (fileOf pool1 39 #[] #[{ accessFlags := 1, nameIndex := 5, descriptorIndex := 6, attributes := #[] }, { accessFlags := 10, nameIndex := 42, descriptorIndex := 43, attributes := #[] }, { accessFlags := 9, nameIndex := 51, descriptorIndex := 52, attributes := #[] }] 49 2 #[] #[])
  fields := #[]
  methods := #[k1m0, k1m1, k1m2]
  instanceTypes := #[]
  staticTypes := #[]
  resolved := Array.replicate 55 none
  statics := none }

def pool2 : Array CpInfo := pool [(1, .class_ 2), (0, u "java/lang/constant/Constable"), (0, .class_ 4), (0, u "java/lang/Object")] 6

/-- java/lang/constant/Constable -/
def k2 : Class := { plain "java/lang/constant/Constable" (some 0) with
  accessFlags := 1537
  interfaces := #[]
  cf := some (fileOf pool2 1 #[] #[] 1537 3 #[] #[])
  fields := #[]
  methods := #[]
  instanceTypes := #[]
  staticTypes := #[]
  resolved := Array.replicate 11 none
  statics := none }

def pool3 : Array CpInfo := pool [(1, .class_ 2), (0, u "java/lang/Comparable"), (0, .class_ 4), (0, u "java/lang/Object")] 7

/-- java/lang/Comparable -/
def k3 : Class := { plain "java/lang/Comparable" (some 0) with
  accessFlags := 1537
  interfaces := #[]
  cf := some (fileOf pool3 1 #[] #[] 1537 3 #[] #[])
  fields := #[]
  methods := #[]
  instanceTypes := #[]
  staticTypes := #[]
  resolved := Array.replicate 12 none
  statics := none }

def pool4 : Array CpInfo := pool [(1, .class_ 2), (0, u "java/io/Serializable"), (0, .class_ 4), (0, u "java/lang/Object")] 2

/-- java/io/Serializable -/
def k4 : Class := { plain "java/io/Serializable" (some 0) with
  accessFlags := 1537
  interfaces := #[]
  cf := some (fileOf pool4 1 #[] #[] 1537 3 #[] #[])
  fields := #[]
  methods := #[]
  instanceTypes := #[]
  staticTypes := #[]
  resolved := Array.replicate 7 none
  statics := none }

def pool5 : Array CpInfo := pool [(2, .class_ 4), (1, u "java/lang/Enum"), (0, u "name"), (0, u "Ljava/lang/String;"), (2, u "ordinal"), (0, u "I"), (1, .class_ 14), (1, u "java/lang/Object"), (4, u "hash"), (86, .class_ 108), (1, u "java/lang/Enum$EnumDesc"), (2, .class_ 112), (0, u "java/lang/constant/Constable"), (0, .class_ 114), (0, u "java/lang/Comparable"), (0, .class_ 116), (0, u "java/io/Serializable")] 87

/-- java/lang/Enum -/
def k5 : Class := { plain "java/lang/Enum" (some 0) with
  accessFlags := 1057
  interfaces := #[2, 3, 4]
  cf := some (fileOf pool5 2 #[.nestMembers #[106]] #[] 1057 12 #[111, 113, 115] #[{ accessFlags := 18, nameIndex := 5, descriptorIndex := 6, attributes := #[] }, { accessFlags := 18, nameIndex := 9, descriptorIndex := 10, attributes := #[] }, { accessFlags := 2, nameIndex := 19, descriptorIndex := 10, attributes := #[] }])
  fields := #[{ name := "name", type := (.object "java/lang/String"), accessFlags := 18, slot := 0, constantValue := 0 }, { name := "ordinal", type := .int, accessFlags := 18, slot := 1, constantValue := 0 }, { name := "hash", type := .int, accessFlags := 2, slot := 2, constantValue := 0 }]
  methods := #[]
  instanceTypes := #[(.object "java/lang/String"), .int, .int]
  staticTypes := #[]
  resolved := Array.replicate 204 none
  statics := none }

def pool6 : Array CpInfo := pool [(1, .class_ 2), (0, u "com/example/opaque_token/opaquetoken/token/ObjectType"), (2, u "INPUT_DATA"), (0, u "Lcom/example/opaque_token/opaquetoken/token/ObjectType;"), (2, u "OUTPUT_DATA"), (2, u "CONFIGURATION"), (2, u "EXPONENT"), (2, u "MODULUS"), (2, u "COUNTER"), (2, u "CLOCK_OFFSET"), (0, .fieldref 1 26), (0, .nameAndType 27 6), (0, u "ROM_DATA"), (0, .fieldref 1 29), (0, .nameAndType 30 6), (0, u "RANDOM_FILL"), (2, u "$VALUES"), (0, u "[Lcom/example/opaque_token/opaquetoken/token/ObjectType;"), (6, .class_ 43), (1, u "java/lang/Enum"), (8, u "word"), (0, u "Ljava/lang/String;"), (41, u "storesValue"), (0, u "()Z")] 12

def k6c0 : Code := { maxStack := 2, maxLocals := 1, code := prog_55_method_4_code, exceptionTable := #[], attributes := #[] }
def k6m0 : Method := { name := "storesValue", desc := "()Z", sig := { parameters := [], returnType := some .boolean }, accessFlags := 0, code := some k6c0 }
/-- com/example/opaque_token/opaquetoken/token/ObjectType -/
def k6 : Class := { plain "com/example/opaque_token/opaquetoken/token/ObjectType" (some 5) with
  accessFlags := 16432
  interfaces := #[]
  cf := some (fileOf pool6 1 #[] #[{ accessFlags := 0, nameIndex := 95, descriptorIndex := 96, attributes := #[] }] 16432 41 #[] #[{ accessFlags := 16409, nameIndex := 5, descriptorIndex := 6, attributes := #[] }, { accessFlags := 16409, nameIndex := 9, descriptorIndex := 6, attributes := #[] }, { accessFlags := 16409, nameIndex := 12, descriptorIndex := 6, attributes := #[] }, { accessFlags := 16409, nameIndex := 15, descriptorIndex := 6, attributes := #[] }, { accessFlags := 16409, nameIndex := 18, descriptorIndex := 6, attributes := #[] }, { accessFlags := 16409, nameIndex := 21, descriptorIndex := 6, attributes := #[] }, { accessFlags := 16409, nameIndex := 24, descriptorIndex := 6, attributes := #[] }, { accessFlags := 16409, nameIndex := 27, descriptorIndex := 6, attributes := #[] }, { accessFlags := 16409, nameIndex := 30, descriptorIndex := 6, attributes := #[] }, { accessFlags := 18, nameIndex := 52, descriptorIndex := 53, attributes := #[] }, { accessFlags := 4122, nameIndex := 33, descriptorIndex := 34, attributes := #[] }])
  fields := #[{ name := "INPUT_DATA", type := (.object "com/example/opaque_token/opaquetoken/token/ObjectType"), accessFlags := 16409, slot := 0, constantValue := 0 }, { name := "OUTPUT_DATA", type := (.object "com/example/opaque_token/opaquetoken/token/ObjectType"), accessFlags := 16409, slot := 1, constantValue := 0 }, { name := "CONFIGURATION", type := (.object "com/example/opaque_token/opaquetoken/token/ObjectType"), accessFlags := 16409, slot := 2, constantValue := 0 }, { name := "EXPONENT", type := (.object "com/example/opaque_token/opaquetoken/token/ObjectType"), accessFlags := 16409, slot := 3, constantValue := 0 }, { name := "MODULUS", type := (.object "com/example/opaque_token/opaquetoken/token/ObjectType"), accessFlags := 16409, slot := 4, constantValue := 0 }, { name := "COUNTER", type := (.object "com/example/opaque_token/opaquetoken/token/ObjectType"), accessFlags := 16409, slot := 5, constantValue := 0 }, { name := "CLOCK_OFFSET", type := (.object "com/example/opaque_token/opaquetoken/token/ObjectType"), accessFlags := 16409, slot := 6, constantValue := 0 }, { name := "ROM_DATA", type := (.object "com/example/opaque_token/opaquetoken/token/ObjectType"), accessFlags := 16409, slot := 7, constantValue := 0 }, { name := "RANDOM_FILL", type := (.object "com/example/opaque_token/opaquetoken/token/ObjectType"), accessFlags := 16409, slot := 8, constantValue := 0 }, { name := "word", type := (.object "java/lang/String"), accessFlags := 18, slot := 3, constantValue := 0 }, { name := "$VALUES", type := (.array (.object "com/example/opaque_token/opaquetoken/token/ObjectType")), accessFlags := 4122, slot := 9, constantValue := 0 }]
  methods := #[k6m0]
  instanceTypes := #[(.object "java/lang/String"), .int, .int, (.object "java/lang/String")]
  staticTypes := #[(.object "com/example/opaque_token/opaquetoken/token/ObjectType"), (.object "com/example/opaque_token/opaquetoken/token/ObjectType"), (.object "com/example/opaque_token/opaquetoken/token/ObjectType"), (.object "com/example/opaque_token/opaquetoken/token/ObjectType"), (.object "com/example/opaque_token/opaquetoken/token/ObjectType"), (.object "com/example/opaque_token/opaquetoken/token/ObjectType"), (.object "com/example/opaque_token/opaquetoken/token/ObjectType"), (.object "com/example/opaque_token/opaquetoken/token/ObjectType"), (.object "com/example/opaque_token/opaquetoken/token/ObjectType"), (.array (.object "com/example/opaque_token/opaquetoken/token/ObjectType"))]
  resolved := Array.replicate 109 none
  statics := some 0 }

def pool7 : Array CpInfo := pool [(1, u "java/lang/Cloneable"), (0, .class_ 1), (0, u "java/lang/Object"), (0, .class_ 3)] 3

/-- java/lang/Cloneable -/
def k7 : Class := { plain "java/lang/Cloneable" (some 0) with
  accessFlags := 1537
  interfaces := #[]
  cf := some (fileOf pool7 2 #[] #[] 1537 4 #[] #[])
  fields := #[]
  methods := #[]
  instanceTypes := #[]
  staticTypes := #[]
  resolved := Array.replicate 8 none
  statics := none }

/-- the primitive byte -/
def k8 : Class := { plain "byte" none with kind := .primitive 'B', accessFlags := 0x411 }
/-- [B -/
def k9 : Class := { plain "[B" (some 0) with kind := .array 8 .byte, interfaces := #[7, 4], accessFlags := 1041 }

/-- the primitive int -/
def k10 : Class := { plain "int" none with kind := .primitive 'I', accessFlags := 0x411 }
/-- [I -/
def k11 : Class := { plain "[I" (some 0) with kind := .array 10 .int, interfaces := #[7, 4], accessFlags := 1041 }

def heap : Heap := #[{ cls := 6, slots := #[.ref 1, .ref 6, .ref 5, .ref 4, .ref 7, .ref 9, .ref 8, .ref 2, .ref 3, .null], vm := .statics 6 },
  { cls := 6, slots := #[.null, .int 0, .int 0, .null], vm := .none },
  { cls := 6, slots := #[.null, .int 7, .int 0, .null], vm := .none },
  { cls := 6, slots := #[.null, .int 8, .int 0, .null], vm := .none },
  { cls := 6, slots := #[.null, .int 3, .int 0, .null], vm := .none },
  { cls := 6, slots := #[.null, .int 2, .int 0, .null], vm := .none },
  { cls := 6, slots := #[.null, .int 1, .int 0, .null], vm := .none },
  { cls := 6, slots := #[.null, .int 4, .int 0, .null], vm := .none },
  { cls := 6, slots := #[.null, .int 6, .int 0, .null], vm := .none },
  { cls := 6, slots := #[.null, .int 5, .int 0, .null], vm := .none }]
def classes : Array Class := #[k0, k1, k2, k3, k4, k5, k6, k7, k8, k9, k10, k11]
def interned : List (Array UInt16 × Addr) := []
def slotsUsed : Nat := 46
def theMethod : MethodId := ⟨1, 2⟩
def args0 : Array Value := #[.int 5]
def aboutOver (below : List Frame) : State where
  vm := { classes := classes, interned := interned.toArray }
  heap := heap
  slotsUsed := slotsUsed
  threads := #[{ frames := .invoking theMethod args0 :: below }]
def below0 : List Frame := [.native { method := ⟨0, 0⟩, args := #[] }]
def about1 : State := aboutOver below0
def p0 : Program := .bare "" "" ""
def e0 : Env := launch0.env 0 0 0
theorem w_frames : about1.frames = Frame.invoking theMethod args0 :: below0 := rfl
set_option maxRecDepth 65536 in
theorem w_args : argsFit about1.vm theMethod args0 = true := by decide +kernel
set_option maxRecDepth 65536 in
theorem w_heap : heapFits about1 = true := by decide +kernel
set_option maxRecDepth 65536 in
theorem w_runnable : about1.curStatus? = some .runnable := by decide +kernel
set_option maxRecDepth 65536 in
theorem w_alone : about1.alone = true := by decide +kernel
set_option maxRecDepth 65536 in
theorem w_named : about1.methodNamed? x = some theMethod := by decide +kernel
set_option maxRecDepth 65536 in
theorem w_hears : about1.hears theMethod below0 = true := by decide +kernel
set_option maxRecDepth 65536 in
theorem w_ripe : about1.ripe theMethod args0 below0 = true := by decide +kernel
theorem w_running : about1.status = .running := rfl
set_option maxRecDepth 65536 in
theorem w_room : about1.hasRoom e0.platform room_1 = true :=
  launch0.hasRoom_least _ room_1 (by decide +kernel) (by decide +kernel) (by decide +kernel) (by decide +kernel) (by decide +kernel) (by decide +kernel)
theorem allAtoms_all (ts : List Jvm.Cond) (a : Array Jvm.Value) (st : Jvm.State) : (allAtoms ts).before a st = ts.all (fun c => c.before a st) := by
  induction ts with
  | nil => rfl
  | cons c t ih =>
    show (Jvm.Cond.and c (allAtoms t)).before a st = _
    rw [Jvm.Cond.before_and, ih, List.all_cons]
def words1 : List Jvm.Cond := Jvm.Cond.code x code maxLocals ret :: tables_1
/-- a 'code' word, met by the world's own term for the bytes: nothing is compared byte by byte -/
theorem code_word {y : MethodName} {bytes : ByteArray} {mx : Nat} {rt : Option FieldType} {a : Array Value} {s : State} {m : MethodId} {meth : Method} {c : Code} (h1 : s.methodNamed? y = some m) (h2 : s.vm.method? m = some meth) (h3 : meth.code = some c) (h4 : c.code = bytes)
    (h5 : (c.maxLocals == mx && c.exceptionTable.isEmpty && decide (c.maxStack ≤ mostOperands) && decide (meth.sig.returnType = rt) && !meth.locks && decide (parseMethodDescriptor y.desc = some meth.sig)) = true) : (Jvm.Cond.code y bytes mx rt).before a s = true := by
  simp only [Bool.and_eq_true, beq_iff_eq, Bool.not_eq_true', decide_eq_true_eq] at h5
  obtain ⟨⟨⟨⟨⟨g1, g2⟩, g3⟩, g4⟩, g5⟩, g6⟩ := h5
  simp [Cond.before, Cond.holds, Cond.value, h1, h2, h3, h4, g1, g2, g3, g4, g5, g6]
def isCode : Jvm.Cond → Bool
  | .code _ _ _ _ => true
  | _ => false
theorem all_split {L : List Jvm.Cond} {P : Jvm.Cond → Bool} (h1 : L.all (fun c => isCode c || P c) = true) (h2 : ∀ c ∈ L.filter isCode, P c = true) : L.all P = true := by
  refine List.all_eq_true.mpr fun c hc => ?_
  have h := List.all_eq_true.mp h1 c hc
  rcases Bool.eq_false_or_eq_true (isCode c) with hi | hi
  · exact h2 c (List.mem_filter.mpr ⟨hc, hi⟩)
  · simpa [hi] using h
set_option maxRecDepth 65536 in
theorem w_c0 : (Jvm.Cond.code x code maxLocals ret).before args0 about1 = true := code_word (m := ⟨1, 2⟩) (meth := k1m2) (c := k1c2) (by decide +kernel) rfl rfl rfl (by decide +kernel)
set_option maxRecDepth 65536 in
theorem w_c1 : (Jvm.Cond.code ({ cls := "com/example/opaque_token/opaquetoken/token/ObjectTypeStoresValuePinLaw", name := "pick", desc := "(I)Lcom/example/opaque_token/opaquetoken/token/ObjectType;" } : Jvm.MethodName) method_2_code (1 : Nat) (Option.some (Jvm.ClassFile.FieldType.object "com/example/opaque_token/opaquetoken/token/ObjectType"))).before args0 about1 = true := code_word (m := ⟨1, 1⟩) (meth := k1m1) (c := k1c1) (by decide +kernel) rfl rfl rfl (by decide +kernel)
set_option maxRecDepth 65536 in
theorem w_c2 : (Jvm.Cond.code ({ cls := "com/example/opaque_token/opaquetoken/token/ObjectType", name := "storesValue", desc := "()Z" } : Jvm.MethodName) prog_55_method_4_code (1 : Nat) (Option.some Jvm.ClassFile.FieldType.boolean)).before args0 about1 = true := code_word (m := ⟨6, 0⟩) (meth := k6m0) (c := k6c0) (by decide +kernel) rfl rfl rfl (by decide +kernel)
def codes1 : List Jvm.Cond := [Jvm.Cond.code x code maxLocals ret, Jvm.Cond.code ({ cls := "com/example/opaque_token/opaquetoken/token/ObjectTypeStoresValuePinLaw", name := "pick", desc := "(I)Lcom/example/opaque_token/opaquetoken/token/ObjectType;" } : Jvm.MethodName) method_2_code (1 : Nat) (Option.some (Jvm.ClassFile.FieldType.object "com/example/opaque_token/opaquetoken/token/ObjectType")), Jvm.Cond.code ({ cls := "com/example/opaque_token/opaquetoken/token/ObjectType", name := "storesValue", desc := "()Z" } : Jvm.MethodName) prog_55_method_4_code (1 : Nat) (Option.some Jvm.ClassFile.FieldType.boolean)]
set_option maxRecDepth 65536 in
theorem codes_eq : words1.filter isCode = codes1 := rfl
theorem w_codes : ∀ c ∈ words1.filter isCode, c.before args0 about1 = true := by
  rw [codes_eq]
  intro c hc
  simp only [codes1, List.mem_cons, List.not_mem_nil, or_false] at hc
  rcases hc with rfl | rfl | rfl
  · exact w_c0
  · exact w_c1
  · exact w_c2
set_option maxRecDepth 65536 in
theorem w_t1 : (words1.take 24).all (fun c => isCode c || c.before args0 about1) = true := by decide +kernel
set_option maxRecDepth 65536 in
theorem w_t2 : (words1.drop 24).all (fun c => isCode c || c.before args0 about1) = true := by decide +kernel
theorem w_tables : (allAtoms (Jvm.Cond.code x code maxLocals ret :: tables_1)).before args0 about1 = true := by
  rw [allAtoms_all]
  show words1.all (fun c => c.before args0 about1) = true
  refine all_split ?_ w_codes
  rw [← List.take_append_drop 24 words1, List.all_append, w_t1, w_t2]
  rfl
set_option maxRecDepth 65536 in
theorem w_case : (Jvm.Cond.and given_1 narrow_1).before args0 about1 = true := by decide +kernel
theorem w_applies : (headSpec (Jvm.Cond.code x code maxLocals ret :: tables_1) room_1).applies x e0.platform about1 = true :=
  (Spec.applies_iff w_frames).mpr ⟨w_running, w_runnable, w_alone, w_named, w_hears, w_ripe, w_room, w_tables⟩
theorem atStart : AtStart classFile x code maxLocals ret World_1 tables_1 room_1 Calls_1 rest_1 Pre_1 launch0 p0 e0 about1 theMethod args0 below0 :=
  ⟨lists_1, trivial, launch0.admits_env _ _ _, launch0.least_env, fairChoices_fair.cas, fairChoices_fair.clock, w_frames, w_args, w_heap, w_applies, trivial, trivial, w_case⟩
end start1
theorem witness_1 : WitnessClaimed_1 := ⟨start1.p0, start1.e0, start1.about1, start1.theMethod, start1.args0, start1.below0, start1.atStart⟩
end Jvm.Pilot.@@N@@
