import JvmDerived
import JvmDerived.Pilot.@@N@@Statement
import JvmDerived.Pilot.@@N@@Code
set_option linter.unusedVariables false
set_option linter.unusedSimpArgs false
@@BLOCK:NumsL.lean.txt@@
namespace Jvm.OwnW
open Sem ClassFile Op Lib Jvm.Stand Jvm.Free Jvm.LawKit Jvm.RoadKit
section Own
variable {p : Program} {l : Launch} {e : Env} {R : Room} {s : State} {m : MethodId} {args : Array Value} {below : List Frame} {meth : Method} {c : Code} {T : State} {locs : List Loc} {cells slots : Nat} {K N : Nat} {Q : Option Value → Heap → List Loc → Prop}
/-- from U the run comes to the method's end, and what it leaves there is Q -/
def OwnEnds (tb : Tables) (e : Env) (below : List Frame) (s : State) (K N : Nat) (Q : Option Value → Heap → List Loc → Prop) (U : State) : Prop :=
  ∃ s₂ o, Steps tb e below U s₂ ∧ s₂.status = .running ∧ Ended s₂ below o ∧ ∃ v L, o = .returned v ∧ Q v s₂.heap L ∧ FrameEnd s o s₂ L K N
theorem ogo {tb : Tables} {U U' : State} (st : ∀ t, Steps tb e below U' t → Steps tb e below U t) (h : OwnEnds tb e below s K N Q U') : OwnEnds tb e below s K N Q U := by
  obtain ⟨s₂, o, h1, h2⟩ := h
  exact ⟨s₂, o, st _ h1, h2⟩
theorem endR (X : Stand p l e R s m args below meth c T locs cells slots) (hx : p.tables.exec = Jvm.exec) (hlk : meth.locks = false) {pc : Nat} {Ls : Array Slot} {w : Value} {t : FieldType} {i : Instr} {rest : List Value} (hret : meth.sig.returnType = some t) (hn : narrow t w = w)
    (hi : (i = .ireturn ∧ (t = .int ∨ t = .boolean ∨ t = .byte ∨ t = .char ∨ t = .short) ∧ ∃ z, w = .int z) ∨ (i = .lreturn ∧ t = .long ∧ ∃ z, w = .long z) ∨ (i = .dreturn ∧ t = .double ∧ ∃ z, w = .double z) ∨ (i = .freturn ∧ t = .float ∧ ∃ z, w = .float z) ∨ (i = .areturn ∧ t.isReference = true ∧ w.isRef = true))
    (hd : decode c.code pc = .ok (i, 1)) (hK : cells ≤ K) (hN : slots ≤ N) (hQ : Q (some w) T.heap locs) : OwnEnds p.tables e below s K N Q (T.setTop (mkF m pc Ls (w :: rest))) := by
  obtain ⟨fs, hr, hrun, hended, hW, hsame⟩ := X.leave (v := some w) (fun h => by rw [hret] at h; cases h) hlk
  exact ⟨_, _, retOut X hx hret hn hi hd hr, hrun, hended, _, _, rfl, hQ, ⟨_, rfl⟩, hW, hsame.mono hK hN⟩
theorem endI (X : Stand p l e R s m args below meth c T locs cells slots) (hx : p.tables.exec = Jvm.exec) (hlk : meth.locks = false) {pc : Nat} {Ls : Array Slot} {z : Int32} {rest : List Value} (hret : meth.sig.returnType = some .int)
    (hd : decode c.code pc = .ok (.ireturn, 1)) (hK : cells ≤ K) (hN : slots ≤ N) (hQ : Q (some (.int z)) T.heap locs) : OwnEnds p.tables e below s K N Q (T.setTop (mkF m pc Ls (.int z :: rest))) :=
  endR X hx hlk hret rfl (Or.inl ⟨rfl, Or.inl rfl, z, rfl⟩) hd hK hN hQ
theorem endZ (X : Stand p l e R s m args below meth c T locs cells slots) (hx : p.tables.exec = Jvm.exec) (hlk : meth.locks = false) {pc : Nat} {Ls : Array Slot} {z : Int32} {rest : List Value} (hret : meth.sig.returnType = some .boolean) (hn : narrow .boolean (.int z) = .int z)
    (hd : decode c.code pc = .ok (.ireturn, 1)) (hK : cells ≤ K) (hN : slots ≤ N) (hQ : Q (some (.int z)) T.heap locs) : OwnEnds p.tables e below s K N Q (T.setTop (mkF m pc Ls (.int z :: rest))) :=
  endR X hx hlk hret hn (Or.inl ⟨rfl, Or.inr (Or.inl rfl), z, rfl⟩) hd hK hN hQ
theorem endJ (X : Stand p l e R s m args below meth c T locs cells slots) (hx : p.tables.exec = Jvm.exec) (hlk : meth.locks = false) {pc : Nat} {Ls : Array Slot} {z : Int64} {rest : List Value} (hret : meth.sig.returnType = some .long)
    (hd : decode c.code pc = .ok (.lreturn, 1)) (hK : cells ≤ K) (hN : slots ≤ N) (hQ : Q (some (.long z)) T.heap locs) : OwnEnds p.tables e below s K N Q (T.setTop (mkF m pc Ls (.long z :: rest))) :=
  endR X hx hlk hret rfl (Or.inr (Or.inl ⟨rfl, rfl, z, rfl⟩)) hd hK hN hQ
theorem endA (X : Stand p l e R s m args below meth c T locs cells slots) (hx : p.tables.exec = Jvm.exec) (hlk : meth.locks = false) {pc : Nat} {Ls : Array Slot} {w : Value} {t : FieldType} {rest : List Value} (hret : meth.sig.returnType = some t) (ht : t.isReference = true) (hw : w.isRef = true)
    (hd : decode c.code pc = .ok (.areturn, 1)) (hK : cells ≤ K) (hN : slots ≤ N) (hQ : Q (some w) T.heap locs) : OwnEnds p.tables e below s K N Q (T.setTop (mkF m pc Ls (w :: rest))) :=
  endR X hx hlk hret (by rcases ref_cases hw with rfl | ⟨a, rfl⟩ <;> cases t <;> simp_all [narrow, FieldType.isReference]) (Or.inr (Or.inr (Or.inr (Or.inr ⟨rfl, ht, hw⟩)))) hd hK hN hQ
theorem endV (X : Stand p l e R s m args below meth c T locs cells slots) (hx : p.tables.exec = Jvm.exec) (hlk : meth.locks = false) {pc : Nat} {Ls : Array Slot} (hret : meth.sig.returnType = none)
    (hd : decode c.code pc = .ok (.return_, 1)) (hK : cells ≤ K) (hN : slots ≤ N) (hQ : Q none T.heap locs) : OwnEnds p.tables e below s K N Q (T.setTop (mkF m pc Ls [])) := by
  obtain ⟨fs, hr, hrun, hended, hW, hsame⟩ := X.leave (v := none) (fun _ => rfl) hlk
  exact ⟨_, _, X.returnOut hx hret hd hr, hrun, hended, _, _, rfl, hQ, ⟨_, rfl⟩, hW, hsame.mono hK hN⟩
end Own
end Jvm.OwnW
namespace Jvm.Pilot.@@N@@
open Jvm Jvm.ClassFile Sem Op Lib Jvm.Free Jvm.Stand Jvm.LawKit Jvm.RoadKit Jvm.OwnW Bundle Jvm.Pilot.@@N@@.Jvm.D
theorem own_cat {v : Value} (h : v.isRef = true) : v.category = 1 := by rcases ref_cases h with rfl | ⟨a, rfl⟩ <;> rfl
theorem own_ite {q : Prop} [Decidable q] {a b : Value} (ha : a.isRef = true) (hb : b.isRef = true) : (if q then a else b).isRef = true := by split <;> assumption
theorem own_fld {args : Array Value} {s : State} {t : Term} {C n d : String} {k : Int32} {a : Addr} (h : (Cond.eq (.field t C n d) (.int k)).value args s none s [] = some true) (ev : t.eval args s none [] s = some (.ref a)) : Fld s s.heap a C n d (.int k) := by
  obtain ⟨x, y, e1, e2, -, -⟩ := cmp_v (Or.inl h)
  have e3 : y = .int k := (Option.some.inj (e2.symm.trans (Term.int_eval k)))
  subst e3
  have e4 : s.fieldOf? a C n d = some x := by simpa [Term.eval, ev] using e1
  cases x <;> simp [Cond.value, e1, e2] at h
  subst h
  exact Fld.start e4
theorem own_narb (x : Int32) : nar .byte x.toInt8.toInt32 = x.toInt8.toInt32 := by simp [nar]
def Av (Z : State) (h : Heap) (a : Addr) (ty : FieldType) (z : Int32) (vs : List Value) (d : Value) : Prop := ∃ k, Arv Z h a k ty z vs d
theorem Av.ext {Z : State} {h h' : Heap} {a : Addr} {ty : FieldType} {z : Int32} {vs : List Value} {d : Value} (F : Av Z h a ty z vs d) (E : Ext h h') : Av Z h' a ty z vs d := by obtain ⟨k, F⟩ := F; exact ⟨k, F.ext E⟩
theorem Av.other {Z : State} {h h' : Heap} {a b : Addr} {ty : FieldType} {z : Int32} {vs : List Value} {d v : Value} {sl : Nat} (F : Av Z h a ty z vs d) (W : Wr h h' b sl v) (q : a ≠ b) : Av Z h' a ty z vs d := by obtain ⟨k, F⟩ := F; exact ⟨k, F.other W q⟩
theorem Av.keep {Z : State} {h h' : Heap} {a : Addr} {ty : FieldType} {z : Int32} {vs : List Value} {d : Value} {ws : List Addr} (F : Av Z h a ty z vs d) (K : Keep h h' ws) (q : a ∉ ws) : Av Z h' a ty z vs d := by obtain ⟨k, F⟩ := F; exact ⟨k, F.keep K q⟩
theorem Av.lt {Z : State} {h : Heap} {a : Addr} {ty : FieldType} {z : Int32} {vs : List Value} {d : Value} (F : Av Z h a ty z vs d) : a < h.size := by obtain ⟨k, F⟩ := F; exact F.lt
theorem own_rng (x n : Int32) (hn : 0 < n.toInt) : 0 ≤ ((x &&& 2147483647) % n).toInt ∧ ((x &&& 2147483647) % n).toInt < n.toInt := by
  have e1 : (x &&& 2147483647).toInt = x.toInt % 2 ^ 31 := Jvm.Kit.i32_mask x 2147483647 (k := 31) (by decide) (by decide)
  have e2 := Jvm.Kit.i32_rem_nonneg (x := x &&& 2147483647) (y := n) (by omega)
  rw [e2]
  exact ⟨Int.emod_nonneg _ (by omega), Int.emod_lt_of_pos _ hn⟩
theorem own_case9 {k : Int32} (h : 0 ≤ k.toInt ∧ k.toInt < 9) : k = 0 ∨ k = 1 ∨ k = 2 ∨ k = 3 ∨ k = 4 ∨ k = 5 ∨ k = 6 ∨ k = 7 ∨ k = 8 := by
  rcases (by omega : k.toInt = 0 ∨ k.toInt = 1 ∨ k.toInt = 2 ∨ k.toInt = 3 ∨ k.toInt = 4 ∨ k.toInt = 5 ∨ k.toInt = 6 ∨ k.toInt = 7 ∨ k.toInt = 8) with q | q | q | q | q | q | q | q | q
  · exact Or.inl (Int32.toInt_inj.mp (q.trans (by decide)))
  · exact Or.inr (Or.inl (Int32.toInt_inj.mp (q.trans (by decide))))
  · exact Or.inr (Or.inr (Or.inl (Int32.toInt_inj.mp (q.trans (by decide)))))
  · exact Or.inr (Or.inr (Or.inr (Or.inl (Int32.toInt_inj.mp (q.trans (by decide))))))
  · exact Or.inr (Or.inr (Or.inr (Or.inr (Or.inl (Int32.toInt_inj.mp (q.trans (by decide)))))))
  · exact Or.inr (Or.inr (Or.inr (Or.inr (Or.inr (Or.inl (Int32.toInt_inj.mp (q.trans (by decide))))))))
  · exact Or.inr (Or.inr (Or.inr (Or.inr (Or.inr (Or.inr (Or.inl (Int32.toInt_inj.mp (q.trans (by decide)))))))))
  · exact Or.inr (Or.inr (Or.inr (Or.inr (Or.inr (Or.inr (Or.inr (Or.inl (Int32.toInt_inj.mp (q.trans (by decide))))))))))
  · exact Or.inr (Or.inr (Or.inr (Or.inr (Or.inr (Or.inr (Or.inr (Or.inr ((Int32.toInt_inj.mp (q.trans (by decide)))))))))))
theorem own_case4 {k : Int32} (h : 0 ≤ k.toInt ∧ k.toInt < 4) : k = 0 ∨ k = 1 ∨ k = 2 ∨ k = 3 := by
  rcases (by omega : k.toInt = 0 ∨ k.toInt = 1 ∨ k.toInt = 2 ∨ k.toInt = 3) with q | q | q | q
  · exact Or.inl (Int32.toInt_inj.mp (q.trans (by decide)))
  · exact Or.inr (Or.inl (Int32.toInt_inj.mp (q.trans (by decide))))
  · exact Or.inr (Or.inr (Or.inl (Int32.toInt_inj.mp (q.trans (by decide)))))
  · exact Or.inr (Or.inr (Or.inr ((Int32.toInt_inj.mp (q.trans (by decide))))))

theorem own_and3 (x : Int32) : 0 ≤ (x &&& 3).toInt ∧ (x &&& 3).toInt < 4 := by
  have e : (x &&& 3).toInt = x.toInt % 2 ^ 2 := Jvm.Kit.i32_mask x 3 (k := 2) (by decide) (by decide)
  omega
def own_pick (k : Int32) (w_INPUT_DATA w_OUTPUT_DATA w_CONFIGURATION w_EXPONENT w_MODULUS w_COUNTER w_CLOCK_OFFSET w_ROM_DATA w_RANDOM_FILL : Addr) : Addr := if k = 0 then w_INPUT_DATA else if k = 1 then w_OUTPUT_DATA else if k = 2 then w_CONFIGURATION else if k = 3 then w_EXPONENT else if k = 4 then w_MODULUS else if k = 5 then w_COUNTER else if k = 6 then w_CLOCK_OFFSET else if k = 7 then w_ROM_DATA else w_RANDOM_FILL
theorem d1_0 : decode method_2_code 0 = .ok (.iload_n 0, 1) := by decide +kernel
theorem d1_1 : decode method_2_code 1 = .ok (.ifCond .ne 7, 3) := by decide +kernel
theorem d1_4 : decode method_2_code 4 = .ok (.getstatic 7, 3) := by decide +kernel
theorem d1_7 : decode method_2_code 7 = .ok (.areturn, 1) := by decide +kernel
theorem d1_8 : decode method_2_code 8 = .ok (.iload_n 0, 1) := by decide +kernel
theorem d1_9 : decode method_2_code 9 = .ok (.iconst 1, 1) := by decide +kernel
theorem d1_10 : decode method_2_code 10 = .ok (.if_icmp .ne 7, 3) := by decide +kernel
theorem d1_13 : decode method_2_code 13 = .ok (.getstatic 13, 3) := by decide +kernel
theorem d1_16 : decode method_2_code 16 = .ok (.areturn, 1) := by decide +kernel
theorem d1_17 : decode method_2_code 17 = .ok (.iload_n 0, 1) := by decide +kernel
theorem d1_18 : decode method_2_code 18 = .ok (.iconst 2, 1) := by decide +kernel
theorem d1_19 : decode method_2_code 19 = .ok (.if_icmp .ne 7, 3) := by decide +kernel
theorem d1_22 : decode method_2_code 22 = .ok (.getstatic 16, 3) := by decide +kernel
theorem d1_25 : decode method_2_code 25 = .ok (.areturn, 1) := by decide +kernel
theorem d1_26 : decode method_2_code 26 = .ok (.iload_n 0, 1) := by decide +kernel
theorem d1_27 : decode method_2_code 27 = .ok (.iconst 3, 1) := by decide +kernel
theorem d1_28 : decode method_2_code 28 = .ok (.if_icmp .ne 7, 3) := by decide +kernel
theorem d1_31 : decode method_2_code 31 = .ok (.getstatic 19, 3) := by decide +kernel
theorem d1_34 : decode method_2_code 34 = .ok (.areturn, 1) := by decide +kernel
theorem d1_35 : decode method_2_code 35 = .ok (.iload_n 0, 1) := by decide +kernel
theorem d1_36 : decode method_2_code 36 = .ok (.iconst 4, 1) := by decide +kernel
theorem d1_37 : decode method_2_code 37 = .ok (.if_icmp .ne 7, 3) := by decide +kernel
theorem d1_40 : decode method_2_code 40 = .ok (.getstatic 22, 3) := by decide +kernel
theorem d1_43 : decode method_2_code 43 = .ok (.areturn, 1) := by decide +kernel
theorem d1_44 : decode method_2_code 44 = .ok (.iload_n 0, 1) := by decide +kernel
theorem d1_45 : decode method_2_code 45 = .ok (.iconst 5, 1) := by decide +kernel
theorem d1_46 : decode method_2_code 46 = .ok (.if_icmp .ne 7, 3) := by decide +kernel
theorem d1_49 : decode method_2_code 49 = .ok (.getstatic 25, 3) := by decide +kernel
theorem d1_52 : decode method_2_code 52 = .ok (.areturn, 1) := by decide +kernel
theorem d1_53 : decode method_2_code 53 = .ok (.iload_n 0, 1) := by decide +kernel
theorem d1_54 : decode method_2_code 54 = .ok (.bipush 6, 2) := by decide +kernel
theorem d1_56 : decode method_2_code 56 = .ok (.if_icmp .ne 7, 3) := by decide +kernel
theorem d1_59 : decode method_2_code 59 = .ok (.getstatic 28, 3) := by decide +kernel
theorem d1_62 : decode method_2_code 62 = .ok (.areturn, 1) := by decide +kernel
theorem d1_63 : decode method_2_code 63 = .ok (.iload_n 0, 1) := by decide +kernel
theorem d1_64 : decode method_2_code 64 = .ok (.bipush 7, 2) := by decide +kernel
theorem d1_66 : decode method_2_code 66 = .ok (.if_icmp .ne 7, 3) := by decide +kernel
theorem d1_69 : decode method_2_code 69 = .ok (.getstatic 31, 3) := by decide +kernel
theorem d1_72 : decode method_2_code 72 = .ok (.areturn, 1) := by decide +kernel
theorem d1_73 : decode method_2_code 73 = .ok (.getstatic 34, 3) := by decide +kernel
theorem d1_76 : decode method_2_code 76 = .ok (.areturn, 1) := by decide +kernel
theorem pn_ObjectTypeInitialValuePinLaw : plainName "com/example/opaque_token/opaquetoken/token/ObjectTypeInitialValuePinLaw" = true := by first | (simp [plainName, overriddenIn]; done) | decide +kernel
theorem ef_1 (m : MethodId) (x0 : Int32) : entryFrame m #[(.int x0)] 1 = mkF m 0 #[.val (.int x0)] [] := by first | (simp [entryFrame, mkF, argsToLocals, Value.category]; done) | rfl
def Q1 (Z : State) (kk : Int32) (w_INPUT_DATA w_OUTPUT_DATA w_CONFIGURATION w_EXPONENT w_MODULUS w_COUNTER w_CLOCK_OFFSET w_ROM_DATA w_RANDOM_FILL : Addr) (h0 : Heap) (n0 : Nat) (v : Option Value) (h : Heap) (L : List Loc) : Prop := v = some (.ref (own_pick kk w_INPUT_DATA w_OUTPUT_DATA w_CONFIGURATION w_EXPONENT w_MODULUS w_COUNTER w_CLOCK_OFFSET w_ROM_DATA w_RANDOM_FILL)) ∧ Fr n0 L ∧ h = h0
set_option maxRecDepth 65536 in
set_option maxHeartbeats 40000000 in
theorem rm1 (l : Launch) (Z : State) (a0 : Array Value) (hw : ∀ d ∈ tables_1, d.before a0 Z = true) (ws : List Jvm.Cond) (kk : Int32) (w_INPUT_DATA w_OUTPUT_DATA w_CONFIGURATION w_EXPONENT w_MODULUS w_COUNTER w_CLOCK_OFFSET w_ROM_DATA w_RANDOM_FILL : Addr) (h0 : Heap) (n0 : Nat) (Z0 : n0 ≤ h0.size) (OLD : Old Z n0 h0) (S_INPUT_DATA : Sta Z Z.heap "com/example/opaque_token/opaquetoken/token/ObjectType" "INPUT_DATA" "Lcom/example/opaque_token/opaquetoken/token/ObjectType;" (.ref w_INPUT_DATA)) (S_OUTPUT_DATA : Sta Z Z.heap "com/example/opaque_token/opaquetoken/token/ObjectType" "OUTPUT_DATA" "Lcom/example/opaque_token/opaquetoken/token/ObjectType;" (.ref w_OUTPUT_DATA)) (S_CONFIGURATION : Sta Z Z.heap "com/example/opaque_token/opaquetoken/token/ObjectType" "CONFIGURATION" "Lcom/example/opaque_token/opaquetoken/token/ObjectType;" (.ref w_CONFIGURATION)) (S_EXPONENT : Sta Z Z.heap "com/example/opaque_token/opaquetoken/token/ObjectType" "EXPONENT" "Lcom/example/opaque_token/opaquetoken/token/ObjectType;" (.ref w_EXPONENT)) (S_MODULUS : Sta Z Z.heap "com/example/opaque_token/opaquetoken/token/ObjectType" "MODULUS" "Lcom/example/opaque_token/opaquetoken/token/ObjectType;" (.ref w_MODULUS)) (S_COUNTER : Sta Z Z.heap "com/example/opaque_token/opaquetoken/token/ObjectType" "COUNTER" "Lcom/example/opaque_token/opaquetoken/token/ObjectType;" (.ref w_COUNTER)) (S_CLOCK_OFFSET : Sta Z Z.heap "com/example/opaque_token/opaquetoken/token/ObjectType" "CLOCK_OFFSET" "Lcom/example/opaque_token/opaquetoken/token/ObjectType;" (.ref w_CLOCK_OFFSET)) (S_ROM_DATA : Sta Z Z.heap "com/example/opaque_token/opaquetoken/token/ObjectType" "ROM_DATA" "Lcom/example/opaque_token/opaquetoken/token/ObjectType;" (.ref w_ROM_DATA)) (S_RANDOM_FILL : Sta Z Z.heap "com/example/opaque_token/opaquetoken/token/ObjectType" "RANDOM_FILL" "Lcom/example/opaque_token/opaquetoken/token/ObjectType;" (.ref w_RANDOM_FILL)) :
    MetFree l (⟨"com/example/opaque_token/opaquetoken/token/ObjectTypeInitialValuePinLaw", "pick", "(I)Lcom/example/opaque_token/opaquetoken/token/ObjectType;"⟩ : MethodName) (head1 (Jvm.Cond.code (⟨"com/example/opaque_token/opaquetoken/token/ObjectTypeInitialValuePinLaw", "pick", "(I)Lcom/example/opaque_token/opaquetoken/token/ObjectType;"⟩ : MethodName) method_2_code 1 (some (.object "com/example/opaque_token/opaquetoken/token/ObjectType")) :: ws) ({ frames := 0, cells := 0, slots := 0, locals := 0 } : Room)) (fun a U => a = #[(.int kk)] ∧ Z.Warmed39 U.vm ∧ U.heap = h0) (fun _ _ _ _ _ => True) (fun _ U o U' => ∃ v L, o = .returned v ∧ Q1 Z kk w_INPUT_DATA w_OUTPUT_DATA w_CONFIGURATION w_EXPONENT w_MODULUS w_COUNTER w_CLOCK_OFFSET w_ROM_DATA w_RANDOM_FILL h0 n0 v U'.heap L ∧ FrameEnd U o U' L ({ frames := 0, cells := 0, slots := 0, locals := 0 } : Room).cells ({ frames := 0, cells := 0, slots := 0, locals := 0 } : Room).slots) := by
  refine MetFree.of_bodySF (plainFor_of_name pn_ObjectTypeInitialValuePinLaw) hisR ?_
  intro p e s m args below meth c s₁ Bd hml0 hP hK
  obtain ⟨rfl, hZ, hh⟩ := hP
  have hx := Bd.exec
  have hby := Bd.bytes
  have hml : c.maxLocals = 1 := hml0
  have hown : s.vm.findClass "com/example/opaque_token/opaquetoken/token/ObjectTypeInitialValuePinLaw" = some m.cls := findClass_of_methodNamed Bd.named
  have hnm := (name_of_methodNamed Bd.named Bd.method).1
  have hlk : meth.locks = false := BodyLoose.notSynchronized Bd
  have X0 : Stand p l e ({ frames := 0, cells := 0, slots := 0, locals := 0 } : Room) s m #[(.int kk)] below meth c s₁ [] 0 0 := Stand.of_body Bd
  have e0 : s₁.heap = h0 := by rw [← hh, Bd.state]; rfl
  have N0 := Fr.nil n0
  refine ogo (U' := s₁.setTop (mkF m 0 #[.val (.int kk)] [])) (Q := Q1 Z kk w_INPUT_DATA w_OUTPUT_DATA w_CONFIGURATION w_EXPONENT w_MODULUS w_COUNTER w_CLOCK_OFFSET w_ROM_DATA w_RANDOM_FILL h0 n0) (K := ({ frames := 0, cells := 0, slots := 0, locals := 0 } : Room).cells) (N := ({ frames := 0, cells := 0, slots := 0, locals := 0 } : Room).slots) (fun t k => castTop (ef_1 m kk) k) ?_
  show OwnEnds _ _ _ _ _ _ _ (s₁.setTop (mkF m 0 #[.val (.int kk)] []))
  refine ogo (fun t k => XS.iloadN X0.here hx rfl (hb hby d1_0) rfl k) ?_
  show OwnEnds _ _ _ _ _ _ _ (s₁.setTop (mkF m 1 #[.val (.int kk)] [(.int kk)]))
  by_cases hc1 : kk = (0 : Int32)
  · refine ogo (fun t k => XS.ifNo X0.here hx rfl (hb hby d1_1) rfl ((if0 _ _).trans (teq hc1).2) k) ?_
    show OwnEnds _ _ _ _ _ _ _ (s₁.setTop (mkF m 4 #[.val (.int kk)] []))
    obtain ⟨T2, X2, e2, st2⟩ := getS2 X0 hx hZ hown (host := "") (Or.inl (hw _ (List.mem_of_getElem? (i := 5) rfl))) Via.refl e0 (S_INPUT_DATA.ext OLD.2) (g := (mkF m 4 #[.val (.int kk)] [])) rfl (hb hby d1_4)
    refine ogo st2 ?_
    show OwnEnds _ _ _ _ _ _ _ (T2.setTop (mkF m 7 #[.val (.int kk)] [(.ref w_INPUT_DATA)]))
    refine endA X2 hx hlk Bd.returns rfl rfl (hb hby d1_7) (by decide) (by decide) ?_
    show Q1 Z kk w_INPUT_DATA w_OUTPUT_DATA w_CONFIGURATION w_EXPONENT w_MODULUS w_COUNTER w_CLOCK_OFFSET w_ROM_DATA w_RANDOM_FILL h0 n0 _ T2.heap _
    rw [e2]
    exact ⟨by simp [own_pick, hc1], N0, rfl⟩
  · refine ogo (fun t k => XS.ifYes X0.here hx rfl (pc0 := 1) (pc' := 8) rfl (hb hby d1_1) rfl ((if0 _ _).trans (feq hc1).2) (by decide) (by decide) k) ?_
    show OwnEnds _ _ _ _ _ _ _ (s₁.setTop (mkF m 8 #[.val (.int kk)] []))
    refine ogo (fun t k => XS.iloadN X0.here hx rfl (hb hby d1_8) rfl k) ?_
    show OwnEnds _ _ _ _ _ _ _ (s₁.setTop (mkF m 9 #[.val (.int kk)] [(.int kk)]))
    refine ogo (fun t k => XS.iconst X0.here hx rfl (hb hby d1_9) k) ?_
    show OwnEnds _ _ _ _ _ _ _ (s₁.setTop (mkF m 10 #[.val (.int kk)] [(.int (1 : Int32)), (.int kk)]))
    by_cases hc3 : kk = (1 : Int32)
    · refine ogo (fun t k => XS.icmpNo X0.here hx rfl (hb hby d1_10) rfl (teq hc3).2 k) ?_
      show OwnEnds _ _ _ _ _ _ _ (s₁.setTop (mkF m 13 #[.val (.int kk)] []))
      obtain ⟨T4, X4, e4, st4⟩ := getS2 X0 hx hZ hown (host := "") (Or.inl (hw _ (List.mem_of_getElem? (i := 24) rfl))) Via.refl e0 (S_OUTPUT_DATA.ext OLD.2) (g := (mkF m 13 #[.val (.int kk)] [])) rfl (hb hby d1_13)
      refine ogo st4 ?_
      show OwnEnds _ _ _ _ _ _ _ (T4.setTop (mkF m 16 #[.val (.int kk)] [(.ref w_OUTPUT_DATA)]))
      refine endA X4 hx hlk Bd.returns rfl rfl (hb hby d1_16) (by decide) (by decide) ?_
      show Q1 Z kk w_INPUT_DATA w_OUTPUT_DATA w_CONFIGURATION w_EXPONENT w_MODULUS w_COUNTER w_CLOCK_OFFSET w_ROM_DATA w_RANDOM_FILL h0 n0 _ T4.heap _
      rw [e4]
      exact ⟨by simp [own_pick, hc1, hc3], N0, rfl⟩
    · refine ogo (fun t k => XS.icmpYes X0.here hx rfl (pc0 := 10) (pc' := 17) rfl (hb hby d1_10) rfl (feq hc3).2 (by decide) (by decide) k) ?_
      show OwnEnds _ _ _ _ _ _ _ (s₁.setTop (mkF m 17 #[.val (.int kk)] []))
      refine ogo (fun t k => XS.iloadN X0.here hx rfl (hb hby d1_17) rfl k) ?_
      show OwnEnds _ _ _ _ _ _ _ (s₁.setTop (mkF m 18 #[.val (.int kk)] [(.int kk)]))
      refine ogo (fun t k => XS.iconst X0.here hx rfl (hb hby d1_18) k) ?_
      show OwnEnds _ _ _ _ _ _ _ (s₁.setTop (mkF m 19 #[.val (.int kk)] [(.int (2 : Int32)), (.int kk)]))
      by_cases hc5 : kk = (2 : Int32)
      · refine ogo (fun t k => XS.icmpNo X0.here hx rfl (hb hby d1_19) rfl (teq hc5).2 k) ?_
        show OwnEnds _ _ _ _ _ _ _ (s₁.setTop (mkF m 22 #[.val (.int kk)] []))
        obtain ⟨T6, X6, e6, st6⟩ := getS2 X0 hx hZ hown (host := "") (Or.inl (hw _ (List.mem_of_getElem? (i := 31) rfl))) Via.refl e0 (S_CONFIGURATION.ext OLD.2) (g := (mkF m 22 #[.val (.int kk)] [])) rfl (hb hby d1_22)
        refine ogo st6 ?_
        show OwnEnds _ _ _ _ _ _ _ (T6.setTop (mkF m 25 #[.val (.int kk)] [(.ref w_CONFIGURATION)]))
        refine endA X6 hx hlk Bd.returns rfl rfl (hb hby d1_25) (by decide) (by decide) ?_
        show Q1 Z kk w_INPUT_DATA w_OUTPUT_DATA w_CONFIGURATION w_EXPONENT w_MODULUS w_COUNTER w_CLOCK_OFFSET w_ROM_DATA w_RANDOM_FILL h0 n0 _ T6.heap _
        rw [e6]
        exact ⟨by simp [own_pick, hc1, hc3, hc5], N0, rfl⟩
      · refine ogo (fun t k => XS.icmpYes X0.here hx rfl (pc0 := 19) (pc' := 26) rfl (hb hby d1_19) rfl (feq hc5).2 (by decide) (by decide) k) ?_
        show OwnEnds _ _ _ _ _ _ _ (s₁.setTop (mkF m 26 #[.val (.int kk)] []))
        refine ogo (fun t k => XS.iloadN X0.here hx rfl (hb hby d1_26) rfl k) ?_
        show OwnEnds _ _ _ _ _ _ _ (s₁.setTop (mkF m 27 #[.val (.int kk)] [(.int kk)]))
        refine ogo (fun t k => XS.iconst X0.here hx rfl (hb hby d1_27) k) ?_
        show OwnEnds _ _ _ _ _ _ _ (s₁.setTop (mkF m 28 #[.val (.int kk)] [(.int (3 : Int32)), (.int kk)]))
        by_cases hc7 : kk = (3 : Int32)
        · refine ogo (fun t k => XS.icmpNo X0.here hx rfl (hb hby d1_28) rfl (teq hc7).2 k) ?_
          show OwnEnds _ _ _ _ _ _ _ (s₁.setTop (mkF m 31 #[.val (.int kk)] []))
          obtain ⟨T8, X8, e8, st8⟩ := getS2 X0 hx hZ hown (host := "") (Or.inl (hw _ (List.mem_of_getElem? (i := 29) rfl))) Via.refl e0 (S_EXPONENT.ext OLD.2) (g := (mkF m 31 #[.val (.int kk)] [])) rfl (hb hby d1_31)
          refine ogo st8 ?_
          show OwnEnds _ _ _ _ _ _ _ (T8.setTop (mkF m 34 #[.val (.int kk)] [(.ref w_EXPONENT)]))
          refine endA X8 hx hlk Bd.returns rfl rfl (hb hby d1_34) (by decide) (by decide) ?_
          show Q1 Z kk w_INPUT_DATA w_OUTPUT_DATA w_CONFIGURATION w_EXPONENT w_MODULUS w_COUNTER w_CLOCK_OFFSET w_ROM_DATA w_RANDOM_FILL h0 n0 _ T8.heap _
          rw [e8]
          exact ⟨by simp [own_pick, hc1, hc3, hc5, hc7], N0, rfl⟩
        · refine ogo (fun t k => XS.icmpYes X0.here hx rfl (pc0 := 28) (pc' := 35) rfl (hb hby d1_28) rfl (feq hc7).2 (by decide) (by decide) k) ?_
          show OwnEnds _ _ _ _ _ _ _ (s₁.setTop (mkF m 35 #[.val (.int kk)] []))
          refine ogo (fun t k => XS.iloadN X0.here hx rfl (hb hby d1_35) rfl k) ?_
          show OwnEnds _ _ _ _ _ _ _ (s₁.setTop (mkF m 36 #[.val (.int kk)] [(.int kk)]))
          refine ogo (fun t k => XS.iconst X0.here hx rfl (hb hby d1_36) k) ?_
          show OwnEnds _ _ _ _ _ _ _ (s₁.setTop (mkF m 37 #[.val (.int kk)] [(.int (4 : Int32)), (.int kk)]))
          by_cases hc9 : kk = (4 : Int32)
          · refine ogo (fun t k => XS.icmpNo X0.here hx rfl (hb hby d1_37) rfl (teq hc9).2 k) ?_
            show OwnEnds _ _ _ _ _ _ _ (s₁.setTop (mkF m 40 #[.val (.int kk)] []))
            obtain ⟨T10, X10, e10, st10⟩ := getS2 X0 hx hZ hown (host := "") (Or.inl (hw _ (List.mem_of_getElem? (i := 22) rfl))) Via.refl e0 (S_MODULUS.ext OLD.2) (g := (mkF m 40 #[.val (.int kk)] [])) rfl (hb hby d1_40)
            refine ogo st10 ?_
            show OwnEnds _ _ _ _ _ _ _ (T10.setTop (mkF m 43 #[.val (.int kk)] [(.ref w_MODULUS)]))
            refine endA X10 hx hlk Bd.returns rfl rfl (hb hby d1_43) (by decide) (by decide) ?_
            show Q1 Z kk w_INPUT_DATA w_OUTPUT_DATA w_CONFIGURATION w_EXPONENT w_MODULUS w_COUNTER w_CLOCK_OFFSET w_ROM_DATA w_RANDOM_FILL h0 n0 _ T10.heap _
            rw [e10]
            exact ⟨by simp [own_pick, hc1, hc3, hc5, hc7, hc9], N0, rfl⟩
          · refine ogo (fun t k => XS.icmpYes X0.here hx rfl (pc0 := 37) (pc' := 44) rfl (hb hby d1_37) rfl (feq hc9).2 (by decide) (by decide) k) ?_
            show OwnEnds _ _ _ _ _ _ _ (s₁.setTop (mkF m 44 #[.val (.int kk)] []))
            refine ogo (fun t k => XS.iloadN X0.here hx rfl (hb hby d1_44) rfl k) ?_
            show OwnEnds _ _ _ _ _ _ _ (s₁.setTop (mkF m 45 #[.val (.int kk)] [(.int kk)]))
            refine ogo (fun t k => XS.iconst X0.here hx rfl (hb hby d1_45) k) ?_
            show OwnEnds _ _ _ _ _ _ _ (s₁.setTop (mkF m 46 #[.val (.int kk)] [(.int (5 : Int32)), (.int kk)]))
            by_cases hc11 : kk = (5 : Int32)
            · refine ogo (fun t k => XS.icmpNo X0.here hx rfl (hb hby d1_46) rfl (teq hc11).2 k) ?_
              show OwnEnds _ _ _ _ _ _ _ (s₁.setTop (mkF m 49 #[.val (.int kk)] []))
              obtain ⟨T12, X12, e12, st12⟩ := getS2 X0 hx hZ hown (host := "") (Or.inl (hw _ (List.mem_of_getElem? (i := 18) rfl))) Via.refl e0 (S_COUNTER.ext OLD.2) (g := (mkF m 49 #[.val (.int kk)] [])) rfl (hb hby d1_49)
              refine ogo st12 ?_
              show OwnEnds _ _ _ _ _ _ _ (T12.setTop (mkF m 52 #[.val (.int kk)] [(.ref w_COUNTER)]))
              refine endA X12 hx hlk Bd.returns rfl rfl (hb hby d1_52) (by decide) (by decide) ?_
              show Q1 Z kk w_INPUT_DATA w_OUTPUT_DATA w_CONFIGURATION w_EXPONENT w_MODULUS w_COUNTER w_CLOCK_OFFSET w_ROM_DATA w_RANDOM_FILL h0 n0 _ T12.heap _
              rw [e12]
              exact ⟨by simp [own_pick, hc1, hc3, hc5, hc7, hc9, hc11], N0, rfl⟩
            · refine ogo (fun t k => XS.icmpYes X0.here hx rfl (pc0 := 46) (pc' := 53) rfl (hb hby d1_46) rfl (feq hc11).2 (by decide) (by decide) k) ?_
              show OwnEnds _ _ _ _ _ _ _ (s₁.setTop (mkF m 53 #[.val (.int kk)] []))
              refine ogo (fun t k => XS.iloadN X0.here hx rfl (hb hby d1_53) rfl k) ?_
              show OwnEnds _ _ _ _ _ _ _ (s₁.setTop (mkF m 54 #[.val (.int kk)] [(.int kk)]))
              refine ogo (fun t k => XS.bipush X0.here hx rfl (hb hby d1_54) k) ?_
              show OwnEnds _ _ _ _ _ _ _ (s₁.setTop (mkF m 56 #[.val (.int kk)] [(.int (6 : Int32)), (.int kk)]))
              by_cases hc13 : kk = (6 : Int32)
              · refine ogo (fun t k => XS.icmpNo X0.here hx rfl (hb hby d1_56) rfl (teq hc13).2 k) ?_
                show OwnEnds _ _ _ _ _ _ _ (s₁.setTop (mkF m 59 #[.val (.int kk)] []))
                obtain ⟨T14, X14, e14, st14⟩ := getS2 X0 hx hZ hown (host := "") (Or.inl (hw _ (List.mem_of_getElem? (i := 26) rfl))) Via.refl e0 (S_CLOCK_OFFSET.ext OLD.2) (g := (mkF m 59 #[.val (.int kk)] [])) rfl (hb hby d1_59)
                refine ogo st14 ?_
                show OwnEnds _ _ _ _ _ _ _ (T14.setTop (mkF m 62 #[.val (.int kk)] [(.ref w_CLOCK_OFFSET)]))
                refine endA X14 hx hlk Bd.returns rfl rfl (hb hby d1_62) (by decide) (by decide) ?_
                show Q1 Z kk w_INPUT_DATA w_OUTPUT_DATA w_CONFIGURATION w_EXPONENT w_MODULUS w_COUNTER w_CLOCK_OFFSET w_ROM_DATA w_RANDOM_FILL h0 n0 _ T14.heap _
                rw [e14]
                exact ⟨by simp [own_pick, hc1, hc3, hc5, hc7, hc9, hc11, hc13], N0, rfl⟩
              · refine ogo (fun t k => XS.icmpYes X0.here hx rfl (pc0 := 56) (pc' := 63) rfl (hb hby d1_56) rfl (feq hc13).2 (by decide) (by decide) k) ?_
                show OwnEnds _ _ _ _ _ _ _ (s₁.setTop (mkF m 63 #[.val (.int kk)] []))
                refine ogo (fun t k => XS.iloadN X0.here hx rfl (hb hby d1_63) rfl k) ?_
                show OwnEnds _ _ _ _ _ _ _ (s₁.setTop (mkF m 64 #[.val (.int kk)] [(.int kk)]))
                refine ogo (fun t k => XS.bipush X0.here hx rfl (hb hby d1_64) k) ?_
                show OwnEnds _ _ _ _ _ _ _ (s₁.setTop (mkF m 66 #[.val (.int kk)] [(.int (7 : Int32)), (.int kk)]))
                by_cases hc15 : kk = (7 : Int32)
                · refine ogo (fun t k => XS.icmpNo X0.here hx rfl (hb hby d1_66) rfl (teq hc15).2 k) ?_
                  show OwnEnds _ _ _ _ _ _ _ (s₁.setTop (mkF m 69 #[.val (.int kk)] []))
                  obtain ⟨T16, X16, e16, st16⟩ := getS2 X0 hx hZ hown (host := "") (Or.inl (hw _ (List.mem_of_getElem? (i := 33) rfl))) Via.refl e0 (S_ROM_DATA.ext OLD.2) (g := (mkF m 69 #[.val (.int kk)] [])) rfl (hb hby d1_69)
                  refine ogo st16 ?_
                  show OwnEnds _ _ _ _ _ _ _ (T16.setTop (mkF m 72 #[.val (.int kk)] [(.ref w_ROM_DATA)]))
                  refine endA X16 hx hlk Bd.returns rfl rfl (hb hby d1_72) (by decide) (by decide) ?_
                  show Q1 Z kk w_INPUT_DATA w_OUTPUT_DATA w_CONFIGURATION w_EXPONENT w_MODULUS w_COUNTER w_CLOCK_OFFSET w_ROM_DATA w_RANDOM_FILL h0 n0 _ T16.heap _
                  rw [e16]
                  exact ⟨by simp [own_pick, hc1, hc3, hc5, hc7, hc9, hc11, hc13, hc15], N0, rfl⟩
                · refine ogo (fun t k => XS.icmpYes X0.here hx rfl (pc0 := 66) (pc' := 73) rfl (hb hby d1_66) rfl (feq hc15).2 (by decide) (by decide) k) ?_
                  show OwnEnds _ _ _ _ _ _ _ (s₁.setTop (mkF m 73 #[.val (.int kk)] []))
                  obtain ⟨T17, X17, e17, st17⟩ := getS2 X0 hx hZ hown (host := "") (Or.inl (hw _ (List.mem_of_getElem? (i := 27) rfl))) Via.refl e0 (S_RANDOM_FILL.ext OLD.2) (g := (mkF m 73 #[.val (.int kk)] [])) rfl (hb hby d1_73)
                  refine ogo st17 ?_
                  show OwnEnds _ _ _ _ _ _ _ (T17.setTop (mkF m 76 #[.val (.int kk)] [(.ref w_RANDOM_FILL)]))
                  refine endA X17 hx hlk Bd.returns rfl rfl (hb hby d1_76) (by decide) (by decide) ?_
                  show Q1 Z kk w_INPUT_DATA w_OUTPUT_DATA w_CONFIGURATION w_EXPONENT w_MODULUS w_COUNTER w_CLOCK_OFFSET w_ROM_DATA w_RANDOM_FILL h0 n0 _ T17.heap _
                  rw [e17]
                  exact ⟨by simp [own_pick, hc1, hc3, hc5, hc7, hc9, hc11, hc13, hc15], N0, rfl⟩
theorem d2_0 : decode prog_55_method_5_code 0 = .ok (.aload_n 0, 1) := by decide +kernel
theorem d2_1 : decode prog_55_method_5_code 1 = .ok (.getstatic 19, 3) := by decide +kernel
theorem d2_4 : decode prog_55_method_5_code 4 = .ok (.if_acmp .eq 10, 3) := by decide +kernel
theorem d2_7 : decode prog_55_method_5_code 7 = .ok (.aload_n 0, 1) := by decide +kernel
theorem d2_8 : decode prog_55_method_5_code 8 = .ok (.getstatic 22, 3) := by decide +kernel
theorem d2_11 : decode prog_55_method_5_code 11 = .ok (.if_acmp .ne 10, 3) := by decide +kernel
theorem d2_14 : decode prog_55_method_5_code 14 = .ok (.iconst 4, 1) := by decide +kernel
theorem d2_15 : decode prog_55_method_5_code 15 = .ok (.newarray .byte, 2) := by decide +kernel
theorem d2_17 : decode prog_55_method_5_code 17 = .ok (.astore_n 1, 1) := by decide +kernel
theorem d2_18 : decode prog_55_method_5_code 18 = .ok (.goto 7, 3) := by decide +kernel
theorem d2_21 : decode prog_55_method_5_code 21 = .ok (.iconst 0, 1) := by decide +kernel
theorem d2_22 : decode prog_55_method_5_code 22 = .ok (.newarray .byte, 2) := by decide +kernel
theorem d2_24 : decode prog_55_method_5_code 24 = .ok (.astore_n 1, 1) := by decide +kernel
theorem d2_25 : decode prog_55_method_5_code 25 = .ok (.aload_n 1, 1) := by decide +kernel
theorem d2_26 : decode prog_55_method_5_code 26 = .ok (.areturn, 1) := by decide +kernel
theorem pn_ObjectType : plainName "com/example/opaque_token/opaquetoken/token/ObjectType" = true := by first | (simp [plainName, overriddenIn]; done) | decide +kernel
theorem ef_2 (m : MethodId) (x0 : Addr) : entryFrame m #[(.ref x0)] 2 = mkF m 0 #[.val (.ref x0), .unset] [] := by first | (simp [entryFrame, mkF, argsToLocals, Value.category]; done) | rfl
def Q2 (Z : State) (a1 w_COUNTER w_CLOCK_OFFSET : Addr) (h0 : Heap) (n0 : Nat) (v : Option Value) (h : Heap) (L : List Loc) : Prop := ∃ r : Addr, v = some (.ref r) ∧ h0.size ≤ r ∧ Fr n0 L ∧ Keep h0 h [] ∧ (((a1 = w_COUNTER ∨ a1 = w_CLOCK_OFFSET) ∧ Av Z h r .byte (4 : Int32) [(.int (0 : Int32)), (.int (0 : Int32)), (.int (0 : Int32)), (.int (0 : Int32))] (.int (0 : Int32))) ∨ (¬ a1 = w_COUNTER ∧ ¬ a1 = w_CLOCK_OFFSET ∧ Av Z h r .byte (0 : Int32) [] (.int (0 : Int32))))
set_option maxRecDepth 65536 in
set_option maxHeartbeats 40000000 in
theorem rm2 (l : Launch) (Z : State) (a0 : Array Value) (hw : ∀ d ∈ tables_1, d.before a0 Z = true) (ws : List Jvm.Cond) (a1 w_COUNTER w_CLOCK_OFFSET : Addr) (h0 : Heap) (n0 : Nat) (Z0 : n0 ≤ h0.size) (OLD : Old Z n0 h0) (S_COUNTER : Sta Z Z.heap "com/example/opaque_token/opaquetoken/token/ObjectType" "COUNTER" "Lcom/example/opaque_token/opaquetoken/token/ObjectType;" (.ref w_COUNTER)) (S_CLOCK_OFFSET : Sta Z Z.heap "com/example/opaque_token/opaquetoken/token/ObjectType" "CLOCK_OFFSET" "Lcom/example/opaque_token/opaquetoken/token/ObjectType;" (.ref w_CLOCK_OFFSET)) :
    MetFree l (⟨"com/example/opaque_token/opaquetoken/token/ObjectType", "initialValue", "()[B"⟩ : MethodName) (head1 (Jvm.Cond.code (⟨"com/example/opaque_token/opaquetoken/token/ObjectType", "initialValue", "()[B"⟩ : MethodName) prog_55_method_5_code 2 (some (.array .byte)) :: ws) ({ frames := 0, cells := 1, slots := 4, locals := 0 } : Room)) (fun a U => a = #[(.ref a1)] ∧ Z.Warmed39 U.vm ∧ U.heap = h0) (fun _ _ _ _ _ => True) (fun _ U o U' => ∃ v L, o = .returned v ∧ Q2 Z a1 w_COUNTER w_CLOCK_OFFSET h0 n0 v U'.heap L ∧ FrameEnd U o U' L ({ frames := 0, cells := 1, slots := 4, locals := 0 } : Room).cells ({ frames := 0, cells := 1, slots := 4, locals := 0 } : Room).slots) := by
  refine MetFree.of_bodySF (plainFor_of_name pn_ObjectType) hisR ?_
  intro p e s m args below meth c s₁ Bd hml0 hP hK
  obtain ⟨rfl, hZ, hh⟩ := hP
  have hx := Bd.exec
  have hby := Bd.bytes
  have hml : c.maxLocals = 2 := hml0
  have hown : s.vm.findClass "com/example/opaque_token/opaquetoken/token/ObjectType" = some m.cls := findClass_of_methodNamed Bd.named
  have hnm := (name_of_methodNamed Bd.named Bd.method).1
  have hlk : meth.locks = false := BodyLoose.notSynchronized Bd
  have X0 : Stand p l e ({ frames := 0, cells := 1, slots := 4, locals := 0 } : Room) s m #[(.ref a1)] below meth c s₁ [] 0 0 := Stand.of_body Bd
  have e0 : s₁.heap = h0 := by rw [← hh, Bd.state]; rfl
  have N0 := Fr.nil n0
  refine ogo (U' := s₁.setTop (mkF m 0 #[.val (.ref a1), .unset] [])) (Q := Q2 Z a1 w_COUNTER w_CLOCK_OFFSET h0 n0) (K := ({ frames := 0, cells := 1, slots := 4, locals := 0 } : Room).cells) (N := ({ frames := 0, cells := 1, slots := 4, locals := 0 } : Room).slots) (fun t k => castTop (ef_2 m a1) k) ?_
  show OwnEnds _ _ _ _ _ _ _ (s₁.setTop (mkF m 0 #[.val (.ref a1), .unset] []))
  refine ogo (fun t k => XS.aloadN X0.here hx rfl (hb hby d2_0) rfl rfl k) ?_
  show OwnEnds _ _ _ _ _ _ _ (s₁.setTop (mkF m 1 #[.val (.ref a1), .unset] [(.ref a1)]))
  obtain ⟨T1, X1, e1, st1⟩ := getS2 X0 hx hZ hown (host := "") (Or.inl (hw _ (List.mem_of_getElem? (i := 13) rfl))) Via.refl e0 (S_COUNTER.ext OLD.2) (g := (mkF m 1 #[.val (.ref a1), .unset] [(.ref a1)])) rfl (hb hby d2_1)
  refine ogo st1 ?_
  show OwnEnds _ _ _ _ _ _ _ (T1.setTop (mkF m 4 #[.val (.ref a1), .unset] [(.ref w_COUNTER), (.ref a1)]))
  by_cases hc2 : a1 = w_COUNTER
  · refine ogo (fun t k => Jvm.RoadKit.acmp (g := (mkF m 4 #[.val (.ref a1), .unset] [(.ref w_COUNTER), (.ref a1)])) X1 hx rfl rfl rfl (pc0 := 4) (pc' := 14) (same := true) rfl (hb hby d2_4) rfl (decide_eq_true (congrArg Value.ref hc2)) (by decide) (by decide) k) ?_
    show OwnEnds _ _ _ _ _ _ _ (T1.setTop (mkF m 14 #[.val (.ref a1), .unset] []))
    refine ogo (fun t k => XS.iconst X1.here hx rfl (hb hby d2_14) k) ?_
    show OwnEnds _ _ _ _ _ _ _ (T1.setTop (mkF m 15 #[.val (.ref a1), .unset] [(.int (4 : Int32))]))
    obtain ⟨T3, h3, k3, X3, e3, E3, A3, B3, st3⟩ := newPE X1 hx hZ (hw _ (List.mem_of_getElem? (i := 17) rfl)) e1 (g := (mkF m 15 #[.val (.ref a1), .unset] [(.int (4 : Int32))])) rfl (hb hby d2_15) rfl (by decide) (cap := 4) (by decide) (by decide) (by decide) (by decide) (ad := "[B") (by decide)
    obtain ⟨b3, g3⟩ : ∃ z, z = h0.size := ⟨_, rfl⟩
    rw [← g3] at A3 B3 st3
    have q_b3 : n0 ≤ b3 := Nat.le_trans Z0 (Nat.le_of_eq g3.symm)
    have sz_b3 : h0.size ≤ b3 := Nat.le_trans (Keep.refl h0 []).1 (Nat.le_of_eq g3.symm)
    have OLD4 := OLD.ext E3
    have K4 := (Keep.refl h0 []).ext E3
    have Z4 := Nat.le_trans Z0 E3.1
    have V3 : Arv Z h3 b3 k3 .byte (4 : Int32) [(.int (0 : Int32)), (.int (0 : Int32)), (.int (0 : Int32)), (.int (0 : Int32))] (.int (0 : Int32)) := (Arv.new A3 (by decide)).pad (pad_rep [] (.int (0 : Int32)) 4)
    refine ogo st3 ?_
    show OwnEnds _ _ _ _ _ _ _ (T3.setTop (mkF m 17 #[.val (.ref a1), .unset] [(.ref b3)]))
    refine ogo (fun t k => XS.astoreN X3.here hx rfl (hb hby d2_17) rfl rfl (l' := #[.val (.ref a1), .val (.ref b3)]) rfl k) ?_
    show OwnEnds _ _ _ _ _ _ _ (T3.setTop (mkF m 18 #[.val (.ref a1), .val (.ref b3)] []))
    refine ogo (fun t k => XS.goto X3.here hx rfl (pc0 := 18) (pc' := 25) rfl (hb hby d2_18) (by decide) (by decide) k) ?_
    show OwnEnds _ _ _ _ _ _ _ (T3.setTop (mkF m 25 #[.val (.ref a1), .val (.ref b3)] []))
    refine ogo (fun t k => XS.aloadN X3.here hx rfl (hb hby d2_25) rfl rfl k) ?_
    show OwnEnds _ _ _ _ _ _ _ (T3.setTop (mkF m 26 #[.val (.ref a1), .val (.ref b3)] [(.ref b3)]))
    refine endA X3 hx hlk Bd.returns rfl rfl (hb hby d2_26) (by decide) (by decide) ?_
    show Q2 Z a1 w_COUNTER w_CLOCK_OFFSET h0 n0 _ T3.heap _
    rw [e3]
    exact ⟨b3, rfl, sz_b3, N0, K4, Or.inl ⟨Or.inl hc2, ⟨_, V3⟩⟩⟩
  · refine ogo (fun t k => Jvm.RoadKit.acmp (g := (mkF m 4 #[.val (.ref a1), .unset] [(.ref w_COUNTER), (.ref a1)])) X1 hx rfl rfl rfl (pc0 := 4) (pc' := 7) (same := false) rfl (hb hby d2_4) rfl (decide_eq_false fun q => hc2 (Value.ref.inj q)) (by decide) (by decide) k) ?_
    show OwnEnds _ _ _ _ _ _ _ (T1.setTop (mkF m 7 #[.val (.ref a1), .unset] []))
    refine ogo (fun t k => XS.aloadN X1.here hx rfl (hb hby d2_7) rfl rfl k) ?_
    show OwnEnds _ _ _ _ _ _ _ (T1.setTop (mkF m 8 #[.val (.ref a1), .unset] [(.ref a1)]))
    obtain ⟨T5, X5, e5, st5⟩ := getS2 X1 hx hZ hown (host := "") (Or.inl (hw _ (List.mem_of_getElem? (i := 15) rfl))) Via.refl e1 (S_CLOCK_OFFSET.ext OLD.2) (g := (mkF m 8 #[.val (.ref a1), .unset] [(.ref a1)])) rfl (hb hby d2_8)
    refine ogo st5 ?_
    show OwnEnds _ _ _ _ _ _ _ (T5.setTop (mkF m 11 #[.val (.ref a1), .unset] [(.ref w_CLOCK_OFFSET), (.ref a1)]))
    by_cases hc6 : a1 = w_CLOCK_OFFSET
    · refine ogo (fun t k => Jvm.RoadKit.acmp (g := (mkF m 11 #[.val (.ref a1), .unset] [(.ref w_CLOCK_OFFSET), (.ref a1)])) X5 hx rfl rfl rfl (pc0 := 11) (pc' := 14) (same := true) rfl (hb hby d2_11) rfl (decide_eq_true (congrArg Value.ref hc6)) (by decide) (by decide) k) ?_
      show OwnEnds _ _ _ _ _ _ _ (T5.setTop (mkF m 14 #[.val (.ref a1), .unset] []))
      refine ogo (fun t k => XS.iconst X5.here hx rfl (hb hby d2_14) k) ?_
      show OwnEnds _ _ _ _ _ _ _ (T5.setTop (mkF m 15 #[.val (.ref a1), .unset] [(.int (4 : Int32))]))
      obtain ⟨T7, h7, k7, X7, e7, E7, A7, B7, st7⟩ := newPE X5 hx hZ (hw _ (List.mem_of_getElem? (i := 17) rfl)) e5 (g := (mkF m 15 #[.val (.ref a1), .unset] [(.int (4 : Int32))])) rfl (hb hby d2_15) rfl (by decide) (cap := 4) (by decide) (by decide) (by decide) (by decide) (ad := "[B") (by decide)
      obtain ⟨b7, g7⟩ : ∃ z, z = h0.size := ⟨_, rfl⟩
      rw [← g7] at A7 B7 st7
      have q_b7 : n0 ≤ b7 := Nat.le_trans Z0 (Nat.le_of_eq g7.symm)
      have sz_b7 : h0.size ≤ b7 := Nat.le_trans (Keep.refl h0 []).1 (Nat.le_of_eq g7.symm)
      have OLD8 := OLD.ext E7
      have K8 := (Keep.refl h0 []).ext E7
      have Z8 := Nat.le_trans Z0 E7.1
      have V7 : Arv Z h7 b7 k7 .byte (4 : Int32) [(.int (0 : Int32)), (.int (0 : Int32)), (.int (0 : Int32)), (.int (0 : Int32))] (.int (0 : Int32)) := (Arv.new A7 (by decide)).pad (pad_rep [] (.int (0 : Int32)) 4)
      refine ogo st7 ?_
      show OwnEnds _ _ _ _ _ _ _ (T7.setTop (mkF m 17 #[.val (.ref a1), .unset] [(.ref b7)]))
      refine ogo (fun t k => XS.astoreN X7.here hx rfl (hb hby d2_17) rfl rfl (l' := #[.val (.ref a1), .val (.ref b7)]) rfl k) ?_
      show OwnEnds _ _ _ _ _ _ _ (T7.setTop (mkF m 18 #[.val (.ref a1), .val (.ref b7)] []))
      refine ogo (fun t k => XS.goto X7.here hx rfl (pc0 := 18) (pc' := 25) rfl (hb hby d2_18) (by decide) (by decide) k) ?_
      show OwnEnds _ _ _ _ _ _ _ (T7.setTop (mkF m 25 #[.val (.ref a1), .val (.ref b7)] []))
      refine ogo (fun t k => XS.aloadN X7.here hx rfl (hb hby d2_25) rfl rfl k) ?_
      show OwnEnds _ _ _ _ _ _ _ (T7.setTop (mkF m 26 #[.val (.ref a1), .val (.ref b7)] [(.ref b7)]))
      refine endA X7 hx hlk Bd.returns rfl rfl (hb hby d2_26) (by decide) (by decide) ?_
      show Q2 Z a1 w_COUNTER w_CLOCK_OFFSET h0 n0 _ T7.heap _
      rw [e7]
      exact ⟨b7, rfl, sz_b7, N0, K8, Or.inl ⟨Or.inr hc6, ⟨_, V7⟩⟩⟩
    · refine ogo (fun t k => Jvm.RoadKit.acmp (g := (mkF m 11 #[.val (.ref a1), .unset] [(.ref w_CLOCK_OFFSET), (.ref a1)])) X5 hx rfl rfl rfl (pc0 := 11) (pc' := 21) (same := false) rfl (hb hby d2_11) rfl (decide_eq_false fun q => hc6 (Value.ref.inj q)) (by decide) (by decide) k) ?_
      show OwnEnds _ _ _ _ _ _ _ (T5.setTop (mkF m 21 #[.val (.ref a1), .unset] []))
      refine ogo (fun t k => XS.iconst X5.here hx rfl (hb hby d2_21) k) ?_
      show OwnEnds _ _ _ _ _ _ _ (T5.setTop (mkF m 22 #[.val (.ref a1), .unset] [(.int (0 : Int32))]))
      obtain ⟨T9, h9, k9, X9, e9, E9, A9, B9, st9⟩ := newPE X5 hx hZ (hw _ (List.mem_of_getElem? (i := 17) rfl)) e5 (g := (mkF m 22 #[.val (.ref a1), .unset] [(.int (0 : Int32))])) rfl (hb hby d2_22) rfl (by decide) (cap := 0) (by decide) (by decide) (by decide) (by decide) (ad := "[B") (by decide)
      obtain ⟨b9, g9⟩ : ∃ z, z = h0.size := ⟨_, rfl⟩
      rw [← g9] at A9 B9 st9
      have q_b9 : n0 ≤ b9 := Nat.le_trans Z0 (Nat.le_of_eq g9.symm)
      have sz_b9 : h0.size ≤ b9 := Nat.le_trans (Keep.refl h0 []).1 (Nat.le_of_eq g9.symm)
      have OLD10 := OLD.ext E9
      have K10 := (Keep.refl h0 []).ext E9
      have Z10 := Nat.le_trans Z0 E9.1
      have V9 : Arv Z h9 b9 k9 .byte (0 : Int32) [] (.int (0 : Int32)) := (Arv.new A9 (by decide)).pad (pad_rep [] (.int (0 : Int32)) 0)
      refine ogo st9 ?_
      show OwnEnds _ _ _ _ _ _ _ (T9.setTop (mkF m 24 #[.val (.ref a1), .unset] [(.ref b9)]))
      refine ogo (fun t k => XS.astoreN X9.here hx rfl (hb hby d2_24) rfl rfl (l' := #[.val (.ref a1), .val (.ref b9)]) rfl k) ?_
      show OwnEnds _ _ _ _ _ _ _ (T9.setTop (mkF m 25 #[.val (.ref a1), .val (.ref b9)] []))
      refine ogo (fun t k => XS.aloadN X9.here hx rfl (hb hby d2_25) rfl rfl k) ?_
      show OwnEnds _ _ _ _ _ _ _ (T9.setTop (mkF m 26 #[.val (.ref a1), .val (.ref b9)] [(.ref b9)]))
      refine endA X9 hx hlk Bd.returns rfl rfl (hb hby d2_26) (by decide) (by decide) ?_
      show Q2 Z a1 w_COUNTER w_CLOCK_OFFSET h0 n0 _ T9.heap _
      rw [e9]
      exact ⟨b9, rfl, sz_b9, N0, K10, Or.inr ⟨hc2, hc6, ⟨_, V9⟩⟩⟩
theorem d3_0 : decode method_3_code 0 = .ok (.aload_n 0, 1) := by decide +kernel
theorem d3_1 : decode method_3_code 1 = .ok (.ifnull 9, 3) := by decide +kernel
theorem d3_4 : decode method_3_code 4 = .ok (.aload_n 0, 1) := by decide +kernel
theorem d3_5 : decode method_3_code 5 = .ok (.arraylength, 1) := by decide +kernel
theorem d3_6 : decode method_3_code 6 = .ok (.iconst 4, 1) := by decide +kernel
theorem d3_7 : decode method_3_code 7 = .ok (.if_icmp .eq 5, 3) := by decide +kernel
theorem d3_12 : decode method_3_code 12 = .ok (.aload_n 0, 1) := by decide +kernel
theorem d3_13 : decode method_3_code 13 = .ok (.iconst 0, 1) := by decide +kernel
theorem d3_14 : decode method_3_code 14 = .ok (.baload, 1) := by decide +kernel
theorem d3_15 : decode method_3_code 15 = .ok (.ifCond .ne 25, 3) := by decide +kernel
theorem d3_18 : decode method_3_code 18 = .ok (.aload_n 0, 1) := by decide +kernel
theorem d3_19 : decode method_3_code 19 = .ok (.iconst 1, 1) := by decide +kernel
theorem d3_20 : decode method_3_code 20 = .ok (.baload, 1) := by decide +kernel
theorem d3_21 : decode method_3_code 21 = .ok (.ifCond .ne 19, 3) := by decide +kernel
theorem d3_24 : decode method_3_code 24 = .ok (.aload_n 0, 1) := by decide +kernel
theorem d3_25 : decode method_3_code 25 = .ok (.iconst 2, 1) := by decide +kernel
theorem d3_26 : decode method_3_code 26 = .ok (.baload, 1) := by decide +kernel
theorem d3_27 : decode method_3_code 27 = .ok (.ifCond .ne 13, 3) := by decide +kernel
theorem d3_30 : decode method_3_code 30 = .ok (.aload_n 0, 1) := by decide +kernel
theorem d3_31 : decode method_3_code 31 = .ok (.iconst 3, 1) := by decide +kernel
theorem d3_32 : decode method_3_code 32 = .ok (.baload, 1) := by decide +kernel
theorem d3_33 : decode method_3_code 33 = .ok (.ifCond .ne 7, 3) := by decide +kernel
theorem d3_36 : decode method_3_code 36 = .ok (.iconst 1, 1) := by decide +kernel
theorem d3_37 : decode method_3_code 37 = .ok (.goto 4, 3) := by decide +kernel
theorem d3_41 : decode method_3_code 41 = .ok (.ireturn, 1) := by decide +kernel
theorem ef_3 (m : MethodId) (x0 : Addr) : entryFrame m #[(.ref x0)] 1 = mkF m 0 #[.val (.ref x0)] [] := by first | (simp [entryFrame, mkF, argsToLocals, Value.category]; done) | rfl
def Q3 (Z : State) (a1 : Addr) (h0 : Heap) (n0 : Nat) (v : Option Value) (h : Heap) (L : List Loc) : Prop := v = some (.int 1) ∧ Fr n0 L ∧ h = h0
set_option maxRecDepth 65536 in
set_option maxHeartbeats 40000000 in
theorem rm3 (l : Launch) (Z : State) (a0 : Array Value) (hw : ∀ d ∈ tables_1, d.before a0 Z = true) (ws : List Jvm.Cond) (a1 : Addr) (h0 : Heap) (n0 : Nat) (Z0 : n0 ≤ h0.size) (V_1 : Av Z h0 a1 .byte (4 : Int32) [(.int (0 : Int32)), (.int (0 : Int32)), (.int (0 : Int32)), (.int (0 : Int32))] (.int (0 : Int32))) :
    MetFree l (⟨"com/example/opaque_token/opaquetoken/token/ObjectTypeInitialValuePinLaw", "fourZeros", "([B)Z"⟩ : MethodName) (head1 (Jvm.Cond.code (⟨"com/example/opaque_token/opaquetoken/token/ObjectTypeInitialValuePinLaw", "fourZeros", "([B)Z"⟩ : MethodName) method_3_code 1 (some .boolean) :: ws) ({ frames := 0, cells := 0, slots := 0, locals := 0 } : Room)) (fun a U => a = #[(.ref a1)] ∧ Z.Warmed39 U.vm ∧ U.heap = h0) (fun _ _ _ _ _ => True) (fun _ U o U' => ∃ v L, o = .returned v ∧ Q3 Z a1 h0 n0 v U'.heap L ∧ FrameEnd U o U' L ({ frames := 0, cells := 0, slots := 0, locals := 0 } : Room).cells ({ frames := 0, cells := 0, slots := 0, locals := 0 } : Room).slots) := by
  refine MetFree.of_bodySF (plainFor_of_name pn_ObjectTypeInitialValuePinLaw) hisR ?_
  intro p e s m args below meth c s₁ Bd hml0 hP hK
  obtain ⟨rfl, hZ, hh⟩ := hP
  have hx := Bd.exec
  have hby := Bd.bytes
  have hml : c.maxLocals = 1 := hml0
  have hown : s.vm.findClass "com/example/opaque_token/opaquetoken/token/ObjectTypeInitialValuePinLaw" = some m.cls := findClass_of_methodNamed Bd.named
  have hnm := (name_of_methodNamed Bd.named Bd.method).1
  have hlk : meth.locks = false := BodyLoose.notSynchronized Bd
  have X0 : Stand p l e ({ frames := 0, cells := 0, slots := 0, locals := 0 } : Room) s m #[(.ref a1)] below meth c s₁ [] 0 0 := Stand.of_body Bd
  have e0 : s₁.heap = h0 := by rw [← hh, Bd.state]; rfl
  have N0 := Fr.nil n0
  refine ogo (U' := s₁.setTop (mkF m 0 #[.val (.ref a1)] [])) (Q := Q3 Z a1 h0 n0) (K := ({ frames := 0, cells := 0, slots := 0, locals := 0 } : Room).cells) (N := ({ frames := 0, cells := 0, slots := 0, locals := 0 } : Room).slots) (fun t k => castTop (ef_3 m a1) k) ?_
  show OwnEnds _ _ _ _ _ _ _ (s₁.setTop (mkF m 0 #[.val (.ref a1)] []))
  refine ogo (fun t k => XS.aloadN X0.here hx rfl (hb hby d3_0) rfl rfl k) ?_
  show OwnEnds _ _ _ _ _ _ _ (s₁.setTop (mkF m 1 #[.val (.ref a1)] [(.ref a1)]))
  refine ogo (fun t k => XS.ifnullNo X0.here hx rfl (hb hby d3_1) rfl k) ?_
  show OwnEnds _ _ _ _ _ _ _ (s₁.setTop (mkF m 4 #[.val (.ref a1)] []))
  refine ogo (fun t k => XS.aloadN X0.here hx rfl (hb hby d3_4) rfl rfl k) ?_
  show OwnEnds _ _ _ _ _ _ _ (s₁.setTop (mkF m 5 #[.val (.ref a1)] [(.ref a1)]))
  obtain ⟨ak1, cl1, Ar1, Aq1, As1, An1, Ah1, Ag1⟩ := id V_1
  refine ogo (fun t k => X0.arraylength hx (by rw [e0]; exact Ar1.1) (State.isArrayOf_alike hZ.alike Ar1.2.1) (g := (mkF m 5 #[.val (.ref a1)] [(.ref a1)])) rfl rfl (hb hby d3_5) t k) ?_
  rw [len_of As1 An1]
  show OwnEnds _ _ _ _ _ _ _ (s₁.setTop (mkF m 6 #[.val (.ref a1)] [(.int (4 : Int32))]))
  refine ogo (fun t k => XS.iconst X0.here hx rfl (hb hby d3_6) k) ?_
  show OwnEnds _ _ _ _ _ _ _ (s₁.setTop (mkF m 7 #[.val (.ref a1)] [(.int (4 : Int32)), (.int (4 : Int32))]))
  refine ogo (fun t k => XS.icmpYes X0.here hx rfl (pc0 := 7) (pc' := 12) rfl (hb hby d3_7) rfl (teq (by decide : (4 : Int32) = (4 : Int32))).1 (by decide) (by decide) k) ?_
  show OwnEnds _ _ _ _ _ _ _ (s₁.setTop (mkF m 12 #[.val (.ref a1)] []))
  refine ogo (fun t k => XS.aloadN X0.here hx rfl (hb hby d3_12) rfl rfl k) ?_
  show OwnEnds _ _ _ _ _ _ _ (s₁.setTop (mkF m 13 #[.val (.ref a1)] [(.ref a1)]))
  refine ogo (fun t k => XS.iconst X0.here hx rfl (hb hby d3_13) k) ?_
  show OwnEnds _ _ _ _ _ _ _ (s₁.setTop (mkF m 14 #[.val (.ref a1)] [(.int (0 : Int32)), (.ref a1)]))
  obtain ⟨ak2, cl2, Ar2, Aq2, As2, An2, Ah2, Ag2⟩ := id V_1
  refine ogo (fun t k => X0.baloadBytes hx (j := (0 : Int32)) (v := (.int (0 : Int32))) (by rw [e0]; exact Ar2.1) (State.isArrayOf_alike hZ.alike Ar2.2.1) Ar2.2.2 (inb_of As2 ⟨by decide, by decide⟩) (Ah2.at (inb_of As2 ⟨by decide, by decide⟩) rfl) (g := (mkF m 14 #[.val (.ref a1)] [(.int (0 : Int32)), (.ref a1)])) rfl rfl (hb hby d3_14) t k) ?_
  show OwnEnds _ _ _ _ _ _ _ (s₁.setTop (mkF m 15 #[.val (.ref a1)] [(.int (0 : Int32))]))
  refine ogo (fun t k => XS.ifNo X0.here hx rfl (hb hby d3_15) rfl ((if0 _ _).trans (teq (by decide : (0 : Int32) = (0 : Int32))).2) k) ?_
  show OwnEnds _ _ _ _ _ _ _ (s₁.setTop (mkF m 18 #[.val (.ref a1)] []))
  refine ogo (fun t k => XS.aloadN X0.here hx rfl (hb hby d3_18) rfl rfl k) ?_
  show OwnEnds _ _ _ _ _ _ _ (s₁.setTop (mkF m 19 #[.val (.ref a1)] [(.ref a1)]))
  refine ogo (fun t k => XS.iconst X0.here hx rfl (hb hby d3_19) k) ?_
  show OwnEnds _ _ _ _ _ _ _ (s₁.setTop (mkF m 20 #[.val (.ref a1)] [(.int (1 : Int32)), (.ref a1)]))
  obtain ⟨ak3, cl3, Ar3, Aq3, As3, An3, Ah3, Ag3⟩ := id V_1
  refine ogo (fun t k => X0.baloadBytes hx (j := (1 : Int32)) (v := (.int (0 : Int32))) (by rw [e0]; exact Ar3.1) (State.isArrayOf_alike hZ.alike Ar3.2.1) Ar3.2.2 (inb_of As3 ⟨by decide, by decide⟩) (Ah3.at (inb_of As3 ⟨by decide, by decide⟩) rfl) (g := (mkF m 20 #[.val (.ref a1)] [(.int (1 : Int32)), (.ref a1)])) rfl rfl (hb hby d3_20) t k) ?_
  show OwnEnds _ _ _ _ _ _ _ (s₁.setTop (mkF m 21 #[.val (.ref a1)] [(.int (0 : Int32))]))
  refine ogo (fun t k => XS.ifNo X0.here hx rfl (hb hby d3_21) rfl ((if0 _ _).trans (teq (by decide : (0 : Int32) = (0 : Int32))).2) k) ?_
  show OwnEnds _ _ _ _ _ _ _ (s₁.setTop (mkF m 24 #[.val (.ref a1)] []))
  refine ogo (fun t k => XS.aloadN X0.here hx rfl (hb hby d3_24) rfl rfl k) ?_
  show OwnEnds _ _ _ _ _ _ _ (s₁.setTop (mkF m 25 #[.val (.ref a1)] [(.ref a1)]))
  refine ogo (fun t k => XS.iconst X0.here hx rfl (hb hby d3_25) k) ?_
  show OwnEnds _ _ _ _ _ _ _ (s₁.setTop (mkF m 26 #[.val (.ref a1)] [(.int (2 : Int32)), (.ref a1)]))
  obtain ⟨ak4, cl4, Ar4, Aq4, As4, An4, Ah4, Ag4⟩ := id V_1
  refine ogo (fun t k => X0.baloadBytes hx (j := (2 : Int32)) (v := (.int (0 : Int32))) (by rw [e0]; exact Ar4.1) (State.isArrayOf_alike hZ.alike Ar4.2.1) Ar4.2.2 (inb_of As4 ⟨by decide, by decide⟩) (Ah4.at (inb_of As4 ⟨by decide, by decide⟩) rfl) (g := (mkF m 26 #[.val (.ref a1)] [(.int (2 : Int32)), (.ref a1)])) rfl rfl (hb hby d3_26) t k) ?_
  show OwnEnds _ _ _ _ _ _ _ (s₁.setTop (mkF m 27 #[.val (.ref a1)] [(.int (0 : Int32))]))
  refine ogo (fun t k => XS.ifNo X0.here hx rfl (hb hby d3_27) rfl ((if0 _ _).trans (teq (by decide : (0 : Int32) = (0 : Int32))).2) k) ?_
  show OwnEnds _ _ _ _ _ _ _ (s₁.setTop (mkF m 30 #[.val (.ref a1)] []))
  refine ogo (fun t k => XS.aloadN X0.here hx rfl (hb hby d3_30) rfl rfl k) ?_
  show OwnEnds _ _ _ _ _ _ _ (s₁.setTop (mkF m 31 #[.val (.ref a1)] [(.ref a1)]))
  refine ogo (fun t k => XS.iconst X0.here hx rfl (hb hby d3_31) k) ?_
  show OwnEnds _ _ _ _ _ _ _ (s₁.setTop (mkF m 32 #[.val (.ref a1)] [(.int (3 : Int32)), (.ref a1)]))
  obtain ⟨ak5, cl5, Ar5, Aq5, As5, An5, Ah5, Ag5⟩ := id V_1
  refine ogo (fun t k => X0.baloadBytes hx (j := (3 : Int32)) (v := (.int (0 : Int32))) (by rw [e0]; exact Ar5.1) (State.isArrayOf_alike hZ.alike Ar5.2.1) Ar5.2.2 (inb_of As5 ⟨by decide, by decide⟩) (Ah5.at (inb_of As5 ⟨by decide, by decide⟩) rfl) (g := (mkF m 32 #[.val (.ref a1)] [(.int (3 : Int32)), (.ref a1)])) rfl rfl (hb hby d3_32) t k) ?_
  show OwnEnds _ _ _ _ _ _ _ (s₁.setTop (mkF m 33 #[.val (.ref a1)] [(.int (0 : Int32))]))
  refine ogo (fun t k => XS.ifNo X0.here hx rfl (hb hby d3_33) rfl ((if0 _ _).trans (teq (by decide : (0 : Int32) = (0 : Int32))).2) k) ?_
  show OwnEnds _ _ _ _ _ _ _ (s₁.setTop (mkF m 36 #[.val (.ref a1)] []))
  refine ogo (fun t k => XS.iconst X0.here hx rfl (hb hby d3_36) k) ?_
  show OwnEnds _ _ _ _ _ _ _ (s₁.setTop (mkF m 37 #[.val (.ref a1)] [(.int (1 : Int32))]))
  refine ogo (fun t k => XS.goto X0.here hx rfl (pc0 := 37) (pc' := 41) rfl (hb hby d3_37) (by decide) (by decide) k) ?_
  show OwnEnds _ _ _ _ _ _ _ (s₁.setTop (mkF m 41 #[.val (.ref a1)] [(.int (1 : Int32))]))
  refine endZ X0 hx hlk Bd.returns rfl (hb hby d3_41) (by decide) (by decide) ?_
  show Q3 Z a1 h0 n0 _ s₁.heap _
  rw [e0]
  exact ⟨by simp [], N0, rfl⟩
theorem pd_e6b9a279 : parseMethodDescriptor "(I)Lcom/example/opaque_token/opaquetoken/token/ObjectType;" = some ⟨[.int], some (.object "com/example/opaque_token/opaquetoken/token/ObjectType")⟩ := by decide +kernel
theorem pd____B : parseMethodDescriptor "()[B" = some ⟨[], some (.array .byte)⟩ := by decide +kernel
theorem pd___B_Z : parseMethodDescriptor "([B)Z" = some ⟨[(.array .byte)], some .boolean⟩ := by decide +kernel
theorem ef_0 (m : MethodId) (x0 : Int32) (x1 : Int32) : entryFrame m #[(.int x0), (.int x1)] maxLocals = mkF m 0 #[.val (.int x0), .val (.int x1), .unset, .unset, .unset, .unset, .unset, .unset] [] := by first | (simp [entryFrame, mkF, argsToLocals, Value.category, maxLocals]; done) | rfl
def Q0 (Z : State) (p0 p1 : Int32) (w_INPUT_DATA w_COUNTER w_CLOCK_OFFSET w_MODULUS w_OUTPUT_DATA w_RANDOM_FILL w_EXPONENT w_CONFIGURATION w_ROM_DATA : Addr) (h0 : Heap) (n0 : Nat) (v : Option Value) (h : Heap) (L : List Loc) : Prop := v = some (.int 1) ∧ Fr n0 L
set_option maxRecDepth 65536 in
set_option maxHeartbeats 40000000 in
theorem rm0 (l : Launch) (Z : State) (a0 : Array Value) (hw : ∀ d ∈ tables_1, d.before a0 Z = true) (ws : List Jvm.Cond) (p0 p1 : Int32) (w_INPUT_DATA w_COUNTER w_CLOCK_OFFSET w_MODULUS w_OUTPUT_DATA w_RANDOM_FILL w_EXPONENT w_CONFIGURATION w_ROM_DATA : Addr) (h0 : Heap) (n0 : Nat) (Z0 : n0 ≤ h0.size) (OLD : Old Z n0 h0) (S_INPUT_DATA : Sta Z Z.heap "com/example/opaque_token/opaquetoken/token/ObjectType" "INPUT_DATA" "Lcom/example/opaque_token/opaquetoken/token/ObjectType;" (.ref w_INPUT_DATA)) (E_INPUT_DATA : Exa Z Z.heap w_INPUT_DATA "com/example/opaque_token/opaquetoken/token/ObjectType") (F_ordinal_INPUT_DATA : Fld Z Z.heap w_INPUT_DATA "java/lang/Enum" "ordinal" "I" (.int (0 : Int32))) (S_COUNTER : Sta Z Z.heap "com/example/opaque_token/opaquetoken/token/ObjectType" "COUNTER" "Lcom/example/opaque_token/opaquetoken/token/ObjectType;" (.ref w_COUNTER)) (E_COUNTER : Exa Z Z.heap w_COUNTER "com/example/opaque_token/opaquetoken/token/ObjectType") (F_ordinal_COUNTER : Fld Z Z.heap w_COUNTER "java/lang/Enum" "ordinal" "I" (.int (5 : Int32))) (S_CLOCK_OFFSET : Sta Z Z.heap "com/example/opaque_token/opaquetoken/token/ObjectType" "CLOCK_OFFSET" "Lcom/example/opaque_token/opaquetoken/token/ObjectType;" (.ref w_CLOCK_OFFSET)) (E_CLOCK_OFFSET : Exa Z Z.heap w_CLOCK_OFFSET "com/example/opaque_token/opaquetoken/token/ObjectType") (F_ordinal_CLOCK_OFFSET : Fld Z Z.heap w_CLOCK_OFFSET "java/lang/Enum" "ordinal" "I" (.int (6 : Int32))) (S_MODULUS : Sta Z Z.heap "com/example/opaque_token/opaquetoken/token/ObjectType" "MODULUS" "Lcom/example/opaque_token/opaquetoken/token/ObjectType;" (.ref w_MODULUS)) (E_MODULUS : Exa Z Z.heap w_MODULUS "com/example/opaque_token/opaquetoken/token/ObjectType") (F_ordinal_MODULUS : Fld Z Z.heap w_MODULUS "java/lang/Enum" "ordinal" "I" (.int (4 : Int32))) (S_OUTPUT_DATA : Sta Z Z.heap "com/example/opaque_token/opaquetoken/token/ObjectType" "OUTPUT_DATA" "Lcom/example/opaque_token/opaquetoken/token/ObjectType;" (.ref w_OUTPUT_DATA)) (E_OUTPUT_DATA : Exa Z Z.heap w_OUTPUT_DATA "com/example/opaque_token/opaquetoken/token/ObjectType") (F_ordinal_OUTPUT_DATA : Fld Z Z.heap w_OUTPUT_DATA "java/lang/Enum" "ordinal" "I" (.int (1 : Int32))) (S_RANDOM_FILL : Sta Z Z.heap "com/example/opaque_token/opaquetoken/token/ObjectType" "RANDOM_FILL" "Lcom/example/opaque_token/opaquetoken/token/ObjectType;" (.ref w_RANDOM_FILL)) (E_RANDOM_FILL : Exa Z Z.heap w_RANDOM_FILL "com/example/opaque_token/opaquetoken/token/ObjectType") (F_ordinal_RANDOM_FILL : Fld Z Z.heap w_RANDOM_FILL "java/lang/Enum" "ordinal" "I" (.int (8 : Int32))) (S_EXPONENT : Sta Z Z.heap "com/example/opaque_token/opaquetoken/token/ObjectType" "EXPONENT" "Lcom/example/opaque_token/opaquetoken/token/ObjectType;" (.ref w_EXPONENT)) (E_EXPONENT : Exa Z Z.heap w_EXPONENT "com/example/opaque_token/opaquetoken/token/ObjectType") (F_ordinal_EXPONENT : Fld Z Z.heap w_EXPONENT "java/lang/Enum" "ordinal" "I" (.int (3 : Int32))) (S_CONFIGURATION : Sta Z Z.heap "com/example/opaque_token/opaquetoken/token/ObjectType" "CONFIGURATION" "Lcom/example/opaque_token/opaquetoken/token/ObjectType;" (.ref w_CONFIGURATION)) (E_CONFIGURATION : Exa Z Z.heap w_CONFIGURATION "com/example/opaque_token/opaquetoken/token/ObjectType") (F_ordinal_CONFIGURATION : Fld Z Z.heap w_CONFIGURATION "java/lang/Enum" "ordinal" "I" (.int (2 : Int32))) (S_ROM_DATA : Sta Z Z.heap "com/example/opaque_token/opaquetoken/token/ObjectType" "ROM_DATA" "Lcom/example/opaque_token/opaquetoken/token/ObjectType;" (.ref w_ROM_DATA)) (E_ROM_DATA : Exa Z Z.heap w_ROM_DATA "com/example/opaque_token/opaquetoken/token/ObjectType") (F_ordinal_ROM_DATA : Fld Z Z.heap w_ROM_DATA "java/lang/Enum" "ordinal" "I" (.int (7 : Int32))) :
    MetFree l x (head1 (Jvm.Cond.code x code maxLocals ret :: ws) room_1) (fun a U => a = #[(.int p0), (.int p1)] ∧ Z.Warmed39 U.vm ∧ U.heap = h0) (fun _ _ _ _ _ => True) (fun _ U o U' => ∃ v L, o = .returned v ∧ Q0 Z p0 p1 w_INPUT_DATA w_COUNTER w_CLOCK_OFFSET w_MODULUS w_OUTPUT_DATA w_RANDOM_FILL w_EXPONENT w_CONFIGURATION w_ROM_DATA h0 n0 v U'.heap L ∧ FrameEnd U o U' L 16 128) := by
  refine MetFree.of_bodySF (plainFor_of_name pn_ObjectTypeInitialValuePinLaw) hisR ?_
  intro p e s m args below meth c s₁ Bd hml0 hP hK
  obtain ⟨rfl, hZ, hh⟩ := hP
  have hx := Bd.exec
  have hby := Bd.bytes
  have hml : c.maxLocals = 8 := hml0
  have hown : s.vm.findClass "com/example/opaque_token/opaquetoken/token/ObjectTypeInitialValuePinLaw" = some m.cls := findClass_of_methodNamed Bd.named
  have hnm := (name_of_methodNamed Bd.named Bd.method).1
  have hlk : meth.locks = false := BodyLoose.notSynchronized Bd
  have X0 : Stand p l e room_1 s m #[(.int p0), (.int p1)] below meth c s₁ [] 0 0 := Stand.of_body Bd
  have e0 : s₁.heap = h0 := by rw [← hh, Bd.state]; rfl
  have N0 := Fr.nil n0
  refine ogo (U' := s₁.setTop (mkF m 0 #[.val (.int p0), .val (.int p1), .unset, .unset, .unset, .unset, .unset, .unset] [])) (Q := Q0 Z p0 p1 w_INPUT_DATA w_COUNTER w_CLOCK_OFFSET w_MODULUS w_OUTPUT_DATA w_RANDOM_FILL w_EXPONENT w_CONFIGURATION w_ROM_DATA h0 n0) (K := 16) (N := 128) (fun t k => castTop (ef_0 m p0 p1) k) ?_
  show OwnEnds _ _ _ _ _ _ _ (s₁.setTop (mkF m 0 #[.val (.int p0), .val (.int p1), .unset, .unset, .unset, .unset, .unset, .unset] []))
  refine ogo (fun t k => XS.iloadN X0.here hx rfl (hb hby at_0) rfl k) ?_
  show OwnEnds _ _ _ _ _ _ _ (s₁.setTop (mkF m 1 #[.val (.int p0), .val (.int p1), .unset, .unset, .unset, .unset, .unset, .unset] [(.int p0)]))
  refine ogo (fun t k => X0.ldcInt hx hown (mvT hZ (hw _ (List.mem_of_getElem? (i := 0) rfl))) (g := (mkF m 1 #[.val (.int p0), .val (.int p1), .unset, .unset, .unset, .unset, .unset, .unset] [(.int p0)])) rfl (hb hby at_1) t k) ?_
  show OwnEnds _ _ _ _ _ _ _ (s₁.setTop (mkF m 3 #[.val (.int p0), .val (.int p1), .unset, .unset, .unset, .unset, .unset, .unset] [(.int (2147483647 : Int32)), (.int p0)]))
  refine ogo (fun t k => XS.iand X0.here hx rfl (hb hby at_3) rfl k) ?_
  show OwnEnds _ _ _ _ _ _ _ (s₁.setTop (mkF m 4 #[.val (.int p0), .val (.int p1), .unset, .unset, .unset, .unset, .unset, .unset] [(.int (p0 &&& (2147483647 : Int32)))]))
  refine ogo (fun t k => XS.bipush X0.here hx rfl (hb hby at_4) k) ?_
  show OwnEnds _ _ _ _ _ _ _ (s₁.setTop (mkF m 6 #[.val (.int p0), .val (.int p1), .unset, .unset, .unset, .unset, .unset, .unset] [(.int (9 : Int32)), (.int (p0 &&& (2147483647 : Int32)))]))
  refine ogo (fun t k => iremM (g := (mkF m 6 #[.val (.int p0), .val (.int p1), .unset, .unset, .unset, .unset, .unset, .unset] [(.int (9 : Int32)), (.int (p0 &&& (2147483647 : Int32)))])) X0 hx rfl (hb hby at_6) rfl (by decide) k) ?_
  generalize hk : ((p0 &&& (2147483647 : Int32)) % (9 : Int32)) = k
  rcases own_case9 (hk ▸ own_rng p0 9 (by decide)) with rfl | rfl | rfl | rfl | rfl | rfl | rfl | rfl | rfl
  · show OwnEnds _ _ _ _ _ _ _ (s₁.setTop (mkF m 7 #[.val (.int p0), .val (.int p1), .unset, .unset, .unset, .unset, .unset, .unset] [(.int (0 : Int32))]))
    refine ogo (fun t k => XS.istoreN X0.here hx rfl (hb hby at_7) rfl (l' := #[.val (.int p0), .val (.int p1), .val (.int (0 : Int32)), .unset, .unset, .unset, .unset, .unset]) rfl k) ?_
    show OwnEnds _ _ _ _ _ _ _ (s₁.setTop (mkF m 8 #[.val (.int p0), .val (.int p1), .val (.int (0 : Int32)), .unset, .unset, .unset, .unset, .unset] []))
    refine ogo (fun t k => XS.iloadN X0.here hx rfl (hb hby at_8) rfl k) ?_
    show OwnEnds _ _ _ _ _ _ _ (s₁.setTop (mkF m 9 #[.val (.int p0), .val (.int p1), .val (.int (0 : Int32)), .unset, .unset, .unset, .unset, .unset] [(.int (0 : Int32))]))
    obtain ⟨v1, _, ⟨T1, L1, k1, n1⟩, -, X1, ⟨Lc1, hQ1, l1, y1, z1⟩, st1⟩ := Jvm.LawKit.callS X0 hx (y := (⟨"com/example/opaque_token/opaquetoken/token/ObjectTypeInitialValuePinLaw", "pick", "(I)Lcom/example/opaque_token/opaquetoken/token/ObjectType;"⟩ : MethodName)) hown (mvT hZ (hw _ (List.mem_of_getElem? (i := 1) rfl))) (mvT hZ (hw _ (List.mem_of_getElem? (i := 2) rfl))) (mvT hZ (hw _ (List.mem_of_getElem? (i := 3) rfl))) (mvT hZ (hw _ (List.mem_of_getElem? (i := 4) rfl))) (by decide) (backOf (W := 0) (rm1 l Z a0 hw [] (0 : Int32) w_INPUT_DATA w_OUTPUT_DATA w_CONFIGURATION w_EXPONENT w_MODULUS w_COUNTER w_CLOCK_OFFSET w_ROM_DATA w_RANDOM_FILL h0 n0 Z0 OLD S_INPUT_DATA S_OUTPUT_DATA S_CONFIGURATION S_EXPONENT S_MODULUS S_COUNTER S_CLOCK_OFFSET S_ROM_DATA S_RANDOM_FILL) hZ (hw _ (List.mem_of_getElem? (i := 4) rfl)) (hw _ (List.mem_of_getElem? (i := 3) rfl)) (by decide) (by decide)) (g := (mkF m 9 #[.val (.int p0), .val (.int p1), .val (.int (0 : Int32)), .unset, .unset, .unset, .unset, .unset] [(.int (0 : Int32))])) rfl (by rw [hml]; rfl) (argsL := [(.int (0 : Int32))]) (rest := []) (lenOf pd_e6b9a279 rfl) rfl (by show 2 * 0 + _ ≤ _; exact Nat.le_of_eq rfl) (hb hby at_9) (fun _ _ => ⟨rfl, e0, (by decide : 0 + 0 ≤ _), (by decide : 0 + 0 ≤ _)⟩)
    dsimp only [Pt.U, Pt.locs, Pt.cells, Pt.slots] at X1 l1 y1 z1 st1 hQ1
    subst l1 y1 z1
    obtain ⟨hv1, N1q, e1⟩ := hQ1
    obtain rfl : v1 = some (.ref w_INPUT_DATA) := hv1.trans (by simp [own_pick])
    have N1 := Fr.app N0 N1q
    refine ogo (fun t k => st1 t k) ?_
    show OwnEnds _ _ _ _ _ _ _ (T1.setTop (mkF m 12 #[.val (.int p0), .val (.int p1), .val (.int (0 : Int32)), .unset, .unset, .unset, .unset, .unset] [(.ref w_INPUT_DATA)]))
    refine ogo (fun t k => XS.astoreN X1.here hx rfl (hb hby at_12) rfl rfl (l' := #[.val (.int p0), .val (.int p1), .val (.int (0 : Int32)), .val (.ref w_INPUT_DATA), .unset, .unset, .unset, .unset]) rfl k) ?_
    show OwnEnds _ _ _ _ _ _ _ (T1.setTop (mkF m 13 #[.val (.int p0), .val (.int p1), .val (.int (0 : Int32)), .val (.ref w_INPUT_DATA), .unset, .unset, .unset, .unset] []))
    refine ogo (fun t k => XS.iloadN X1.here hx rfl (hb hby at_13) rfl k) ?_
    show OwnEnds _ _ _ _ _ _ _ (T1.setTop (mkF m 14 #[.val (.int p0), .val (.int p1), .val (.int (0 : Int32)), .val (.ref w_INPUT_DATA), .unset, .unset, .unset, .unset] [(.int (0 : Int32))]))
    refine ogo (fun t k => XS.iconst X1.here hx rfl (hb hby at_14) k) ?_
    show OwnEnds _ _ _ _ _ _ _ (T1.setTop (mkF m 15 #[.val (.int p0), .val (.int p1), .val (.int (0 : Int32)), .val (.ref w_INPUT_DATA), .unset, .unset, .unset, .unset] [(.int (5 : Int32)), (.int (0 : Int32))]))
    refine ogo (fun t k => XS.icmpNo X1.here hx rfl (hb hby at_15) rfl (feq (by decide : ¬ ((0 : Int32) = (5 : Int32)))).1 k) ?_
    show OwnEnds _ _ _ _ _ _ _ (T1.setTop (mkF m 18 #[.val (.int p0), .val (.int p1), .val (.int (0 : Int32)), .val (.ref w_INPUT_DATA), .unset, .unset, .unset, .unset] []))
    refine ogo (fun t k => XS.iloadN X1.here hx rfl (hb hby at_18) rfl k) ?_
    show OwnEnds _ _ _ _ _ _ _ (T1.setTop (mkF m 19 #[.val (.int p0), .val (.int p1), .val (.int (0 : Int32)), .val (.ref w_INPUT_DATA), .unset, .unset, .unset, .unset] [(.int (0 : Int32))]))
    refine ogo (fun t k => XS.bipush X1.here hx rfl (hb hby at_19) k) ?_
    show OwnEnds _ _ _ _ _ _ _ (T1.setTop (mkF m 21 #[.val (.int p0), .val (.int p1), .val (.int (0 : Int32)), .val (.ref w_INPUT_DATA), .unset, .unset, .unset, .unset] [(.int (6 : Int32)), (.int (0 : Int32))]))
    refine ogo (fun t k => XS.icmpYes X1.here hx rfl (pc0 := 21) (pc' := 28) rfl (hb hby at_21) rfl (feq (by decide : ¬ ((0 : Int32) = (6 : Int32)))).2 (by decide) (by decide) k) ?_
    show OwnEnds _ _ _ _ _ _ _ (T1.setTop (mkF m 28 #[.val (.int p0), .val (.int p1), .val (.int (0 : Int32)), .val (.ref w_INPUT_DATA), .unset, .unset, .unset, .unset] []))
    refine ogo (fun t k => XS.iconst X1.here hx rfl (hb hby at_28) k) ?_
    show OwnEnds _ _ _ _ _ _ _ (T1.setTop (mkF m 29 #[.val (.int p0), .val (.int p1), .val (.int (0 : Int32)), .val (.ref w_INPUT_DATA), .unset, .unset, .unset, .unset] [(.int (0 : Int32))]))
    refine ogo (fun t k => XS.istore X1.here hx rfl (hb hby at_29) rfl (l' := #[.val (.int p0), .val (.int p1), .val (.int (0 : Int32)), .val (.ref w_INPUT_DATA), .val (.int (0 : Int32)), .unset, .unset, .unset]) rfl k) ?_
    show OwnEnds _ _ _ _ _ _ _ (T1.setTop (mkF m 31 #[.val (.int p0), .val (.int p1), .val (.int (0 : Int32)), .val (.ref w_INPUT_DATA), .val (.int (0 : Int32)), .unset, .unset, .unset] []))
    refine ogo (fun t k => XS.aloadN X1.here hx rfl (hb hby at_31) rfl rfl k) ?_
    show OwnEnds _ _ _ _ _ _ _ (T1.setTop (mkF m 32 #[.val (.int p0), .val (.int p1), .val (.int (0 : Int32)), .val (.ref w_INPUT_DATA), .val (.int (0 : Int32)), .unset, .unset, .unset] [(.ref w_INPUT_DATA)]))
    obtain ⟨cq2, kq2, q2a, q2b, q2c⟩ := isOf hZ e1 (E_INPUT_DATA.ext OLD.2)
    obtain ⟨v2, _, ⟨T2, L2, k2, n2⟩, -, X2, ⟨Lc2, hQ2, l2, y2, z2⟩, st2⟩ := X1.virtualBack hx (y := (⟨"com/example/opaque_token/opaquetoken/token/ObjectType", "initialValue", "()[B"⟩ : MethodName)) (z := (⟨"com/example/opaque_token/opaquetoken/token/ObjectType", "initialValue", "()[B"⟩ : MethodName)) hown (mvT hZ (hw _ (List.mem_of_getElem? (i := 8) rfl))) (mvT hZ (hw _ (List.mem_of_getElem? (i := 9) rfl))) (notFace_of_selects (args := #[]) (mvT hZ (hw _ (List.mem_of_getElem? (i := 11) rfl)))) (mvT hZ (hw _ (List.mem_of_getElem? (i := 11) rfl))) (mvT hZ (hw _ (List.mem_of_getElem? (i := 10) rfl))) (by decide) (backOf (W := 0) (rm2 l Z a0 hw [] w_INPUT_DATA w_COUNTER w_CLOCK_OFFSET h0 n0 Z0 OLD S_COUNTER S_CLOCK_OFFSET) hZ (hw _ (List.mem_of_getElem? (i := 12) rfl)) (hw _ (List.mem_of_getElem? (i := 6) rfl)) (by decide) (by decide)) q2a q2c (g := (mkF m 32 #[.val (.int p0), .val (.int p1), .val (.int (0 : Int32)), .val (.ref w_INPUT_DATA), .val (.int (0 : Int32)), .unset, .unset, .unset] [(.ref w_INPUT_DATA)])) rfl (by rw [hml]; rfl) (Steps.refl _) (argsL := []) (rest := []) (lenOf pd____B rfl) rfl (by show 2 * 0 + _ ≤ _; exact Nat.le_of_eq rfl) (hb hby at_32) (fun _ _ => ⟨rfl, e1, (by decide : 0 + 1 ≤ _), (by decide : 0 + 4 ≤ _)⟩)
    dsimp only [Pt.U, Pt.locs, Pt.cells, Pt.slots] at X2 l2 y2 z2 st2 hQ2
    subst l2 y2 z2
    obtain ⟨r2, rfl, Sq2, N2q, Kq2, Dq2⟩ := hQ2
    have N2 := Fr.app N1 N2q
    have q_r2 : n0 ≤ r2 := Nat.le_trans Z0 Sq2
    have sz_r2 : h0.size ≤ r2 := Nat.le_trans (Keep.refl h0 []).1 Sq2
    have OLD3 := OLD.keep Kq2 all0
    have K3 := (Keep.refl h0 []).trans Kq2 all0
    have Z3 := Nat.le_trans Z0 Kq2.1
    have Vq2 : Av Z T2.heap r2 .byte (0 : Int32) [] (.int (0 : Int32)) := by
      rcases Dq2 with ⟨q | q, -⟩ | ⟨-, -, q⟩
      · exact absurd q (Fld.ne F_ordinal_INPUT_DATA F_ordinal_COUNTER (by simp))
      · exact absurd q (Fld.ne F_ordinal_INPUT_DATA F_ordinal_CLOCK_OFFSET (by simp))
      · exact q
    refine ogo (fun t k => st2.trans k) ?_
    show OwnEnds _ _ _ _ _ _ _ (T2.setTop (mkF m 35 #[.val (.int p0), .val (.int p1), .val (.int (0 : Int32)), .val (.ref w_INPUT_DATA), .val (.int (0 : Int32)), .unset, .unset, .unset] [(.ref r2)]))
    refine ogo (fun t k => XS.astore X2.here hx rfl (hb hby at_35) rfl rfl (l' := #[.val (.int p0), .val (.int p1), .val (.int (0 : Int32)), .val (.ref w_INPUT_DATA), .val (.int (0 : Int32)), .val (.ref r2), .unset, .unset]) rfl k) ?_
    show OwnEnds _ _ _ _ _ _ _ (T2.setTop (mkF m 37 #[.val (.int p0), .val (.int p1), .val (.int (0 : Int32)), .val (.ref w_INPUT_DATA), .val (.int (0 : Int32)), .val (.ref r2), .unset, .unset] []))
    refine ogo (fun t k => XS.aload X2.here hx rfl (hb hby at_37) rfl rfl k) ?_
    show OwnEnds _ _ _ _ _ _ _ (T2.setTop (mkF m 39 #[.val (.int p0), .val (.int p1), .val (.int (0 : Int32)), .val (.ref w_INPUT_DATA), .val (.int (0 : Int32)), .val (.ref r2), .unset, .unset] [(.ref r2)]))
    refine ogo (fun t k => XS.ifnonnullYes X2.here hx rfl (pc0 := 39) (pc' := 44) rfl (hb hby at_39) rfl (by decide) (by decide) k) ?_
    show OwnEnds _ _ _ _ _ _ _ (T2.setTop (mkF m 44 #[.val (.int p0), .val (.int p1), .val (.int (0 : Int32)), .val (.ref w_INPUT_DATA), .val (.int (0 : Int32)), .val (.ref r2), .unset, .unset] []))
    refine ogo (fun t k => XS.iload X2.here hx rfl (hb hby at_44) rfl k) ?_
    show OwnEnds _ _ _ _ _ _ _ (T2.setTop (mkF m 46 #[.val (.int p0), .val (.int p1), .val (.int (0 : Int32)), .val (.ref w_INPUT_DATA), .val (.int (0 : Int32)), .val (.ref r2), .unset, .unset] [(.int (0 : Int32))]))
    refine ogo (fun t k => XS.ifNo X2.here hx rfl (hb hby at_46) rfl ((if0 _ _).trans (teq (by decide : (0 : Int32) = (0 : Int32))).2) k) ?_
    show OwnEnds _ _ _ _ _ _ _ (T2.setTop (mkF m 49 #[.val (.int p0), .val (.int p1), .val (.int (0 : Int32)), .val (.ref w_INPUT_DATA), .val (.int (0 : Int32)), .val (.ref r2), .unset, .unset] []))
    refine ogo (fun t k => XS.aload X2.here hx rfl (hb hby at_49) rfl rfl k) ?_
    show OwnEnds _ _ _ _ _ _ _ (T2.setTop (mkF m 51 #[.val (.int p0), .val (.int p1), .val (.int (0 : Int32)), .val (.ref w_INPUT_DATA), .val (.int (0 : Int32)), .val (.ref r2), .unset, .unset] [(.ref r2)]))
    obtain ⟨ak4, cl4, Ar4, Aq4, As4, An4, Ah4, Ag4⟩ := id Vq2
    refine ogo (fun t k => X2.arraylength hx Ar4.1 (State.isArrayOf_alike hZ.alike Ar4.2.1) (g := (mkF m 51 #[.val (.int p0), .val (.int p1), .val (.int (0 : Int32)), .val (.ref w_INPUT_DATA), .val (.int (0 : Int32)), .val (.ref r2), .unset, .unset] [(.ref r2)])) rfl rfl (hb hby at_51) t k) ?_
    rw [len_of As4 An4]
    show OwnEnds _ _ _ _ _ _ _ (T2.setTop (mkF m 52 #[.val (.int p0), .val (.int p1), .val (.int (0 : Int32)), .val (.ref w_INPUT_DATA), .val (.int (0 : Int32)), .val (.ref r2), .unset, .unset] [(.int (0 : Int32))]))
    refine ogo (fun t k => XS.ifYes X2.here hx rfl (pc0 := 52) (pc' := 57) rfl (hb hby at_52) rfl ((if0 _ _).trans (teq (by decide : (0 : Int32) = (0 : Int32))).1) (by decide) (by decide) k) ?_
    show OwnEnds _ _ _ _ _ _ _ (T2.setTop (mkF m 57 #[.val (.int p0), .val (.int p1), .val (.int (0 : Int32)), .val (.ref w_INPUT_DATA), .val (.int (0 : Int32)), .val (.ref r2), .unset, .unset] []))
    refine ogo (fun t k => XS.aloadN X2.here hx rfl (hb hby at_57) rfl rfl k) ?_
    show OwnEnds _ _ _ _ _ _ _ (T2.setTop (mkF m 58 #[.val (.int p0), .val (.int p1), .val (.int (0 : Int32)), .val (.ref w_INPUT_DATA), .val (.int (0 : Int32)), .val (.ref r2), .unset, .unset] [(.ref w_INPUT_DATA)]))
    obtain ⟨cq5, kq5, q5a, q5b, q5c⟩ := isOf hZ rfl (E_INPUT_DATA.ext OLD3.2)
    obtain ⟨v5, _, ⟨T5, L5, k5, n5⟩, -, X5, ⟨Lc5, hQ5, l5, y5, z5⟩, st5⟩ := X2.virtualBack hx (y := (⟨"com/example/opaque_token/opaquetoken/token/ObjectType", "initialValue", "()[B"⟩ : MethodName)) (z := (⟨"com/example/opaque_token/opaquetoken/token/ObjectType", "initialValue", "()[B"⟩ : MethodName)) hown (mvT hZ (hw _ (List.mem_of_getElem? (i := 8) rfl))) (mvT hZ (hw _ (List.mem_of_getElem? (i := 9) rfl))) (notFace_of_selects (args := #[]) (mvT hZ (hw _ (List.mem_of_getElem? (i := 11) rfl)))) (mvT hZ (hw _ (List.mem_of_getElem? (i := 11) rfl))) (mvT hZ (hw _ (List.mem_of_getElem? (i := 10) rfl))) (by decide) (backOf (W := 0) (rm2 l Z a0 hw [] w_INPUT_DATA w_COUNTER w_CLOCK_OFFSET T2.heap n0 Z3 OLD3 S_COUNTER S_CLOCK_OFFSET) hZ (hw _ (List.mem_of_getElem? (i := 12) rfl)) (hw _ (List.mem_of_getElem? (i := 6) rfl)) (by decide) (by decide)) q5a q5c (g := (mkF m 58 #[.val (.int p0), .val (.int p1), .val (.int (0 : Int32)), .val (.ref w_INPUT_DATA), .val (.int (0 : Int32)), .val (.ref r2), .unset, .unset] [(.ref w_INPUT_DATA)])) rfl (by rw [hml]; rfl) (Steps.refl _) (argsL := []) (rest := []) (lenOf pd____B rfl) rfl (by show 2 * 0 + _ ≤ _; exact Nat.le_of_eq rfl) (hb hby at_58) (fun _ _ => ⟨rfl, rfl, (by decide : 1 + 1 ≤ _), (by decide : 4 + 4 ≤ _)⟩)
    dsimp only [Pt.U, Pt.locs, Pt.cells, Pt.slots] at X5 l5 y5 z5 st5 hQ5
    subst l5 y5 z5
    obtain ⟨r5, rfl, Sq5, N5q, Kq5, Dq5⟩ := hQ5
    have N5 := Fr.app N2 N5q
    have ne_r2_r5 : r2 ≠ r5 := Nat.ne_of_lt (Nat.lt_of_lt_of_le (Vq2).lt Sq5)
    have q_r5 : n0 ≤ r5 := Nat.le_trans Z3 Sq5
    have sz_r5 : h0.size ≤ r5 := Nat.le_trans K3.1 Sq5
    have f6 := Vq2.keep Kq5 nin0
    have OLD7 := OLD3.keep Kq5 all0
    have K7 := K3.trans Kq5 all0
    have Z7 := Nat.le_trans Z3 Kq5.1
    have Vq5 : Av Z T5.heap r5 .byte (0 : Int32) [] (.int (0 : Int32)) := by
      rcases Dq5 with ⟨q | q, -⟩ | ⟨-, -, q⟩
      · exact absurd q (Fld.ne F_ordinal_INPUT_DATA F_ordinal_COUNTER (by simp))
      · exact absurd q (Fld.ne F_ordinal_INPUT_DATA F_ordinal_CLOCK_OFFSET (by simp))
      · exact q
    refine ogo (fun t k => st5.trans k) ?_
    show OwnEnds _ _ _ _ _ _ _ (T5.setTop (mkF m 61 #[.val (.int p0), .val (.int p1), .val (.int (0 : Int32)), .val (.ref w_INPUT_DATA), .val (.int (0 : Int32)), .val (.ref r2), .unset, .unset] [(.ref r5)]))
    refine ogo (fun t k => XS.astore X5.here hx rfl (hb hby at_61) rfl rfl (l' := #[.val (.int p0), .val (.int p1), .val (.int (0 : Int32)), .val (.ref w_INPUT_DATA), .val (.int (0 : Int32)), .val (.ref r2), .val (.ref r5), .unset]) rfl k) ?_
    show OwnEnds _ _ _ _ _ _ _ (T5.setTop (mkF m 63 #[.val (.int p0), .val (.int p1), .val (.int (0 : Int32)), .val (.ref w_INPUT_DATA), .val (.int (0 : Int32)), .val (.ref r2), .val (.ref r5), .unset] []))
    refine ogo (fun t k => XS.aload X5.here hx rfl (hb hby at_63) rfl rfl k) ?_
    show OwnEnds _ _ _ _ _ _ _ (T5.setTop (mkF m 65 #[.val (.int p0), .val (.int p1), .val (.int (0 : Int32)), .val (.ref w_INPUT_DATA), .val (.int (0 : Int32)), .val (.ref r2), .val (.ref r5), .unset] [(.ref r5)]))
    refine ogo (fun t k => XS.ifnullNo X5.here hx rfl (hb hby at_65) rfl k) ?_
    show OwnEnds _ _ _ _ _ _ _ (T5.setTop (mkF m 68 #[.val (.int p0), .val (.int p1), .val (.int (0 : Int32)), .val (.ref w_INPUT_DATA), .val (.int (0 : Int32)), .val (.ref r2), .val (.ref r5), .unset] []))
    refine ogo (fun t k => XS.aload X5.here hx rfl (hb hby at_68) rfl rfl k) ?_
    show OwnEnds _ _ _ _ _ _ _ (T5.setTop (mkF m 70 #[.val (.int p0), .val (.int p1), .val (.int (0 : Int32)), .val (.ref w_INPUT_DATA), .val (.int (0 : Int32)), .val (.ref r2), .val (.ref r5), .unset] [(.ref r5)]))
    obtain ⟨ak8, cl8, Ar8, Aq8, As8, An8, Ah8, Ag8⟩ := id Vq5
    refine ogo (fun t k => X5.arraylength hx Ar8.1 (State.isArrayOf_alike hZ.alike Ar8.2.1) (g := (mkF m 70 #[.val (.int p0), .val (.int p1), .val (.int (0 : Int32)), .val (.ref w_INPUT_DATA), .val (.int (0 : Int32)), .val (.ref r2), .val (.ref r5), .unset] [(.ref r5)])) rfl rfl (hb hby at_70) t k) ?_
    rw [len_of As8 An8]
    show OwnEnds _ _ _ _ _ _ _ (T5.setTop (mkF m 71 #[.val (.int p0), .val (.int p1), .val (.int (0 : Int32)), .val (.ref w_INPUT_DATA), .val (.int (0 : Int32)), .val (.ref r2), .val (.ref r5), .unset] [(.int (0 : Int32))]))
    refine ogo (fun t k => XS.ifNo X5.here hx rfl (hb hby at_71) rfl ((if0 _ _).trans (teq (by decide : (0 : Int32) = (0 : Int32))).2) k) ?_
    show OwnEnds _ _ _ _ _ _ _ (T5.setTop (mkF m 74 #[.val (.int p0), .val (.int p1), .val (.int (0 : Int32)), .val (.ref w_INPUT_DATA), .val (.int (0 : Int32)), .val (.ref r2), .val (.ref r5), .unset] []))
    refine ogo (fun t k => XS.iconst X5.here hx rfl (hb hby at_74) k) ?_
    show OwnEnds _ _ _ _ _ _ _ (T5.setTop (mkF m 75 #[.val (.int p0), .val (.int p1), .val (.int (0 : Int32)), .val (.ref w_INPUT_DATA), .val (.int (0 : Int32)), .val (.ref r2), .val (.ref r5), .unset] [(.int (1 : Int32))]))
    refine ogo (fun t k => XS.goto X5.here hx rfl (pc0 := 75) (pc' := 79) rfl (hb hby at_75) (by decide) (by decide) k) ?_
    show OwnEnds _ _ _ _ _ _ _ (T5.setTop (mkF m 79 #[.val (.int p0), .val (.int p1), .val (.int (0 : Int32)), .val (.ref w_INPUT_DATA), .val (.int (0 : Int32)), .val (.ref r2), .val (.ref r5), .unset] [(.int (1 : Int32))]))
    refine endZ X5 hx hlk Bd.returns rfl (hb hby at_79) (by decide) (by decide) ?_
    show Q0 Z p0 p1 w_INPUT_DATA w_COUNTER w_CLOCK_OFFSET w_MODULUS w_OUTPUT_DATA w_RANDOM_FILL w_EXPONENT w_CONFIGURATION w_ROM_DATA h0 n0 _ T5.heap _
    exact ⟨rfl, N5⟩
  · show OwnEnds _ _ _ _ _ _ _ (s₁.setTop (mkF m 7 #[.val (.int p0), .val (.int p1), .unset, .unset, .unset, .unset, .unset, .unset] [(.int (1 : Int32))]))
    refine ogo (fun t k => XS.istoreN X0.here hx rfl (hb hby at_7) rfl (l' := #[.val (.int p0), .val (.int p1), .val (.int (1 : Int32)), .unset, .unset, .unset, .unset, .unset]) rfl k) ?_
    show OwnEnds _ _ _ _ _ _ _ (s₁.setTop (mkF m 8 #[.val (.int p0), .val (.int p1), .val (.int (1 : Int32)), .unset, .unset, .unset, .unset, .unset] []))
    refine ogo (fun t k => XS.iloadN X0.here hx rfl (hb hby at_8) rfl k) ?_
    show OwnEnds _ _ _ _ _ _ _ (s₁.setTop (mkF m 9 #[.val (.int p0), .val (.int p1), .val (.int (1 : Int32)), .unset, .unset, .unset, .unset, .unset] [(.int (1 : Int32))]))
    obtain ⟨v9, _, ⟨T9, L9, k9, n9⟩, -, X9, ⟨Lc9, hQ9, l9, y9, z9⟩, st9⟩ := Jvm.LawKit.callS X0 hx (y := (⟨"com/example/opaque_token/opaquetoken/token/ObjectTypeInitialValuePinLaw", "pick", "(I)Lcom/example/opaque_token/opaquetoken/token/ObjectType;"⟩ : MethodName)) hown (mvT hZ (hw _ (List.mem_of_getElem? (i := 1) rfl))) (mvT hZ (hw _ (List.mem_of_getElem? (i := 2) rfl))) (mvT hZ (hw _ (List.mem_of_getElem? (i := 3) rfl))) (mvT hZ (hw _ (List.mem_of_getElem? (i := 4) rfl))) (by decide) (backOf (W := 0) (rm1 l Z a0 hw [] (1 : Int32) w_INPUT_DATA w_OUTPUT_DATA w_CONFIGURATION w_EXPONENT w_MODULUS w_COUNTER w_CLOCK_OFFSET w_ROM_DATA w_RANDOM_FILL h0 n0 Z0 OLD S_INPUT_DATA S_OUTPUT_DATA S_CONFIGURATION S_EXPONENT S_MODULUS S_COUNTER S_CLOCK_OFFSET S_ROM_DATA S_RANDOM_FILL) hZ (hw _ (List.mem_of_getElem? (i := 4) rfl)) (hw _ (List.mem_of_getElem? (i := 3) rfl)) (by decide) (by decide)) (g := (mkF m 9 #[.val (.int p0), .val (.int p1), .val (.int (1 : Int32)), .unset, .unset, .unset, .unset, .unset] [(.int (1 : Int32))])) rfl (by rw [hml]; rfl) (argsL := [(.int (1 : Int32))]) (rest := []) (lenOf pd_e6b9a279 rfl) rfl (by show 2 * 0 + _ ≤ _; exact Nat.le_of_eq rfl) (hb hby at_9) (fun _ _ => ⟨rfl, e0, (by decide : 0 + 0 ≤ _), (by decide : 0 + 0 ≤ _)⟩)
    dsimp only [Pt.U, Pt.locs, Pt.cells, Pt.slots] at X9 l9 y9 z9 st9 hQ9
    subst l9 y9 z9
    obtain ⟨hv9, N9q, e9⟩ := hQ9
    obtain rfl : v9 = some (.ref w_OUTPUT_DATA) := hv9.trans (by simp [own_pick])
    have N9 := Fr.app N0 N9q
    refine ogo (fun t k => st9 t k) ?_
    show OwnEnds _ _ _ _ _ _ _ (T9.setTop (mkF m 12 #[.val (.int p0), .val (.int p1), .val (.int (1 : Int32)), .unset, .unset, .unset, .unset, .unset] [(.ref w_OUTPUT_DATA)]))
    refine ogo (fun t k => XS.astoreN X9.here hx rfl (hb hby at_12) rfl rfl (l' := #[.val (.int p0), .val (.int p1), .val (.int (1 : Int32)), .val (.ref w_OUTPUT_DATA), .unset, .unset, .unset, .unset]) rfl k) ?_
    show OwnEnds _ _ _ _ _ _ _ (T9.setTop (mkF m 13 #[.val (.int p0), .val (.int p1), .val (.int (1 : Int32)), .val (.ref w_OUTPUT_DATA), .unset, .unset, .unset, .unset] []))
    refine ogo (fun t k => XS.iloadN X9.here hx rfl (hb hby at_13) rfl k) ?_
    show OwnEnds _ _ _ _ _ _ _ (T9.setTop (mkF m 14 #[.val (.int p0), .val (.int p1), .val (.int (1 : Int32)), .val (.ref w_OUTPUT_DATA), .unset, .unset, .unset, .unset] [(.int (1 : Int32))]))
    refine ogo (fun t k => XS.iconst X9.here hx rfl (hb hby at_14) k) ?_
    show OwnEnds _ _ _ _ _ _ _ (T9.setTop (mkF m 15 #[.val (.int p0), .val (.int p1), .val (.int (1 : Int32)), .val (.ref w_OUTPUT_DATA), .unset, .unset, .unset, .unset] [(.int (5 : Int32)), (.int (1 : Int32))]))
    refine ogo (fun t k => XS.icmpNo X9.here hx rfl (hb hby at_15) rfl (feq (by decide : ¬ ((1 : Int32) = (5 : Int32)))).1 k) ?_
    show OwnEnds _ _ _ _ _ _ _ (T9.setTop (mkF m 18 #[.val (.int p0), .val (.int p1), .val (.int (1 : Int32)), .val (.ref w_OUTPUT_DATA), .unset, .unset, .unset, .unset] []))
    refine ogo (fun t k => XS.iloadN X9.here hx rfl (hb hby at_18) rfl k) ?_
    show OwnEnds _ _ _ _ _ _ _ (T9.setTop (mkF m 19 #[.val (.int p0), .val (.int p1), .val (.int (1 : Int32)), .val (.ref w_OUTPUT_DATA), .unset, .unset, .unset, .unset] [(.int (1 : Int32))]))
    refine ogo (fun t k => XS.bipush X9.here hx rfl (hb hby at_19) k) ?_
    show OwnEnds _ _ _ _ _ _ _ (T9.setTop (mkF m 21 #[.val (.int p0), .val (.int p1), .val (.int (1 : Int32)), .val (.ref w_OUTPUT_DATA), .unset, .unset, .unset, .unset] [(.int (6 : Int32)), (.int (1 : Int32))]))
    refine ogo (fun t k => XS.icmpYes X9.here hx rfl (pc0 := 21) (pc' := 28) rfl (hb hby at_21) rfl (feq (by decide : ¬ ((1 : Int32) = (6 : Int32)))).2 (by decide) (by decide) k) ?_
    show OwnEnds _ _ _ _ _ _ _ (T9.setTop (mkF m 28 #[.val (.int p0), .val (.int p1), .val (.int (1 : Int32)), .val (.ref w_OUTPUT_DATA), .unset, .unset, .unset, .unset] []))
    refine ogo (fun t k => XS.iconst X9.here hx rfl (hb hby at_28) k) ?_
    show OwnEnds _ _ _ _ _ _ _ (T9.setTop (mkF m 29 #[.val (.int p0), .val (.int p1), .val (.int (1 : Int32)), .val (.ref w_OUTPUT_DATA), .unset, .unset, .unset, .unset] [(.int (0 : Int32))]))
    refine ogo (fun t k => XS.istore X9.here hx rfl (hb hby at_29) rfl (l' := #[.val (.int p0), .val (.int p1), .val (.int (1 : Int32)), .val (.ref w_OUTPUT_DATA), .val (.int (0 : Int32)), .unset, .unset, .unset]) rfl k) ?_
    show OwnEnds _ _ _ _ _ _ _ (T9.setTop (mkF m 31 #[.val (.int p0), .val (.int p1), .val (.int (1 : Int32)), .val (.ref w_OUTPUT_DATA), .val (.int (0 : Int32)), .unset, .unset, .unset] []))
    refine ogo (fun t k => XS.aloadN X9.here hx rfl (hb hby at_31) rfl rfl k) ?_
    show OwnEnds _ _ _ _ _ _ _ (T9.setTop (mkF m 32 #[.val (.int p0), .val (.int p1), .val (.int (1 : Int32)), .val (.ref w_OUTPUT_DATA), .val (.int (0 : Int32)), .unset, .unset, .unset] [(.ref w_OUTPUT_DATA)]))
    obtain ⟨cq10, kq10, q10a, q10b, q10c⟩ := isOf hZ e9 (E_OUTPUT_DATA.ext OLD.2)
    obtain ⟨v10, _, ⟨T10, L10, k10, n10⟩, -, X10, ⟨Lc10, hQ10, l10, y10, z10⟩, st10⟩ := X9.virtualBack hx (y := (⟨"com/example/opaque_token/opaquetoken/token/ObjectType", "initialValue", "()[B"⟩ : MethodName)) (z := (⟨"com/example/opaque_token/opaquetoken/token/ObjectType", "initialValue", "()[B"⟩ : MethodName)) hown (mvT hZ (hw _ (List.mem_of_getElem? (i := 8) rfl))) (mvT hZ (hw _ (List.mem_of_getElem? (i := 9) rfl))) (notFace_of_selects (args := #[]) (mvT hZ (hw _ (List.mem_of_getElem? (i := 11) rfl)))) (mvT hZ (hw _ (List.mem_of_getElem? (i := 11) rfl))) (mvT hZ (hw _ (List.mem_of_getElem? (i := 10) rfl))) (by decide) (backOf (W := 0) (rm2 l Z a0 hw [] w_OUTPUT_DATA w_COUNTER w_CLOCK_OFFSET h0 n0 Z0 OLD S_COUNTER S_CLOCK_OFFSET) hZ (hw _ (List.mem_of_getElem? (i := 12) rfl)) (hw _ (List.mem_of_getElem? (i := 6) rfl)) (by decide) (by decide)) q10a q10c (g := (mkF m 32 #[.val (.int p0), .val (.int p1), .val (.int (1 : Int32)), .val (.ref w_OUTPUT_DATA), .val (.int (0 : Int32)), .unset, .unset, .unset] [(.ref w_OUTPUT_DATA)])) rfl (by rw [hml]; rfl) (Steps.refl _) (argsL := []) (rest := []) (lenOf pd____B rfl) rfl (by show 2 * 0 + _ ≤ _; exact Nat.le_of_eq rfl) (hb hby at_32) (fun _ _ => ⟨rfl, e9, (by decide : 0 + 1 ≤ _), (by decide : 0 + 4 ≤ _)⟩)
    dsimp only [Pt.U, Pt.locs, Pt.cells, Pt.slots] at X10 l10 y10 z10 st10 hQ10
    subst l10 y10 z10
    obtain ⟨r10, rfl, Sq10, N10q, Kq10, Dq10⟩ := hQ10
    have N10 := Fr.app N9 N10q
    have q_r10 : n0 ≤ r10 := Nat.le_trans Z0 Sq10
    have sz_r10 : h0.size ≤ r10 := Nat.le_trans (Keep.refl h0 []).1 Sq10
    have OLD11 := OLD.keep Kq10 all0
    have K11 := (Keep.refl h0 []).trans Kq10 all0
    have Z11 := Nat.le_trans Z0 Kq10.1
    have Vq10 : Av Z T10.heap r10 .byte (0 : Int32) [] (.int (0 : Int32)) := by
      rcases Dq10 with ⟨q | q, -⟩ | ⟨-, -, q⟩
      · exact absurd q (Fld.ne F_ordinal_OUTPUT_DATA F_ordinal_COUNTER (by simp))
      · exact absurd q (Fld.ne F_ordinal_OUTPUT_DATA F_ordinal_CLOCK_OFFSET (by simp))
      · exact q
    refine ogo (fun t k => st10.trans k) ?_
    show OwnEnds _ _ _ _ _ _ _ (T10.setTop (mkF m 35 #[.val (.int p0), .val (.int p1), .val (.int (1 : Int32)), .val (.ref w_OUTPUT_DATA), .val (.int (0 : Int32)), .unset, .unset, .unset] [(.ref r10)]))
    refine ogo (fun t k => XS.astore X10.here hx rfl (hb hby at_35) rfl rfl (l' := #[.val (.int p0), .val (.int p1), .val (.int (1 : Int32)), .val (.ref w_OUTPUT_DATA), .val (.int (0 : Int32)), .val (.ref r10), .unset, .unset]) rfl k) ?_
    show OwnEnds _ _ _ _ _ _ _ (T10.setTop (mkF m 37 #[.val (.int p0), .val (.int p1), .val (.int (1 : Int32)), .val (.ref w_OUTPUT_DATA), .val (.int (0 : Int32)), .val (.ref r10), .unset, .unset] []))
    refine ogo (fun t k => XS.aload X10.here hx rfl (hb hby at_37) rfl rfl k) ?_
    show OwnEnds _ _ _ _ _ _ _ (T10.setTop (mkF m 39 #[.val (.int p0), .val (.int p1), .val (.int (1 : Int32)), .val (.ref w_OUTPUT_DATA), .val (.int (0 : Int32)), .val (.ref r10), .unset, .unset] [(.ref r10)]))
    refine ogo (fun t k => XS.ifnonnullYes X10.here hx rfl (pc0 := 39) (pc' := 44) rfl (hb hby at_39) rfl (by decide) (by decide) k) ?_
    show OwnEnds _ _ _ _ _ _ _ (T10.setTop (mkF m 44 #[.val (.int p0), .val (.int p1), .val (.int (1 : Int32)), .val (.ref w_OUTPUT_DATA), .val (.int (0 : Int32)), .val (.ref r10), .unset, .unset] []))
    refine ogo (fun t k => XS.iload X10.here hx rfl (hb hby at_44) rfl k) ?_
    show OwnEnds _ _ _ _ _ _ _ (T10.setTop (mkF m 46 #[.val (.int p0), .val (.int p1), .val (.int (1 : Int32)), .val (.ref w_OUTPUT_DATA), .val (.int (0 : Int32)), .val (.ref r10), .unset, .unset] [(.int (0 : Int32))]))
    refine ogo (fun t k => XS.ifNo X10.here hx rfl (hb hby at_46) rfl ((if0 _ _).trans (teq (by decide : (0 : Int32) = (0 : Int32))).2) k) ?_
    show OwnEnds _ _ _ _ _ _ _ (T10.setTop (mkF m 49 #[.val (.int p0), .val (.int p1), .val (.int (1 : Int32)), .val (.ref w_OUTPUT_DATA), .val (.int (0 : Int32)), .val (.ref r10), .unset, .unset] []))
    refine ogo (fun t k => XS.aload X10.here hx rfl (hb hby at_49) rfl rfl k) ?_
    show OwnEnds _ _ _ _ _ _ _ (T10.setTop (mkF m 51 #[.val (.int p0), .val (.int p1), .val (.int (1 : Int32)), .val (.ref w_OUTPUT_DATA), .val (.int (0 : Int32)), .val (.ref r10), .unset, .unset] [(.ref r10)]))
    obtain ⟨ak12, cl12, Ar12, Aq12, As12, An12, Ah12, Ag12⟩ := id Vq10
    refine ogo (fun t k => X10.arraylength hx Ar12.1 (State.isArrayOf_alike hZ.alike Ar12.2.1) (g := (mkF m 51 #[.val (.int p0), .val (.int p1), .val (.int (1 : Int32)), .val (.ref w_OUTPUT_DATA), .val (.int (0 : Int32)), .val (.ref r10), .unset, .unset] [(.ref r10)])) rfl rfl (hb hby at_51) t k) ?_
    rw [len_of As12 An12]
    show OwnEnds _ _ _ _ _ _ _ (T10.setTop (mkF m 52 #[.val (.int p0), .val (.int p1), .val (.int (1 : Int32)), .val (.ref w_OUTPUT_DATA), .val (.int (0 : Int32)), .val (.ref r10), .unset, .unset] [(.int (0 : Int32))]))
    refine ogo (fun t k => XS.ifYes X10.here hx rfl (pc0 := 52) (pc' := 57) rfl (hb hby at_52) rfl ((if0 _ _).trans (teq (by decide : (0 : Int32) = (0 : Int32))).1) (by decide) (by decide) k) ?_
    show OwnEnds _ _ _ _ _ _ _ (T10.setTop (mkF m 57 #[.val (.int p0), .val (.int p1), .val (.int (1 : Int32)), .val (.ref w_OUTPUT_DATA), .val (.int (0 : Int32)), .val (.ref r10), .unset, .unset] []))
    refine ogo (fun t k => XS.aloadN X10.here hx rfl (hb hby at_57) rfl rfl k) ?_
    show OwnEnds _ _ _ _ _ _ _ (T10.setTop (mkF m 58 #[.val (.int p0), .val (.int p1), .val (.int (1 : Int32)), .val (.ref w_OUTPUT_DATA), .val (.int (0 : Int32)), .val (.ref r10), .unset, .unset] [(.ref w_OUTPUT_DATA)]))
    obtain ⟨cq13, kq13, q13a, q13b, q13c⟩ := isOf hZ rfl (E_OUTPUT_DATA.ext OLD11.2)
    obtain ⟨v13, _, ⟨T13, L13, k13, n13⟩, -, X13, ⟨Lc13, hQ13, l13, y13, z13⟩, st13⟩ := X10.virtualBack hx (y := (⟨"com/example/opaque_token/opaquetoken/token/ObjectType", "initialValue", "()[B"⟩ : MethodName)) (z := (⟨"com/example/opaque_token/opaquetoken/token/ObjectType", "initialValue", "()[B"⟩ : MethodName)) hown (mvT hZ (hw _ (List.mem_of_getElem? (i := 8) rfl))) (mvT hZ (hw _ (List.mem_of_getElem? (i := 9) rfl))) (notFace_of_selects (args := #[]) (mvT hZ (hw _ (List.mem_of_getElem? (i := 11) rfl)))) (mvT hZ (hw _ (List.mem_of_getElem? (i := 11) rfl))) (mvT hZ (hw _ (List.mem_of_getElem? (i := 10) rfl))) (by decide) (backOf (W := 0) (rm2 l Z a0 hw [] w_OUTPUT_DATA w_COUNTER w_CLOCK_OFFSET T10.heap n0 Z11 OLD11 S_COUNTER S_CLOCK_OFFSET) hZ (hw _ (List.mem_of_getElem? (i := 12) rfl)) (hw _ (List.mem_of_getElem? (i := 6) rfl)) (by decide) (by decide)) q13a q13c (g := (mkF m 58 #[.val (.int p0), .val (.int p1), .val (.int (1 : Int32)), .val (.ref w_OUTPUT_DATA), .val (.int (0 : Int32)), .val (.ref r10), .unset, .unset] [(.ref w_OUTPUT_DATA)])) rfl (by rw [hml]; rfl) (Steps.refl _) (argsL := []) (rest := []) (lenOf pd____B rfl) rfl (by show 2 * 0 + _ ≤ _; exact Nat.le_of_eq rfl) (hb hby at_58) (fun _ _ => ⟨rfl, rfl, (by decide : 1 + 1 ≤ _), (by decide : 4 + 4 ≤ _)⟩)
    dsimp only [Pt.U, Pt.locs, Pt.cells, Pt.slots] at X13 l13 y13 z13 st13 hQ13
    subst l13 y13 z13
    obtain ⟨r13, rfl, Sq13, N13q, Kq13, Dq13⟩ := hQ13
    have N13 := Fr.app N10 N13q
    have ne_r10_r13 : r10 ≠ r13 := Nat.ne_of_lt (Nat.lt_of_lt_of_le (Vq10).lt Sq13)
    have q_r13 : n0 ≤ r13 := Nat.le_trans Z11 Sq13
    have sz_r13 : h0.size ≤ r13 := Nat.le_trans K11.1 Sq13
    have f14 := Vq10.keep Kq13 nin0
    have OLD15 := OLD11.keep Kq13 all0
    have K15 := K11.trans Kq13 all0
    have Z15 := Nat.le_trans Z11 Kq13.1
    have Vq13 : Av Z T13.heap r13 .byte (0 : Int32) [] (.int (0 : Int32)) := by
      rcases Dq13 with ⟨q | q, -⟩ | ⟨-, -, q⟩
      · exact absurd q (Fld.ne F_ordinal_OUTPUT_DATA F_ordinal_COUNTER (by simp))
      · exact absurd q (Fld.ne F_ordinal_OUTPUT_DATA F_ordinal_CLOCK_OFFSET (by simp))
      · exact q
    refine ogo (fun t k => st13.trans k) ?_
    show OwnEnds _ _ _ _ _ _ _ (T13.setTop (mkF m 61 #[.val (.int p0), .val (.int p1), .val (.int (1 : Int32)), .val (.ref w_OUTPUT_DATA), .val (.int (0 : Int32)), .val (.ref r10), .unset, .unset] [(.ref r13)]))
    refine ogo (fun t k => XS.astore X13.here hx rfl (hb hby at_61) rfl rfl (l' := #[.val (.int p0), .val (.int p1), .val (.int (1 : Int32)), .val (.ref w_OUTPUT_DATA), .val (.int (0 : Int32)), .val (.ref r10), .val (.ref r13), .unset]) rfl k) ?_
    show OwnEnds _ _ _ _ _ _ _ (T13.setTop (mkF m 63 #[.val (.int p0), .val (.int p1), .val (.int (1 : Int32)), .val (.ref w_OUTPUT_DATA), .val (.int (0 : Int32)), .val (.ref r10), .val (.ref r13), .unset] []))
    refine ogo (fun t k => XS.aload X13.here hx rfl (hb hby at_63) rfl rfl k) ?_
    show OwnEnds _ _ _ _ _ _ _ (T13.setTop (mkF m 65 #[.val (.int p0), .val (.int p1), .val (.int (1 : Int32)), .val (.ref w_OUTPUT_DATA), .val (.int (0 : Int32)), .val (.ref r10), .val (.ref r13), .unset] [(.ref r13)]))
    refine ogo (fun t k => XS.ifnullNo X13.here hx rfl (hb hby at_65) rfl k) ?_
    show OwnEnds _ _ _ _ _ _ _ (T13.setTop (mkF m 68 #[.val (.int p0), .val (.int p1), .val (.int (1 : Int32)), .val (.ref w_OUTPUT_DATA), .val (.int (0 : Int32)), .val (.ref r10), .val (.ref r13), .unset] []))
    refine ogo (fun t k => XS.aload X13.here hx rfl (hb hby at_68) rfl rfl k) ?_
    show OwnEnds _ _ _ _ _ _ _ (T13.setTop (mkF m 70 #[.val (.int p0), .val (.int p1), .val (.int (1 : Int32)), .val (.ref w_OUTPUT_DATA), .val (.int (0 : Int32)), .val (.ref r10), .val (.ref r13), .unset] [(.ref r13)]))
    obtain ⟨ak16, cl16, Ar16, Aq16, As16, An16, Ah16, Ag16⟩ := id Vq13
    refine ogo (fun t k => X13.arraylength hx Ar16.1 (State.isArrayOf_alike hZ.alike Ar16.2.1) (g := (mkF m 70 #[.val (.int p0), .val (.int p1), .val (.int (1 : Int32)), .val (.ref w_OUTPUT_DATA), .val (.int (0 : Int32)), .val (.ref r10), .val (.ref r13), .unset] [(.ref r13)])) rfl rfl (hb hby at_70) t k) ?_
    rw [len_of As16 An16]
    show OwnEnds _ _ _ _ _ _ _ (T13.setTop (mkF m 71 #[.val (.int p0), .val (.int p1), .val (.int (1 : Int32)), .val (.ref w_OUTPUT_DATA), .val (.int (0 : Int32)), .val (.ref r10), .val (.ref r13), .unset] [(.int (0 : Int32))]))
    refine ogo (fun t k => XS.ifNo X13.here hx rfl (hb hby at_71) rfl ((if0 _ _).trans (teq (by decide : (0 : Int32) = (0 : Int32))).2) k) ?_
    show OwnEnds _ _ _ _ _ _ _ (T13.setTop (mkF m 74 #[.val (.int p0), .val (.int p1), .val (.int (1 : Int32)), .val (.ref w_OUTPUT_DATA), .val (.int (0 : Int32)), .val (.ref r10), .val (.ref r13), .unset] []))
    refine ogo (fun t k => XS.iconst X13.here hx rfl (hb hby at_74) k) ?_
    show OwnEnds _ _ _ _ _ _ _ (T13.setTop (mkF m 75 #[.val (.int p0), .val (.int p1), .val (.int (1 : Int32)), .val (.ref w_OUTPUT_DATA), .val (.int (0 : Int32)), .val (.ref r10), .val (.ref r13), .unset] [(.int (1 : Int32))]))
    refine ogo (fun t k => XS.goto X13.here hx rfl (pc0 := 75) (pc' := 79) rfl (hb hby at_75) (by decide) (by decide) k) ?_
    show OwnEnds _ _ _ _ _ _ _ (T13.setTop (mkF m 79 #[.val (.int p0), .val (.int p1), .val (.int (1 : Int32)), .val (.ref w_OUTPUT_DATA), .val (.int (0 : Int32)), .val (.ref r10), .val (.ref r13), .unset] [(.int (1 : Int32))]))
    refine endZ X13 hx hlk Bd.returns rfl (hb hby at_79) (by decide) (by decide) ?_
    show Q0 Z p0 p1 w_INPUT_DATA w_COUNTER w_CLOCK_OFFSET w_MODULUS w_OUTPUT_DATA w_RANDOM_FILL w_EXPONENT w_CONFIGURATION w_ROM_DATA h0 n0 _ T13.heap _
    exact ⟨rfl, N13⟩
  · show OwnEnds _ _ _ _ _ _ _ (s₁.setTop (mkF m 7 #[.val (.int p0), .val (.int p1), .unset, .unset, .unset, .unset, .unset, .unset] [(.int (2 : Int32))]))
    refine ogo (fun t k => XS.istoreN X0.here hx rfl (hb hby at_7) rfl (l' := #[.val (.int p0), .val (.int p1), .val (.int (2 : Int32)), .unset, .unset, .unset, .unset, .unset]) rfl k) ?_
    show OwnEnds _ _ _ _ _ _ _ (s₁.setTop (mkF m 8 #[.val (.int p0), .val (.int p1), .val (.int (2 : Int32)), .unset, .unset, .unset, .unset, .unset] []))
    refine ogo (fun t k => XS.iloadN X0.here hx rfl (hb hby at_8) rfl k) ?_
    show OwnEnds _ _ _ _ _ _ _ (s₁.setTop (mkF m 9 #[.val (.int p0), .val (.int p1), .val (.int (2 : Int32)), .unset, .unset, .unset, .unset, .unset] [(.int (2 : Int32))]))
    obtain ⟨v17, _, ⟨T17, L17, k17, n17⟩, -, X17, ⟨Lc17, hQ17, l17, y17, z17⟩, st17⟩ := Jvm.LawKit.callS X0 hx (y := (⟨"com/example/opaque_token/opaquetoken/token/ObjectTypeInitialValuePinLaw", "pick", "(I)Lcom/example/opaque_token/opaquetoken/token/ObjectType;"⟩ : MethodName)) hown (mvT hZ (hw _ (List.mem_of_getElem? (i := 1) rfl))) (mvT hZ (hw _ (List.mem_of_getElem? (i := 2) rfl))) (mvT hZ (hw _ (List.mem_of_getElem? (i := 3) rfl))) (mvT hZ (hw _ (List.mem_of_getElem? (i := 4) rfl))) (by decide) (backOf (W := 0) (rm1 l Z a0 hw [] (2 : Int32) w_INPUT_DATA w_OUTPUT_DATA w_CONFIGURATION w_EXPONENT w_MODULUS w_COUNTER w_CLOCK_OFFSET w_ROM_DATA w_RANDOM_FILL h0 n0 Z0 OLD S_INPUT_DATA S_OUTPUT_DATA S_CONFIGURATION S_EXPONENT S_MODULUS S_COUNTER S_CLOCK_OFFSET S_ROM_DATA S_RANDOM_FILL) hZ (hw _ (List.mem_of_getElem? (i := 4) rfl)) (hw _ (List.mem_of_getElem? (i := 3) rfl)) (by decide) (by decide)) (g := (mkF m 9 #[.val (.int p0), .val (.int p1), .val (.int (2 : Int32)), .unset, .unset, .unset, .unset, .unset] [(.int (2 : Int32))])) rfl (by rw [hml]; rfl) (argsL := [(.int (2 : Int32))]) (rest := []) (lenOf pd_e6b9a279 rfl) rfl (by show 2 * 0 + _ ≤ _; exact Nat.le_of_eq rfl) (hb hby at_9) (fun _ _ => ⟨rfl, e0, (by decide : 0 + 0 ≤ _), (by decide : 0 + 0 ≤ _)⟩)
    dsimp only [Pt.U, Pt.locs, Pt.cells, Pt.slots] at X17 l17 y17 z17 st17 hQ17
    subst l17 y17 z17
    obtain ⟨hv17, N17q, e17⟩ := hQ17
    obtain rfl : v17 = some (.ref w_CONFIGURATION) := hv17.trans (by simp [own_pick])
    have N17 := Fr.app N0 N17q
    refine ogo (fun t k => st17 t k) ?_
    show OwnEnds _ _ _ _ _ _ _ (T17.setTop (mkF m 12 #[.val (.int p0), .val (.int p1), .val (.int (2 : Int32)), .unset, .unset, .unset, .unset, .unset] [(.ref w_CONFIGURATION)]))
    refine ogo (fun t k => XS.astoreN X17.here hx rfl (hb hby at_12) rfl rfl (l' := #[.val (.int p0), .val (.int p1), .val (.int (2 : Int32)), .val (.ref w_CONFIGURATION), .unset, .unset, .unset, .unset]) rfl k) ?_
    show OwnEnds _ _ _ _ _ _ _ (T17.setTop (mkF m 13 #[.val (.int p0), .val (.int p1), .val (.int (2 : Int32)), .val (.ref w_CONFIGURATION), .unset, .unset, .unset, .unset] []))
    refine ogo (fun t k => XS.iloadN X17.here hx rfl (hb hby at_13) rfl k) ?_
    show OwnEnds _ _ _ _ _ _ _ (T17.setTop (mkF m 14 #[.val (.int p0), .val (.int p1), .val (.int (2 : Int32)), .val (.ref w_CONFIGURATION), .unset, .unset, .unset, .unset] [(.int (2 : Int32))]))
    refine ogo (fun t k => XS.iconst X17.here hx rfl (hb hby at_14) k) ?_
    show OwnEnds _ _ _ _ _ _ _ (T17.setTop (mkF m 15 #[.val (.int p0), .val (.int p1), .val (.int (2 : Int32)), .val (.ref w_CONFIGURATION), .unset, .unset, .unset, .unset] [(.int (5 : Int32)), (.int (2 : Int32))]))
    refine ogo (fun t k => XS.icmpNo X17.here hx rfl (hb hby at_15) rfl (feq (by decide : ¬ ((2 : Int32) = (5 : Int32)))).1 k) ?_
    show OwnEnds _ _ _ _ _ _ _ (T17.setTop (mkF m 18 #[.val (.int p0), .val (.int p1), .val (.int (2 : Int32)), .val (.ref w_CONFIGURATION), .unset, .unset, .unset, .unset] []))
    refine ogo (fun t k => XS.iloadN X17.here hx rfl (hb hby at_18) rfl k) ?_
    show OwnEnds _ _ _ _ _ _ _ (T17.setTop (mkF m 19 #[.val (.int p0), .val (.int p1), .val (.int (2 : Int32)), .val (.ref w_CONFIGURATION), .unset, .unset, .unset, .unset] [(.int (2 : Int32))]))
    refine ogo (fun t k => XS.bipush X17.here hx rfl (hb hby at_19) k) ?_
    show OwnEnds _ _ _ _ _ _ _ (T17.setTop (mkF m 21 #[.val (.int p0), .val (.int p1), .val (.int (2 : Int32)), .val (.ref w_CONFIGURATION), .unset, .unset, .unset, .unset] [(.int (6 : Int32)), (.int (2 : Int32))]))
    refine ogo (fun t k => XS.icmpYes X17.here hx rfl (pc0 := 21) (pc' := 28) rfl (hb hby at_21) rfl (feq (by decide : ¬ ((2 : Int32) = (6 : Int32)))).2 (by decide) (by decide) k) ?_
    show OwnEnds _ _ _ _ _ _ _ (T17.setTop (mkF m 28 #[.val (.int p0), .val (.int p1), .val (.int (2 : Int32)), .val (.ref w_CONFIGURATION), .unset, .unset, .unset, .unset] []))
    refine ogo (fun t k => XS.iconst X17.here hx rfl (hb hby at_28) k) ?_
    show OwnEnds _ _ _ _ _ _ _ (T17.setTop (mkF m 29 #[.val (.int p0), .val (.int p1), .val (.int (2 : Int32)), .val (.ref w_CONFIGURATION), .unset, .unset, .unset, .unset] [(.int (0 : Int32))]))
    refine ogo (fun t k => XS.istore X17.here hx rfl (hb hby at_29) rfl (l' := #[.val (.int p0), .val (.int p1), .val (.int (2 : Int32)), .val (.ref w_CONFIGURATION), .val (.int (0 : Int32)), .unset, .unset, .unset]) rfl k) ?_
    show OwnEnds _ _ _ _ _ _ _ (T17.setTop (mkF m 31 #[.val (.int p0), .val (.int p1), .val (.int (2 : Int32)), .val (.ref w_CONFIGURATION), .val (.int (0 : Int32)), .unset, .unset, .unset] []))
    refine ogo (fun t k => XS.aloadN X17.here hx rfl (hb hby at_31) rfl rfl k) ?_
    show OwnEnds _ _ _ _ _ _ _ (T17.setTop (mkF m 32 #[.val (.int p0), .val (.int p1), .val (.int (2 : Int32)), .val (.ref w_CONFIGURATION), .val (.int (0 : Int32)), .unset, .unset, .unset] [(.ref w_CONFIGURATION)]))
    obtain ⟨cq18, kq18, q18a, q18b, q18c⟩ := isOf hZ e17 (E_CONFIGURATION.ext OLD.2)
    obtain ⟨v18, _, ⟨T18, L18, k18, n18⟩, -, X18, ⟨Lc18, hQ18, l18, y18, z18⟩, st18⟩ := X17.virtualBack hx (y := (⟨"com/example/opaque_token/opaquetoken/token/ObjectType", "initialValue", "()[B"⟩ : MethodName)) (z := (⟨"com/example/opaque_token/opaquetoken/token/ObjectType", "initialValue", "()[B"⟩ : MethodName)) hown (mvT hZ (hw _ (List.mem_of_getElem? (i := 8) rfl))) (mvT hZ (hw _ (List.mem_of_getElem? (i := 9) rfl))) (notFace_of_selects (args := #[]) (mvT hZ (hw _ (List.mem_of_getElem? (i := 11) rfl)))) (mvT hZ (hw _ (List.mem_of_getElem? (i := 11) rfl))) (mvT hZ (hw _ (List.mem_of_getElem? (i := 10) rfl))) (by decide) (backOf (W := 0) (rm2 l Z a0 hw [] w_CONFIGURATION w_COUNTER w_CLOCK_OFFSET h0 n0 Z0 OLD S_COUNTER S_CLOCK_OFFSET) hZ (hw _ (List.mem_of_getElem? (i := 12) rfl)) (hw _ (List.mem_of_getElem? (i := 6) rfl)) (by decide) (by decide)) q18a q18c (g := (mkF m 32 #[.val (.int p0), .val (.int p1), .val (.int (2 : Int32)), .val (.ref w_CONFIGURATION), .val (.int (0 : Int32)), .unset, .unset, .unset] [(.ref w_CONFIGURATION)])) rfl (by rw [hml]; rfl) (Steps.refl _) (argsL := []) (rest := []) (lenOf pd____B rfl) rfl (by show 2 * 0 + _ ≤ _; exact Nat.le_of_eq rfl) (hb hby at_32) (fun _ _ => ⟨rfl, e17, (by decide : 0 + 1 ≤ _), (by decide : 0 + 4 ≤ _)⟩)
    dsimp only [Pt.U, Pt.locs, Pt.cells, Pt.slots] at X18 l18 y18 z18 st18 hQ18
    subst l18 y18 z18
    obtain ⟨r18, rfl, Sq18, N18q, Kq18, Dq18⟩ := hQ18
    have N18 := Fr.app N17 N18q
    have q_r18 : n0 ≤ r18 := Nat.le_trans Z0 Sq18
    have sz_r18 : h0.size ≤ r18 := Nat.le_trans (Keep.refl h0 []).1 Sq18
    have OLD19 := OLD.keep Kq18 all0
    have K19 := (Keep.refl h0 []).trans Kq18 all0
    have Z19 := Nat.le_trans Z0 Kq18.1
    have Vq18 : Av Z T18.heap r18 .byte (0 : Int32) [] (.int (0 : Int32)) := by
      rcases Dq18 with ⟨q | q, -⟩ | ⟨-, -, q⟩
      · exact absurd q (Fld.ne F_ordinal_CONFIGURATION F_ordinal_COUNTER (by simp))
      · exact absurd q (Fld.ne F_ordinal_CONFIGURATION F_ordinal_CLOCK_OFFSET (by simp))
      · exact q
    refine ogo (fun t k => st18.trans k) ?_
    show OwnEnds _ _ _ _ _ _ _ (T18.setTop (mkF m 35 #[.val (.int p0), .val (.int p1), .val (.int (2 : Int32)), .val (.ref w_CONFIGURATION), .val (.int (0 : Int32)), .unset, .unset, .unset] [(.ref r18)]))
    refine ogo (fun t k => XS.astore X18.here hx rfl (hb hby at_35) rfl rfl (l' := #[.val (.int p0), .val (.int p1), .val (.int (2 : Int32)), .val (.ref w_CONFIGURATION), .val (.int (0 : Int32)), .val (.ref r18), .unset, .unset]) rfl k) ?_
    show OwnEnds _ _ _ _ _ _ _ (T18.setTop (mkF m 37 #[.val (.int p0), .val (.int p1), .val (.int (2 : Int32)), .val (.ref w_CONFIGURATION), .val (.int (0 : Int32)), .val (.ref r18), .unset, .unset] []))
    refine ogo (fun t k => XS.aload X18.here hx rfl (hb hby at_37) rfl rfl k) ?_
    show OwnEnds _ _ _ _ _ _ _ (T18.setTop (mkF m 39 #[.val (.int p0), .val (.int p1), .val (.int (2 : Int32)), .val (.ref w_CONFIGURATION), .val (.int (0 : Int32)), .val (.ref r18), .unset, .unset] [(.ref r18)]))
    refine ogo (fun t k => XS.ifnonnullYes X18.here hx rfl (pc0 := 39) (pc' := 44) rfl (hb hby at_39) rfl (by decide) (by decide) k) ?_
    show OwnEnds _ _ _ _ _ _ _ (T18.setTop (mkF m 44 #[.val (.int p0), .val (.int p1), .val (.int (2 : Int32)), .val (.ref w_CONFIGURATION), .val (.int (0 : Int32)), .val (.ref r18), .unset, .unset] []))
    refine ogo (fun t k => XS.iload X18.here hx rfl (hb hby at_44) rfl k) ?_
    show OwnEnds _ _ _ _ _ _ _ (T18.setTop (mkF m 46 #[.val (.int p0), .val (.int p1), .val (.int (2 : Int32)), .val (.ref w_CONFIGURATION), .val (.int (0 : Int32)), .val (.ref r18), .unset, .unset] [(.int (0 : Int32))]))
    refine ogo (fun t k => XS.ifNo X18.here hx rfl (hb hby at_46) rfl ((if0 _ _).trans (teq (by decide : (0 : Int32) = (0 : Int32))).2) k) ?_
    show OwnEnds _ _ _ _ _ _ _ (T18.setTop (mkF m 49 #[.val (.int p0), .val (.int p1), .val (.int (2 : Int32)), .val (.ref w_CONFIGURATION), .val (.int (0 : Int32)), .val (.ref r18), .unset, .unset] []))
    refine ogo (fun t k => XS.aload X18.here hx rfl (hb hby at_49) rfl rfl k) ?_
    show OwnEnds _ _ _ _ _ _ _ (T18.setTop (mkF m 51 #[.val (.int p0), .val (.int p1), .val (.int (2 : Int32)), .val (.ref w_CONFIGURATION), .val (.int (0 : Int32)), .val (.ref r18), .unset, .unset] [(.ref r18)]))
    obtain ⟨ak20, cl20, Ar20, Aq20, As20, An20, Ah20, Ag20⟩ := id Vq18
    refine ogo (fun t k => X18.arraylength hx Ar20.1 (State.isArrayOf_alike hZ.alike Ar20.2.1) (g := (mkF m 51 #[.val (.int p0), .val (.int p1), .val (.int (2 : Int32)), .val (.ref w_CONFIGURATION), .val (.int (0 : Int32)), .val (.ref r18), .unset, .unset] [(.ref r18)])) rfl rfl (hb hby at_51) t k) ?_
    rw [len_of As20 An20]
    show OwnEnds _ _ _ _ _ _ _ (T18.setTop (mkF m 52 #[.val (.int p0), .val (.int p1), .val (.int (2 : Int32)), .val (.ref w_CONFIGURATION), .val (.int (0 : Int32)), .val (.ref r18), .unset, .unset] [(.int (0 : Int32))]))
    refine ogo (fun t k => XS.ifYes X18.here hx rfl (pc0 := 52) (pc' := 57) rfl (hb hby at_52) rfl ((if0 _ _).trans (teq (by decide : (0 : Int32) = (0 : Int32))).1) (by decide) (by decide) k) ?_
    show OwnEnds _ _ _ _ _ _ _ (T18.setTop (mkF m 57 #[.val (.int p0), .val (.int p1), .val (.int (2 : Int32)), .val (.ref w_CONFIGURATION), .val (.int (0 : Int32)), .val (.ref r18), .unset, .unset] []))
    refine ogo (fun t k => XS.aloadN X18.here hx rfl (hb hby at_57) rfl rfl k) ?_
    show OwnEnds _ _ _ _ _ _ _ (T18.setTop (mkF m 58 #[.val (.int p0), .val (.int p1), .val (.int (2 : Int32)), .val (.ref w_CONFIGURATION), .val (.int (0 : Int32)), .val (.ref r18), .unset, .unset] [(.ref w_CONFIGURATION)]))
    obtain ⟨cq21, kq21, q21a, q21b, q21c⟩ := isOf hZ rfl (E_CONFIGURATION.ext OLD19.2)
    obtain ⟨v21, _, ⟨T21, L21, k21, n21⟩, -, X21, ⟨Lc21, hQ21, l21, y21, z21⟩, st21⟩ := X18.virtualBack hx (y := (⟨"com/example/opaque_token/opaquetoken/token/ObjectType", "initialValue", "()[B"⟩ : MethodName)) (z := (⟨"com/example/opaque_token/opaquetoken/token/ObjectType", "initialValue", "()[B"⟩ : MethodName)) hown (mvT hZ (hw _ (List.mem_of_getElem? (i := 8) rfl))) (mvT hZ (hw _ (List.mem_of_getElem? (i := 9) rfl))) (notFace_of_selects (args := #[]) (mvT hZ (hw _ (List.mem_of_getElem? (i := 11) rfl)))) (mvT hZ (hw _ (List.mem_of_getElem? (i := 11) rfl))) (mvT hZ (hw _ (List.mem_of_getElem? (i := 10) rfl))) (by decide) (backOf (W := 0) (rm2 l Z a0 hw [] w_CONFIGURATION w_COUNTER w_CLOCK_OFFSET T18.heap n0 Z19 OLD19 S_COUNTER S_CLOCK_OFFSET) hZ (hw _ (List.mem_of_getElem? (i := 12) rfl)) (hw _ (List.mem_of_getElem? (i := 6) rfl)) (by decide) (by decide)) q21a q21c (g := (mkF m 58 #[.val (.int p0), .val (.int p1), .val (.int (2 : Int32)), .val (.ref w_CONFIGURATION), .val (.int (0 : Int32)), .val (.ref r18), .unset, .unset] [(.ref w_CONFIGURATION)])) rfl (by rw [hml]; rfl) (Steps.refl _) (argsL := []) (rest := []) (lenOf pd____B rfl) rfl (by show 2 * 0 + _ ≤ _; exact Nat.le_of_eq rfl) (hb hby at_58) (fun _ _ => ⟨rfl, rfl, (by decide : 1 + 1 ≤ _), (by decide : 4 + 4 ≤ _)⟩)
    dsimp only [Pt.U, Pt.locs, Pt.cells, Pt.slots] at X21 l21 y21 z21 st21 hQ21
    subst l21 y21 z21
    obtain ⟨r21, rfl, Sq21, N21q, Kq21, Dq21⟩ := hQ21
    have N21 := Fr.app N18 N21q
    have ne_r18_r21 : r18 ≠ r21 := Nat.ne_of_lt (Nat.lt_of_lt_of_le (Vq18).lt Sq21)
    have q_r21 : n0 ≤ r21 := Nat.le_trans Z19 Sq21
    have sz_r21 : h0.size ≤ r21 := Nat.le_trans K19.1 Sq21
    have f22 := Vq18.keep Kq21 nin0
    have OLD23 := OLD19.keep Kq21 all0
    have K23 := K19.trans Kq21 all0
    have Z23 := Nat.le_trans Z19 Kq21.1
    have Vq21 : Av Z T21.heap r21 .byte (0 : Int32) [] (.int (0 : Int32)) := by
      rcases Dq21 with ⟨q | q, -⟩ | ⟨-, -, q⟩
      · exact absurd q (Fld.ne F_ordinal_CONFIGURATION F_ordinal_COUNTER (by simp))
      · exact absurd q (Fld.ne F_ordinal_CONFIGURATION F_ordinal_CLOCK_OFFSET (by simp))
      · exact q
    refine ogo (fun t k => st21.trans k) ?_
    show OwnEnds _ _ _ _ _ _ _ (T21.setTop (mkF m 61 #[.val (.int p0), .val (.int p1), .val (.int (2 : Int32)), .val (.ref w_CONFIGURATION), .val (.int (0 : Int32)), .val (.ref r18), .unset, .unset] [(.ref r21)]))
    refine ogo (fun t k => XS.astore X21.here hx rfl (hb hby at_61) rfl rfl (l' := #[.val (.int p0), .val (.int p1), .val (.int (2 : Int32)), .val (.ref w_CONFIGURATION), .val (.int (0 : Int32)), .val (.ref r18), .val (.ref r21), .unset]) rfl k) ?_
    show OwnEnds _ _ _ _ _ _ _ (T21.setTop (mkF m 63 #[.val (.int p0), .val (.int p1), .val (.int (2 : Int32)), .val (.ref w_CONFIGURATION), .val (.int (0 : Int32)), .val (.ref r18), .val (.ref r21), .unset] []))
    refine ogo (fun t k => XS.aload X21.here hx rfl (hb hby at_63) rfl rfl k) ?_
    show OwnEnds _ _ _ _ _ _ _ (T21.setTop (mkF m 65 #[.val (.int p0), .val (.int p1), .val (.int (2 : Int32)), .val (.ref w_CONFIGURATION), .val (.int (0 : Int32)), .val (.ref r18), .val (.ref r21), .unset] [(.ref r21)]))
    refine ogo (fun t k => XS.ifnullNo X21.here hx rfl (hb hby at_65) rfl k) ?_
    show OwnEnds _ _ _ _ _ _ _ (T21.setTop (mkF m 68 #[.val (.int p0), .val (.int p1), .val (.int (2 : Int32)), .val (.ref w_CONFIGURATION), .val (.int (0 : Int32)), .val (.ref r18), .val (.ref r21), .unset] []))
    refine ogo (fun t k => XS.aload X21.here hx rfl (hb hby at_68) rfl rfl k) ?_
    show OwnEnds _ _ _ _ _ _ _ (T21.setTop (mkF m 70 #[.val (.int p0), .val (.int p1), .val (.int (2 : Int32)), .val (.ref w_CONFIGURATION), .val (.int (0 : Int32)), .val (.ref r18), .val (.ref r21), .unset] [(.ref r21)]))
    obtain ⟨ak24, cl24, Ar24, Aq24, As24, An24, Ah24, Ag24⟩ := id Vq21
    refine ogo (fun t k => X21.arraylength hx Ar24.1 (State.isArrayOf_alike hZ.alike Ar24.2.1) (g := (mkF m 70 #[.val (.int p0), .val (.int p1), .val (.int (2 : Int32)), .val (.ref w_CONFIGURATION), .val (.int (0 : Int32)), .val (.ref r18), .val (.ref r21), .unset] [(.ref r21)])) rfl rfl (hb hby at_70) t k) ?_
    rw [len_of As24 An24]
    show OwnEnds _ _ _ _ _ _ _ (T21.setTop (mkF m 71 #[.val (.int p0), .val (.int p1), .val (.int (2 : Int32)), .val (.ref w_CONFIGURATION), .val (.int (0 : Int32)), .val (.ref r18), .val (.ref r21), .unset] [(.int (0 : Int32))]))
    refine ogo (fun t k => XS.ifNo X21.here hx rfl (hb hby at_71) rfl ((if0 _ _).trans (teq (by decide : (0 : Int32) = (0 : Int32))).2) k) ?_
    show OwnEnds _ _ _ _ _ _ _ (T21.setTop (mkF m 74 #[.val (.int p0), .val (.int p1), .val (.int (2 : Int32)), .val (.ref w_CONFIGURATION), .val (.int (0 : Int32)), .val (.ref r18), .val (.ref r21), .unset] []))
    refine ogo (fun t k => XS.iconst X21.here hx rfl (hb hby at_74) k) ?_
    show OwnEnds _ _ _ _ _ _ _ (T21.setTop (mkF m 75 #[.val (.int p0), .val (.int p1), .val (.int (2 : Int32)), .val (.ref w_CONFIGURATION), .val (.int (0 : Int32)), .val (.ref r18), .val (.ref r21), .unset] [(.int (1 : Int32))]))
    refine ogo (fun t k => XS.goto X21.here hx rfl (pc0 := 75) (pc' := 79) rfl (hb hby at_75) (by decide) (by decide) k) ?_
    show OwnEnds _ _ _ _ _ _ _ (T21.setTop (mkF m 79 #[.val (.int p0), .val (.int p1), .val (.int (2 : Int32)), .val (.ref w_CONFIGURATION), .val (.int (0 : Int32)), .val (.ref r18), .val (.ref r21), .unset] [(.int (1 : Int32))]))
    refine endZ X21 hx hlk Bd.returns rfl (hb hby at_79) (by decide) (by decide) ?_
    show Q0 Z p0 p1 w_INPUT_DATA w_COUNTER w_CLOCK_OFFSET w_MODULUS w_OUTPUT_DATA w_RANDOM_FILL w_EXPONENT w_CONFIGURATION w_ROM_DATA h0 n0 _ T21.heap _
    exact ⟨rfl, N21⟩
  · show OwnEnds _ _ _ _ _ _ _ (s₁.setTop (mkF m 7 #[.val (.int p0), .val (.int p1), .unset, .unset, .unset, .unset, .unset, .unset] [(.int (3 : Int32))]))
    refine ogo (fun t k => XS.istoreN X0.here hx rfl (hb hby at_7) rfl (l' := #[.val (.int p0), .val (.int p1), .val (.int (3 : Int32)), .unset, .unset, .unset, .unset, .unset]) rfl k) ?_
    show OwnEnds _ _ _ _ _ _ _ (s₁.setTop (mkF m 8 #[.val (.int p0), .val (.int p1), .val (.int (3 : Int32)), .unset, .unset, .unset, .unset, .unset] []))
    refine ogo (fun t k => XS.iloadN X0.here hx rfl (hb hby at_8) rfl k) ?_
    show OwnEnds _ _ _ _ _ _ _ (s₁.setTop (mkF m 9 #[.val (.int p0), .val (.int p1), .val (.int (3 : Int32)), .unset, .unset, .unset, .unset, .unset] [(.int (3 : Int32))]))
    obtain ⟨v25, _, ⟨T25, L25, k25, n25⟩, -, X25, ⟨Lc25, hQ25, l25, y25, z25⟩, st25⟩ := Jvm.LawKit.callS X0 hx (y := (⟨"com/example/opaque_token/opaquetoken/token/ObjectTypeInitialValuePinLaw", "pick", "(I)Lcom/example/opaque_token/opaquetoken/token/ObjectType;"⟩ : MethodName)) hown (mvT hZ (hw _ (List.mem_of_getElem? (i := 1) rfl))) (mvT hZ (hw _ (List.mem_of_getElem? (i := 2) rfl))) (mvT hZ (hw _ (List.mem_of_getElem? (i := 3) rfl))) (mvT hZ (hw _ (List.mem_of_getElem? (i := 4) rfl))) (by decide) (backOf (W := 0) (rm1 l Z a0 hw [] (3 : Int32) w_INPUT_DATA w_OUTPUT_DATA w_CONFIGURATION w_EXPONENT w_MODULUS w_COUNTER w_CLOCK_OFFSET w_ROM_DATA w_RANDOM_FILL h0 n0 Z0 OLD S_INPUT_DATA S_OUTPUT_DATA S_CONFIGURATION S_EXPONENT S_MODULUS S_COUNTER S_CLOCK_OFFSET S_ROM_DATA S_RANDOM_FILL) hZ (hw _ (List.mem_of_getElem? (i := 4) rfl)) (hw _ (List.mem_of_getElem? (i := 3) rfl)) (by decide) (by decide)) (g := (mkF m 9 #[.val (.int p0), .val (.int p1), .val (.int (3 : Int32)), .unset, .unset, .unset, .unset, .unset] [(.int (3 : Int32))])) rfl (by rw [hml]; rfl) (argsL := [(.int (3 : Int32))]) (rest := []) (lenOf pd_e6b9a279 rfl) rfl (by show 2 * 0 + _ ≤ _; exact Nat.le_of_eq rfl) (hb hby at_9) (fun _ _ => ⟨rfl, e0, (by decide : 0 + 0 ≤ _), (by decide : 0 + 0 ≤ _)⟩)
    dsimp only [Pt.U, Pt.locs, Pt.cells, Pt.slots] at X25 l25 y25 z25 st25 hQ25
    subst l25 y25 z25
    obtain ⟨hv25, N25q, e25⟩ := hQ25
    obtain rfl : v25 = some (.ref w_EXPONENT) := hv25.trans (by simp [own_pick])
    have N25 := Fr.app N0 N25q
    refine ogo (fun t k => st25 t k) ?_
    show OwnEnds _ _ _ _ _ _ _ (T25.setTop (mkF m 12 #[.val (.int p0), .val (.int p1), .val (.int (3 : Int32)), .unset, .unset, .unset, .unset, .unset] [(.ref w_EXPONENT)]))
    refine ogo (fun t k => XS.astoreN X25.here hx rfl (hb hby at_12) rfl rfl (l' := #[.val (.int p0), .val (.int p1), .val (.int (3 : Int32)), .val (.ref w_EXPONENT), .unset, .unset, .unset, .unset]) rfl k) ?_
    show OwnEnds _ _ _ _ _ _ _ (T25.setTop (mkF m 13 #[.val (.int p0), .val (.int p1), .val (.int (3 : Int32)), .val (.ref w_EXPONENT), .unset, .unset, .unset, .unset] []))
    refine ogo (fun t k => XS.iloadN X25.here hx rfl (hb hby at_13) rfl k) ?_
    show OwnEnds _ _ _ _ _ _ _ (T25.setTop (mkF m 14 #[.val (.int p0), .val (.int p1), .val (.int (3 : Int32)), .val (.ref w_EXPONENT), .unset, .unset, .unset, .unset] [(.int (3 : Int32))]))
    refine ogo (fun t k => XS.iconst X25.here hx rfl (hb hby at_14) k) ?_
    show OwnEnds _ _ _ _ _ _ _ (T25.setTop (mkF m 15 #[.val (.int p0), .val (.int p1), .val (.int (3 : Int32)), .val (.ref w_EXPONENT), .unset, .unset, .unset, .unset] [(.int (5 : Int32)), (.int (3 : Int32))]))
    refine ogo (fun t k => XS.icmpNo X25.here hx rfl (hb hby at_15) rfl (feq (by decide : ¬ ((3 : Int32) = (5 : Int32)))).1 k) ?_
    show OwnEnds _ _ _ _ _ _ _ (T25.setTop (mkF m 18 #[.val (.int p0), .val (.int p1), .val (.int (3 : Int32)), .val (.ref w_EXPONENT), .unset, .unset, .unset, .unset] []))
    refine ogo (fun t k => XS.iloadN X25.here hx rfl (hb hby at_18) rfl k) ?_
    show OwnEnds _ _ _ _ _ _ _ (T25.setTop (mkF m 19 #[.val (.int p0), .val (.int p1), .val (.int (3 : Int32)), .val (.ref w_EXPONENT), .unset, .unset, .unset, .unset] [(.int (3 : Int32))]))
    refine ogo (fun t k => XS.bipush X25.here hx rfl (hb hby at_19) k) ?_
    show OwnEnds _ _ _ _ _ _ _ (T25.setTop (mkF m 21 #[.val (.int p0), .val (.int p1), .val (.int (3 : Int32)), .val (.ref w_EXPONENT), .unset, .unset, .unset, .unset] [(.int (6 : Int32)), (.int (3 : Int32))]))
    refine ogo (fun t k => XS.icmpYes X25.here hx rfl (pc0 := 21) (pc' := 28) rfl (hb hby at_21) rfl (feq (by decide : ¬ ((3 : Int32) = (6 : Int32)))).2 (by decide) (by decide) k) ?_
    show OwnEnds _ _ _ _ _ _ _ (T25.setTop (mkF m 28 #[.val (.int p0), .val (.int p1), .val (.int (3 : Int32)), .val (.ref w_EXPONENT), .unset, .unset, .unset, .unset] []))
    refine ogo (fun t k => XS.iconst X25.here hx rfl (hb hby at_28) k) ?_
    show OwnEnds _ _ _ _ _ _ _ (T25.setTop (mkF m 29 #[.val (.int p0), .val (.int p1), .val (.int (3 : Int32)), .val (.ref w_EXPONENT), .unset, .unset, .unset, .unset] [(.int (0 : Int32))]))
    refine ogo (fun t k => XS.istore X25.here hx rfl (hb hby at_29) rfl (l' := #[.val (.int p0), .val (.int p1), .val (.int (3 : Int32)), .val (.ref w_EXPONENT), .val (.int (0 : Int32)), .unset, .unset, .unset]) rfl k) ?_
    show OwnEnds _ _ _ _ _ _ _ (T25.setTop (mkF m 31 #[.val (.int p0), .val (.int p1), .val (.int (3 : Int32)), .val (.ref w_EXPONENT), .val (.int (0 : Int32)), .unset, .unset, .unset] []))
    refine ogo (fun t k => XS.aloadN X25.here hx rfl (hb hby at_31) rfl rfl k) ?_
    show OwnEnds _ _ _ _ _ _ _ (T25.setTop (mkF m 32 #[.val (.int p0), .val (.int p1), .val (.int (3 : Int32)), .val (.ref w_EXPONENT), .val (.int (0 : Int32)), .unset, .unset, .unset] [(.ref w_EXPONENT)]))
    obtain ⟨cq26, kq26, q26a, q26b, q26c⟩ := isOf hZ e25 (E_EXPONENT.ext OLD.2)
    obtain ⟨v26, _, ⟨T26, L26, k26, n26⟩, -, X26, ⟨Lc26, hQ26, l26, y26, z26⟩, st26⟩ := X25.virtualBack hx (y := (⟨"com/example/opaque_token/opaquetoken/token/ObjectType", "initialValue", "()[B"⟩ : MethodName)) (z := (⟨"com/example/opaque_token/opaquetoken/token/ObjectType", "initialValue", "()[B"⟩ : MethodName)) hown (mvT hZ (hw _ (List.mem_of_getElem? (i := 8) rfl))) (mvT hZ (hw _ (List.mem_of_getElem? (i := 9) rfl))) (notFace_of_selects (args := #[]) (mvT hZ (hw _ (List.mem_of_getElem? (i := 11) rfl)))) (mvT hZ (hw _ (List.mem_of_getElem? (i := 11) rfl))) (mvT hZ (hw _ (List.mem_of_getElem? (i := 10) rfl))) (by decide) (backOf (W := 0) (rm2 l Z a0 hw [] w_EXPONENT w_COUNTER w_CLOCK_OFFSET h0 n0 Z0 OLD S_COUNTER S_CLOCK_OFFSET) hZ (hw _ (List.mem_of_getElem? (i := 12) rfl)) (hw _ (List.mem_of_getElem? (i := 6) rfl)) (by decide) (by decide)) q26a q26c (g := (mkF m 32 #[.val (.int p0), .val (.int p1), .val (.int (3 : Int32)), .val (.ref w_EXPONENT), .val (.int (0 : Int32)), .unset, .unset, .unset] [(.ref w_EXPONENT)])) rfl (by rw [hml]; rfl) (Steps.refl _) (argsL := []) (rest := []) (lenOf pd____B rfl) rfl (by show 2 * 0 + _ ≤ _; exact Nat.le_of_eq rfl) (hb hby at_32) (fun _ _ => ⟨rfl, e25, (by decide : 0 + 1 ≤ _), (by decide : 0 + 4 ≤ _)⟩)
    dsimp only [Pt.U, Pt.locs, Pt.cells, Pt.slots] at X26 l26 y26 z26 st26 hQ26
    subst l26 y26 z26
    obtain ⟨r26, rfl, Sq26, N26q, Kq26, Dq26⟩ := hQ26
    have N26 := Fr.app N25 N26q
    have q_r26 : n0 ≤ r26 := Nat.le_trans Z0 Sq26
    have sz_r26 : h0.size ≤ r26 := Nat.le_trans (Keep.refl h0 []).1 Sq26
    have OLD27 := OLD.keep Kq26 all0
    have K27 := (Keep.refl h0 []).trans Kq26 all0
    have Z27 := Nat.le_trans Z0 Kq26.1
    have Vq26 : Av Z T26.heap r26 .byte (0 : Int32) [] (.int (0 : Int32)) := by
      rcases Dq26 with ⟨q | q, -⟩ | ⟨-, -, q⟩
      · exact absurd q (Fld.ne F_ordinal_EXPONENT F_ordinal_COUNTER (by simp))
      · exact absurd q (Fld.ne F_ordinal_EXPONENT F_ordinal_CLOCK_OFFSET (by simp))
      · exact q
    refine ogo (fun t k => st26.trans k) ?_
    show OwnEnds _ _ _ _ _ _ _ (T26.setTop (mkF m 35 #[.val (.int p0), .val (.int p1), .val (.int (3 : Int32)), .val (.ref w_EXPONENT), .val (.int (0 : Int32)), .unset, .unset, .unset] [(.ref r26)]))
    refine ogo (fun t k => XS.astore X26.here hx rfl (hb hby at_35) rfl rfl (l' := #[.val (.int p0), .val (.int p1), .val (.int (3 : Int32)), .val (.ref w_EXPONENT), .val (.int (0 : Int32)), .val (.ref r26), .unset, .unset]) rfl k) ?_
    show OwnEnds _ _ _ _ _ _ _ (T26.setTop (mkF m 37 #[.val (.int p0), .val (.int p1), .val (.int (3 : Int32)), .val (.ref w_EXPONENT), .val (.int (0 : Int32)), .val (.ref r26), .unset, .unset] []))
    refine ogo (fun t k => XS.aload X26.here hx rfl (hb hby at_37) rfl rfl k) ?_
    show OwnEnds _ _ _ _ _ _ _ (T26.setTop (mkF m 39 #[.val (.int p0), .val (.int p1), .val (.int (3 : Int32)), .val (.ref w_EXPONENT), .val (.int (0 : Int32)), .val (.ref r26), .unset, .unset] [(.ref r26)]))
    refine ogo (fun t k => XS.ifnonnullYes X26.here hx rfl (pc0 := 39) (pc' := 44) rfl (hb hby at_39) rfl (by decide) (by decide) k) ?_
    show OwnEnds _ _ _ _ _ _ _ (T26.setTop (mkF m 44 #[.val (.int p0), .val (.int p1), .val (.int (3 : Int32)), .val (.ref w_EXPONENT), .val (.int (0 : Int32)), .val (.ref r26), .unset, .unset] []))
    refine ogo (fun t k => XS.iload X26.here hx rfl (hb hby at_44) rfl k) ?_
    show OwnEnds _ _ _ _ _ _ _ (T26.setTop (mkF m 46 #[.val (.int p0), .val (.int p1), .val (.int (3 : Int32)), .val (.ref w_EXPONENT), .val (.int (0 : Int32)), .val (.ref r26), .unset, .unset] [(.int (0 : Int32))]))
    refine ogo (fun t k => XS.ifNo X26.here hx rfl (hb hby at_46) rfl ((if0 _ _).trans (teq (by decide : (0 : Int32) = (0 : Int32))).2) k) ?_
    show OwnEnds _ _ _ _ _ _ _ (T26.setTop (mkF m 49 #[.val (.int p0), .val (.int p1), .val (.int (3 : Int32)), .val (.ref w_EXPONENT), .val (.int (0 : Int32)), .val (.ref r26), .unset, .unset] []))
    refine ogo (fun t k => XS.aload X26.here hx rfl (hb hby at_49) rfl rfl k) ?_
    show OwnEnds _ _ _ _ _ _ _ (T26.setTop (mkF m 51 #[.val (.int p0), .val (.int p1), .val (.int (3 : Int32)), .val (.ref w_EXPONENT), .val (.int (0 : Int32)), .val (.ref r26), .unset, .unset] [(.ref r26)]))
    obtain ⟨ak28, cl28, Ar28, Aq28, As28, An28, Ah28, Ag28⟩ := id Vq26
    refine ogo (fun t k => X26.arraylength hx Ar28.1 (State.isArrayOf_alike hZ.alike Ar28.2.1) (g := (mkF m 51 #[.val (.int p0), .val (.int p1), .val (.int (3 : Int32)), .val (.ref w_EXPONENT), .val (.int (0 : Int32)), .val (.ref r26), .unset, .unset] [(.ref r26)])) rfl rfl (hb hby at_51) t k) ?_
    rw [len_of As28 An28]
    show OwnEnds _ _ _ _ _ _ _ (T26.setTop (mkF m 52 #[.val (.int p0), .val (.int p1), .val (.int (3 : Int32)), .val (.ref w_EXPONENT), .val (.int (0 : Int32)), .val (.ref r26), .unset, .unset] [(.int (0 : Int32))]))
    refine ogo (fun t k => XS.ifYes X26.here hx rfl (pc0 := 52) (pc' := 57) rfl (hb hby at_52) rfl ((if0 _ _).trans (teq (by decide : (0 : Int32) = (0 : Int32))).1) (by decide) (by decide) k) ?_
    show OwnEnds _ _ _ _ _ _ _ (T26.setTop (mkF m 57 #[.val (.int p0), .val (.int p1), .val (.int (3 : Int32)), .val (.ref w_EXPONENT), .val (.int (0 : Int32)), .val (.ref r26), .unset, .unset] []))
    refine ogo (fun t k => XS.aloadN X26.here hx rfl (hb hby at_57) rfl rfl k) ?_
    show OwnEnds _ _ _ _ _ _ _ (T26.setTop (mkF m 58 #[.val (.int p0), .val (.int p1), .val (.int (3 : Int32)), .val (.ref w_EXPONENT), .val (.int (0 : Int32)), .val (.ref r26), .unset, .unset] [(.ref w_EXPONENT)]))
    obtain ⟨cq29, kq29, q29a, q29b, q29c⟩ := isOf hZ rfl (E_EXPONENT.ext OLD27.2)
    obtain ⟨v29, _, ⟨T29, L29, k29, n29⟩, -, X29, ⟨Lc29, hQ29, l29, y29, z29⟩, st29⟩ := X26.virtualBack hx (y := (⟨"com/example/opaque_token/opaquetoken/token/ObjectType", "initialValue", "()[B"⟩ : MethodName)) (z := (⟨"com/example/opaque_token/opaquetoken/token/ObjectType", "initialValue", "()[B"⟩ : MethodName)) hown (mvT hZ (hw _ (List.mem_of_getElem? (i := 8) rfl))) (mvT hZ (hw _ (List.mem_of_getElem? (i := 9) rfl))) (notFace_of_selects (args := #[]) (mvT hZ (hw _ (List.mem_of_getElem? (i := 11) rfl)))) (mvT hZ (hw _ (List.mem_of_getElem? (i := 11) rfl))) (mvT hZ (hw _ (List.mem_of_getElem? (i := 10) rfl))) (by decide) (backOf (W := 0) (rm2 l Z a0 hw [] w_EXPONENT w_COUNTER w_CLOCK_OFFSET T26.heap n0 Z27 OLD27 S_COUNTER S_CLOCK_OFFSET) hZ (hw _ (List.mem_of_getElem? (i := 12) rfl)) (hw _ (List.mem_of_getElem? (i := 6) rfl)) (by decide) (by decide)) q29a q29c (g := (mkF m 58 #[.val (.int p0), .val (.int p1), .val (.int (3 : Int32)), .val (.ref w_EXPONENT), .val (.int (0 : Int32)), .val (.ref r26), .unset, .unset] [(.ref w_EXPONENT)])) rfl (by rw [hml]; rfl) (Steps.refl _) (argsL := []) (rest := []) (lenOf pd____B rfl) rfl (by show 2 * 0 + _ ≤ _; exact Nat.le_of_eq rfl) (hb hby at_58) (fun _ _ => ⟨rfl, rfl, (by decide : 1 + 1 ≤ _), (by decide : 4 + 4 ≤ _)⟩)
    dsimp only [Pt.U, Pt.locs, Pt.cells, Pt.slots] at X29 l29 y29 z29 st29 hQ29
    subst l29 y29 z29
    obtain ⟨r29, rfl, Sq29, N29q, Kq29, Dq29⟩ := hQ29
    have N29 := Fr.app N26 N29q
    have ne_r26_r29 : r26 ≠ r29 := Nat.ne_of_lt (Nat.lt_of_lt_of_le (Vq26).lt Sq29)
    have q_r29 : n0 ≤ r29 := Nat.le_trans Z27 Sq29
    have sz_r29 : h0.size ≤ r29 := Nat.le_trans K27.1 Sq29
    have f30 := Vq26.keep Kq29 nin0
    have OLD31 := OLD27.keep Kq29 all0
    have K31 := K27.trans Kq29 all0
    have Z31 := Nat.le_trans Z27 Kq29.1
    have Vq29 : Av Z T29.heap r29 .byte (0 : Int32) [] (.int (0 : Int32)) := by
      rcases Dq29 with ⟨q | q, -⟩ | ⟨-, -, q⟩
      · exact absurd q (Fld.ne F_ordinal_EXPONENT F_ordinal_COUNTER (by simp))
      · exact absurd q (Fld.ne F_ordinal_EXPONENT F_ordinal_CLOCK_OFFSET (by simp))
      · exact q
    refine ogo (fun t k => st29.trans k) ?_
    show OwnEnds _ _ _ _ _ _ _ (T29.setTop (mkF m 61 #[.val (.int p0), .val (.int p1), .val (.int (3 : Int32)), .val (.ref w_EXPONENT), .val (.int (0 : Int32)), .val (.ref r26), .unset, .unset] [(.ref r29)]))
    refine ogo (fun t k => XS.astore X29.here hx rfl (hb hby at_61) rfl rfl (l' := #[.val (.int p0), .val (.int p1), .val (.int (3 : Int32)), .val (.ref w_EXPONENT), .val (.int (0 : Int32)), .val (.ref r26), .val (.ref r29), .unset]) rfl k) ?_
    show OwnEnds _ _ _ _ _ _ _ (T29.setTop (mkF m 63 #[.val (.int p0), .val (.int p1), .val (.int (3 : Int32)), .val (.ref w_EXPONENT), .val (.int (0 : Int32)), .val (.ref r26), .val (.ref r29), .unset] []))
    refine ogo (fun t k => XS.aload X29.here hx rfl (hb hby at_63) rfl rfl k) ?_
    show OwnEnds _ _ _ _ _ _ _ (T29.setTop (mkF m 65 #[.val (.int p0), .val (.int p1), .val (.int (3 : Int32)), .val (.ref w_EXPONENT), .val (.int (0 : Int32)), .val (.ref r26), .val (.ref r29), .unset] [(.ref r29)]))
    refine ogo (fun t k => XS.ifnullNo X29.here hx rfl (hb hby at_65) rfl k) ?_
    show OwnEnds _ _ _ _ _ _ _ (T29.setTop (mkF m 68 #[.val (.int p0), .val (.int p1), .val (.int (3 : Int32)), .val (.ref w_EXPONENT), .val (.int (0 : Int32)), .val (.ref r26), .val (.ref r29), .unset] []))
    refine ogo (fun t k => XS.aload X29.here hx rfl (hb hby at_68) rfl rfl k) ?_
    show OwnEnds _ _ _ _ _ _ _ (T29.setTop (mkF m 70 #[.val (.int p0), .val (.int p1), .val (.int (3 : Int32)), .val (.ref w_EXPONENT), .val (.int (0 : Int32)), .val (.ref r26), .val (.ref r29), .unset] [(.ref r29)]))
    obtain ⟨ak32, cl32, Ar32, Aq32, As32, An32, Ah32, Ag32⟩ := id Vq29
    refine ogo (fun t k => X29.arraylength hx Ar32.1 (State.isArrayOf_alike hZ.alike Ar32.2.1) (g := (mkF m 70 #[.val (.int p0), .val (.int p1), .val (.int (3 : Int32)), .val (.ref w_EXPONENT), .val (.int (0 : Int32)), .val (.ref r26), .val (.ref r29), .unset] [(.ref r29)])) rfl rfl (hb hby at_70) t k) ?_
    rw [len_of As32 An32]
    show OwnEnds _ _ _ _ _ _ _ (T29.setTop (mkF m 71 #[.val (.int p0), .val (.int p1), .val (.int (3 : Int32)), .val (.ref w_EXPONENT), .val (.int (0 : Int32)), .val (.ref r26), .val (.ref r29), .unset] [(.int (0 : Int32))]))
    refine ogo (fun t k => XS.ifNo X29.here hx rfl (hb hby at_71) rfl ((if0 _ _).trans (teq (by decide : (0 : Int32) = (0 : Int32))).2) k) ?_
    show OwnEnds _ _ _ _ _ _ _ (T29.setTop (mkF m 74 #[.val (.int p0), .val (.int p1), .val (.int (3 : Int32)), .val (.ref w_EXPONENT), .val (.int (0 : Int32)), .val (.ref r26), .val (.ref r29), .unset] []))
    refine ogo (fun t k => XS.iconst X29.here hx rfl (hb hby at_74) k) ?_
    show OwnEnds _ _ _ _ _ _ _ (T29.setTop (mkF m 75 #[.val (.int p0), .val (.int p1), .val (.int (3 : Int32)), .val (.ref w_EXPONENT), .val (.int (0 : Int32)), .val (.ref r26), .val (.ref r29), .unset] [(.int (1 : Int32))]))
    refine ogo (fun t k => XS.goto X29.here hx rfl (pc0 := 75) (pc' := 79) rfl (hb hby at_75) (by decide) (by decide) k) ?_
    show OwnEnds _ _ _ _ _ _ _ (T29.setTop (mkF m 79 #[.val (.int p0), .val (.int p1), .val (.int (3 : Int32)), .val (.ref w_EXPONENT), .val (.int (0 : Int32)), .val (.ref r26), .val (.ref r29), .unset] [(.int (1 : Int32))]))
    refine endZ X29 hx hlk Bd.returns rfl (hb hby at_79) (by decide) (by decide) ?_
    show Q0 Z p0 p1 w_INPUT_DATA w_COUNTER w_CLOCK_OFFSET w_MODULUS w_OUTPUT_DATA w_RANDOM_FILL w_EXPONENT w_CONFIGURATION w_ROM_DATA h0 n0 _ T29.heap _
    exact ⟨rfl, N29⟩
  · show OwnEnds _ _ _ _ _ _ _ (s₁.setTop (mkF m 7 #[.val (.int p0), .val (.int p1), .unset, .unset, .unset, .unset, .unset, .unset] [(.int (4 : Int32))]))
    refine ogo (fun t k => XS.istoreN X0.here hx rfl (hb hby at_7) rfl (l' := #[.val (.int p0), .val (.int p1), .val (.int (4 : Int32)), .unset, .unset, .unset, .unset, .unset]) rfl k) ?_
    show OwnEnds _ _ _ _ _ _ _ (s₁.setTop (mkF m 8 #[.val (.int p0), .val (.int p1), .val (.int (4 : Int32)), .unset, .unset, .unset, .unset, .unset] []))
    refine ogo (fun t k => XS.iloadN X0.here hx rfl (hb hby at_8) rfl k) ?_
    show OwnEnds _ _ _ _ _ _ _ (s₁.setTop (mkF m 9 #[.val (.int p0), .val (.int p1), .val (.int (4 : Int32)), .unset, .unset, .unset, .unset, .unset] [(.int (4 : Int32))]))
    obtain ⟨v33, _, ⟨T33, L33, k33, n33⟩, -, X33, ⟨Lc33, hQ33, l33, y33, z33⟩, st33⟩ := Jvm.LawKit.callS X0 hx (y := (⟨"com/example/opaque_token/opaquetoken/token/ObjectTypeInitialValuePinLaw", "pick", "(I)Lcom/example/opaque_token/opaquetoken/token/ObjectType;"⟩ : MethodName)) hown (mvT hZ (hw _ (List.mem_of_getElem? (i := 1) rfl))) (mvT hZ (hw _ (List.mem_of_getElem? (i := 2) rfl))) (mvT hZ (hw _ (List.mem_of_getElem? (i := 3) rfl))) (mvT hZ (hw _ (List.mem_of_getElem? (i := 4) rfl))) (by decide) (backOf (W := 0) (rm1 l Z a0 hw [] (4 : Int32) w_INPUT_DATA w_OUTPUT_DATA w_CONFIGURATION w_EXPONENT w_MODULUS w_COUNTER w_CLOCK_OFFSET w_ROM_DATA w_RANDOM_FILL h0 n0 Z0 OLD S_INPUT_DATA S_OUTPUT_DATA S_CONFIGURATION S_EXPONENT S_MODULUS S_COUNTER S_CLOCK_OFFSET S_ROM_DATA S_RANDOM_FILL) hZ (hw _ (List.mem_of_getElem? (i := 4) rfl)) (hw _ (List.mem_of_getElem? (i := 3) rfl)) (by decide) (by decide)) (g := (mkF m 9 #[.val (.int p0), .val (.int p1), .val (.int (4 : Int32)), .unset, .unset, .unset, .unset, .unset] [(.int (4 : Int32))])) rfl (by rw [hml]; rfl) (argsL := [(.int (4 : Int32))]) (rest := []) (lenOf pd_e6b9a279 rfl) rfl (by show 2 * 0 + _ ≤ _; exact Nat.le_of_eq rfl) (hb hby at_9) (fun _ _ => ⟨rfl, e0, (by decide : 0 + 0 ≤ _), (by decide : 0 + 0 ≤ _)⟩)
    dsimp only [Pt.U, Pt.locs, Pt.cells, Pt.slots] at X33 l33 y33 z33 st33 hQ33
    subst l33 y33 z33
    obtain ⟨hv33, N33q, e33⟩ := hQ33
    obtain rfl : v33 = some (.ref w_MODULUS) := hv33.trans (by simp [own_pick])
    have N33 := Fr.app N0 N33q
    refine ogo (fun t k => st33 t k) ?_
    show OwnEnds _ _ _ _ _ _ _ (T33.setTop (mkF m 12 #[.val (.int p0), .val (.int p1), .val (.int (4 : Int32)), .unset, .unset, .unset, .unset, .unset] [(.ref w_MODULUS)]))
    refine ogo (fun t k => XS.astoreN X33.here hx rfl (hb hby at_12) rfl rfl (l' := #[.val (.int p0), .val (.int p1), .val (.int (4 : Int32)), .val (.ref w_MODULUS), .unset, .unset, .unset, .unset]) rfl k) ?_
    show OwnEnds _ _ _ _ _ _ _ (T33.setTop (mkF m 13 #[.val (.int p0), .val (.int p1), .val (.int (4 : Int32)), .val (.ref w_MODULUS), .unset, .unset, .unset, .unset] []))
    refine ogo (fun t k => XS.iloadN X33.here hx rfl (hb hby at_13) rfl k) ?_
    show OwnEnds _ _ _ _ _ _ _ (T33.setTop (mkF m 14 #[.val (.int p0), .val (.int p1), .val (.int (4 : Int32)), .val (.ref w_MODULUS), .unset, .unset, .unset, .unset] [(.int (4 : Int32))]))
    refine ogo (fun t k => XS.iconst X33.here hx rfl (hb hby at_14) k) ?_
    show OwnEnds _ _ _ _ _ _ _ (T33.setTop (mkF m 15 #[.val (.int p0), .val (.int p1), .val (.int (4 : Int32)), .val (.ref w_MODULUS), .unset, .unset, .unset, .unset] [(.int (5 : Int32)), (.int (4 : Int32))]))
    refine ogo (fun t k => XS.icmpNo X33.here hx rfl (hb hby at_15) rfl (feq (by decide : ¬ ((4 : Int32) = (5 : Int32)))).1 k) ?_
    show OwnEnds _ _ _ _ _ _ _ (T33.setTop (mkF m 18 #[.val (.int p0), .val (.int p1), .val (.int (4 : Int32)), .val (.ref w_MODULUS), .unset, .unset, .unset, .unset] []))
    refine ogo (fun t k => XS.iloadN X33.here hx rfl (hb hby at_18) rfl k) ?_
    show OwnEnds _ _ _ _ _ _ _ (T33.setTop (mkF m 19 #[.val (.int p0), .val (.int p1), .val (.int (4 : Int32)), .val (.ref w_MODULUS), .unset, .unset, .unset, .unset] [(.int (4 : Int32))]))
    refine ogo (fun t k => XS.bipush X33.here hx rfl (hb hby at_19) k) ?_
    show OwnEnds _ _ _ _ _ _ _ (T33.setTop (mkF m 21 #[.val (.int p0), .val (.int p1), .val (.int (4 : Int32)), .val (.ref w_MODULUS), .unset, .unset, .unset, .unset] [(.int (6 : Int32)), (.int (4 : Int32))]))
    refine ogo (fun t k => XS.icmpYes X33.here hx rfl (pc0 := 21) (pc' := 28) rfl (hb hby at_21) rfl (feq (by decide : ¬ ((4 : Int32) = (6 : Int32)))).2 (by decide) (by decide) k) ?_
    show OwnEnds _ _ _ _ _ _ _ (T33.setTop (mkF m 28 #[.val (.int p0), .val (.int p1), .val (.int (4 : Int32)), .val (.ref w_MODULUS), .unset, .unset, .unset, .unset] []))
    refine ogo (fun t k => XS.iconst X33.here hx rfl (hb hby at_28) k) ?_
    show OwnEnds _ _ _ _ _ _ _ (T33.setTop (mkF m 29 #[.val (.int p0), .val (.int p1), .val (.int (4 : Int32)), .val (.ref w_MODULUS), .unset, .unset, .unset, .unset] [(.int (0 : Int32))]))
    refine ogo (fun t k => XS.istore X33.here hx rfl (hb hby at_29) rfl (l' := #[.val (.int p0), .val (.int p1), .val (.int (4 : Int32)), .val (.ref w_MODULUS), .val (.int (0 : Int32)), .unset, .unset, .unset]) rfl k) ?_
    show OwnEnds _ _ _ _ _ _ _ (T33.setTop (mkF m 31 #[.val (.int p0), .val (.int p1), .val (.int (4 : Int32)), .val (.ref w_MODULUS), .val (.int (0 : Int32)), .unset, .unset, .unset] []))
    refine ogo (fun t k => XS.aloadN X33.here hx rfl (hb hby at_31) rfl rfl k) ?_
    show OwnEnds _ _ _ _ _ _ _ (T33.setTop (mkF m 32 #[.val (.int p0), .val (.int p1), .val (.int (4 : Int32)), .val (.ref w_MODULUS), .val (.int (0 : Int32)), .unset, .unset, .unset] [(.ref w_MODULUS)]))
    obtain ⟨cq34, kq34, q34a, q34b, q34c⟩ := isOf hZ e33 (E_MODULUS.ext OLD.2)
    obtain ⟨v34, _, ⟨T34, L34, k34, n34⟩, -, X34, ⟨Lc34, hQ34, l34, y34, z34⟩, st34⟩ := X33.virtualBack hx (y := (⟨"com/example/opaque_token/opaquetoken/token/ObjectType", "initialValue", "()[B"⟩ : MethodName)) (z := (⟨"com/example/opaque_token/opaquetoken/token/ObjectType", "initialValue", "()[B"⟩ : MethodName)) hown (mvT hZ (hw _ (List.mem_of_getElem? (i := 8) rfl))) (mvT hZ (hw _ (List.mem_of_getElem? (i := 9) rfl))) (notFace_of_selects (args := #[]) (mvT hZ (hw _ (List.mem_of_getElem? (i := 11) rfl)))) (mvT hZ (hw _ (List.mem_of_getElem? (i := 11) rfl))) (mvT hZ (hw _ (List.mem_of_getElem? (i := 10) rfl))) (by decide) (backOf (W := 0) (rm2 l Z a0 hw [] w_MODULUS w_COUNTER w_CLOCK_OFFSET h0 n0 Z0 OLD S_COUNTER S_CLOCK_OFFSET) hZ (hw _ (List.mem_of_getElem? (i := 12) rfl)) (hw _ (List.mem_of_getElem? (i := 6) rfl)) (by decide) (by decide)) q34a q34c (g := (mkF m 32 #[.val (.int p0), .val (.int p1), .val (.int (4 : Int32)), .val (.ref w_MODULUS), .val (.int (0 : Int32)), .unset, .unset, .unset] [(.ref w_MODULUS)])) rfl (by rw [hml]; rfl) (Steps.refl _) (argsL := []) (rest := []) (lenOf pd____B rfl) rfl (by show 2 * 0 + _ ≤ _; exact Nat.le_of_eq rfl) (hb hby at_32) (fun _ _ => ⟨rfl, e33, (by decide : 0 + 1 ≤ _), (by decide : 0 + 4 ≤ _)⟩)
    dsimp only [Pt.U, Pt.locs, Pt.cells, Pt.slots] at X34 l34 y34 z34 st34 hQ34
    subst l34 y34 z34
    obtain ⟨r34, rfl, Sq34, N34q, Kq34, Dq34⟩ := hQ34
    have N34 := Fr.app N33 N34q
    have q_r34 : n0 ≤ r34 := Nat.le_trans Z0 Sq34
    have sz_r34 : h0.size ≤ r34 := Nat.le_trans (Keep.refl h0 []).1 Sq34
    have OLD35 := OLD.keep Kq34 all0
    have K35 := (Keep.refl h0 []).trans Kq34 all0
    have Z35 := Nat.le_trans Z0 Kq34.1
    have Vq34 : Av Z T34.heap r34 .byte (0 : Int32) [] (.int (0 : Int32)) := by
      rcases Dq34 with ⟨q | q, -⟩ | ⟨-, -, q⟩
      · exact absurd q (Fld.ne F_ordinal_MODULUS F_ordinal_COUNTER (by simp))
      · exact absurd q (Fld.ne F_ordinal_MODULUS F_ordinal_CLOCK_OFFSET (by simp))
      · exact q
    refine ogo (fun t k => st34.trans k) ?_
    show OwnEnds _ _ _ _ _ _ _ (T34.setTop (mkF m 35 #[.val (.int p0), .val (.int p1), .val (.int (4 : Int32)), .val (.ref w_MODULUS), .val (.int (0 : Int32)), .unset, .unset, .unset] [(.ref r34)]))
    refine ogo (fun t k => XS.astore X34.here hx rfl (hb hby at_35) rfl rfl (l' := #[.val (.int p0), .val (.int p1), .val (.int (4 : Int32)), .val (.ref w_MODULUS), .val (.int (0 : Int32)), .val (.ref r34), .unset, .unset]) rfl k) ?_
    show OwnEnds _ _ _ _ _ _ _ (T34.setTop (mkF m 37 #[.val (.int p0), .val (.int p1), .val (.int (4 : Int32)), .val (.ref w_MODULUS), .val (.int (0 : Int32)), .val (.ref r34), .unset, .unset] []))
    refine ogo (fun t k => XS.aload X34.here hx rfl (hb hby at_37) rfl rfl k) ?_
    show OwnEnds _ _ _ _ _ _ _ (T34.setTop (mkF m 39 #[.val (.int p0), .val (.int p1), .val (.int (4 : Int32)), .val (.ref w_MODULUS), .val (.int (0 : Int32)), .val (.ref r34), .unset, .unset] [(.ref r34)]))
    refine ogo (fun t k => XS.ifnonnullYes X34.here hx rfl (pc0 := 39) (pc' := 44) rfl (hb hby at_39) rfl (by decide) (by decide) k) ?_
    show OwnEnds _ _ _ _ _ _ _ (T34.setTop (mkF m 44 #[.val (.int p0), .val (.int p1), .val (.int (4 : Int32)), .val (.ref w_MODULUS), .val (.int (0 : Int32)), .val (.ref r34), .unset, .unset] []))
    refine ogo (fun t k => XS.iload X34.here hx rfl (hb hby at_44) rfl k) ?_
    show OwnEnds _ _ _ _ _ _ _ (T34.setTop (mkF m 46 #[.val (.int p0), .val (.int p1), .val (.int (4 : Int32)), .val (.ref w_MODULUS), .val (.int (0 : Int32)), .val (.ref r34), .unset, .unset] [(.int (0 : Int32))]))
    refine ogo (fun t k => XS.ifNo X34.here hx rfl (hb hby at_46) rfl ((if0 _ _).trans (teq (by decide : (0 : Int32) = (0 : Int32))).2) k) ?_
    show OwnEnds _ _ _ _ _ _ _ (T34.setTop (mkF m 49 #[.val (.int p0), .val (.int p1), .val (.int (4 : Int32)), .val (.ref w_MODULUS), .val (.int (0 : Int32)), .val (.ref r34), .unset, .unset] []))
    refine ogo (fun t k => XS.aload X34.here hx rfl (hb hby at_49) rfl rfl k) ?_
    show OwnEnds _ _ _ _ _ _ _ (T34.setTop (mkF m 51 #[.val (.int p0), .val (.int p1), .val (.int (4 : Int32)), .val (.ref w_MODULUS), .val (.int (0 : Int32)), .val (.ref r34), .unset, .unset] [(.ref r34)]))
    obtain ⟨ak36, cl36, Ar36, Aq36, As36, An36, Ah36, Ag36⟩ := id Vq34
    refine ogo (fun t k => X34.arraylength hx Ar36.1 (State.isArrayOf_alike hZ.alike Ar36.2.1) (g := (mkF m 51 #[.val (.int p0), .val (.int p1), .val (.int (4 : Int32)), .val (.ref w_MODULUS), .val (.int (0 : Int32)), .val (.ref r34), .unset, .unset] [(.ref r34)])) rfl rfl (hb hby at_51) t k) ?_
    rw [len_of As36 An36]
    show OwnEnds _ _ _ _ _ _ _ (T34.setTop (mkF m 52 #[.val (.int p0), .val (.int p1), .val (.int (4 : Int32)), .val (.ref w_MODULUS), .val (.int (0 : Int32)), .val (.ref r34), .unset, .unset] [(.int (0 : Int32))]))
    refine ogo (fun t k => XS.ifYes X34.here hx rfl (pc0 := 52) (pc' := 57) rfl (hb hby at_52) rfl ((if0 _ _).trans (teq (by decide : (0 : Int32) = (0 : Int32))).1) (by decide) (by decide) k) ?_
    show OwnEnds _ _ _ _ _ _ _ (T34.setTop (mkF m 57 #[.val (.int p0), .val (.int p1), .val (.int (4 : Int32)), .val (.ref w_MODULUS), .val (.int (0 : Int32)), .val (.ref r34), .unset, .unset] []))
    refine ogo (fun t k => XS.aloadN X34.here hx rfl (hb hby at_57) rfl rfl k) ?_
    show OwnEnds _ _ _ _ _ _ _ (T34.setTop (mkF m 58 #[.val (.int p0), .val (.int p1), .val (.int (4 : Int32)), .val (.ref w_MODULUS), .val (.int (0 : Int32)), .val (.ref r34), .unset, .unset] [(.ref w_MODULUS)]))
    obtain ⟨cq37, kq37, q37a, q37b, q37c⟩ := isOf hZ rfl (E_MODULUS.ext OLD35.2)
    obtain ⟨v37, _, ⟨T37, L37, k37, n37⟩, -, X37, ⟨Lc37, hQ37, l37, y37, z37⟩, st37⟩ := X34.virtualBack hx (y := (⟨"com/example/opaque_token/opaquetoken/token/ObjectType", "initialValue", "()[B"⟩ : MethodName)) (z := (⟨"com/example/opaque_token/opaquetoken/token/ObjectType", "initialValue", "()[B"⟩ : MethodName)) hown (mvT hZ (hw _ (List.mem_of_getElem? (i := 8) rfl))) (mvT hZ (hw _ (List.mem_of_getElem? (i := 9) rfl))) (notFace_of_selects (args := #[]) (mvT hZ (hw _ (List.mem_of_getElem? (i := 11) rfl)))) (mvT hZ (hw _ (List.mem_of_getElem? (i := 11) rfl))) (mvT hZ (hw _ (List.mem_of_getElem? (i := 10) rfl))) (by decide) (backOf (W := 0) (rm2 l Z a0 hw [] w_MODULUS w_COUNTER w_CLOCK_OFFSET T34.heap n0 Z35 OLD35 S_COUNTER S_CLOCK_OFFSET) hZ (hw _ (List.mem_of_getElem? (i := 12) rfl)) (hw _ (List.mem_of_getElem? (i := 6) rfl)) (by decide) (by decide)) q37a q37c (g := (mkF m 58 #[.val (.int p0), .val (.int p1), .val (.int (4 : Int32)), .val (.ref w_MODULUS), .val (.int (0 : Int32)), .val (.ref r34), .unset, .unset] [(.ref w_MODULUS)])) rfl (by rw [hml]; rfl) (Steps.refl _) (argsL := []) (rest := []) (lenOf pd____B rfl) rfl (by show 2 * 0 + _ ≤ _; exact Nat.le_of_eq rfl) (hb hby at_58) (fun _ _ => ⟨rfl, rfl, (by decide : 1 + 1 ≤ _), (by decide : 4 + 4 ≤ _)⟩)
    dsimp only [Pt.U, Pt.locs, Pt.cells, Pt.slots] at X37 l37 y37 z37 st37 hQ37
    subst l37 y37 z37
    obtain ⟨r37, rfl, Sq37, N37q, Kq37, Dq37⟩ := hQ37
    have N37 := Fr.app N34 N37q
    have ne_r34_r37 : r34 ≠ r37 := Nat.ne_of_lt (Nat.lt_of_lt_of_le (Vq34).lt Sq37)
    have q_r37 : n0 ≤ r37 := Nat.le_trans Z35 Sq37
    have sz_r37 : h0.size ≤ r37 := Nat.le_trans K35.1 Sq37
    have f38 := Vq34.keep Kq37 nin0
    have OLD39 := OLD35.keep Kq37 all0
    have K39 := K35.trans Kq37 all0
    have Z39 := Nat.le_trans Z35 Kq37.1
    have Vq37 : Av Z T37.heap r37 .byte (0 : Int32) [] (.int (0 : Int32)) := by
      rcases Dq37 with ⟨q | q, -⟩ | ⟨-, -, q⟩
      · exact absurd q (Fld.ne F_ordinal_MODULUS F_ordinal_COUNTER (by simp))
      · exact absurd q (Fld.ne F_ordinal_MODULUS F_ordinal_CLOCK_OFFSET (by simp))
      · exact q
    refine ogo (fun t k => st37.trans k) ?_
    show OwnEnds _ _ _ _ _ _ _ (T37.setTop (mkF m 61 #[.val (.int p0), .val (.int p1), .val (.int (4 : Int32)), .val (.ref w_MODULUS), .val (.int (0 : Int32)), .val (.ref r34), .unset, .unset] [(.ref r37)]))
    refine ogo (fun t k => XS.astore X37.here hx rfl (hb hby at_61) rfl rfl (l' := #[.val (.int p0), .val (.int p1), .val (.int (4 : Int32)), .val (.ref w_MODULUS), .val (.int (0 : Int32)), .val (.ref r34), .val (.ref r37), .unset]) rfl k) ?_
    show OwnEnds _ _ _ _ _ _ _ (T37.setTop (mkF m 63 #[.val (.int p0), .val (.int p1), .val (.int (4 : Int32)), .val (.ref w_MODULUS), .val (.int (0 : Int32)), .val (.ref r34), .val (.ref r37), .unset] []))
    refine ogo (fun t k => XS.aload X37.here hx rfl (hb hby at_63) rfl rfl k) ?_
    show OwnEnds _ _ _ _ _ _ _ (T37.setTop (mkF m 65 #[.val (.int p0), .val (.int p1), .val (.int (4 : Int32)), .val (.ref w_MODULUS), .val (.int (0 : Int32)), .val (.ref r34), .val (.ref r37), .unset] [(.ref r37)]))
    refine ogo (fun t k => XS.ifnullNo X37.here hx rfl (hb hby at_65) rfl k) ?_
    show OwnEnds _ _ _ _ _ _ _ (T37.setTop (mkF m 68 #[.val (.int p0), .val (.int p1), .val (.int (4 : Int32)), .val (.ref w_MODULUS), .val (.int (0 : Int32)), .val (.ref r34), .val (.ref r37), .unset] []))
    refine ogo (fun t k => XS.aload X37.here hx rfl (hb hby at_68) rfl rfl k) ?_
    show OwnEnds _ _ _ _ _ _ _ (T37.setTop (mkF m 70 #[.val (.int p0), .val (.int p1), .val (.int (4 : Int32)), .val (.ref w_MODULUS), .val (.int (0 : Int32)), .val (.ref r34), .val (.ref r37), .unset] [(.ref r37)]))
    obtain ⟨ak40, cl40, Ar40, Aq40, As40, An40, Ah40, Ag40⟩ := id Vq37
    refine ogo (fun t k => X37.arraylength hx Ar40.1 (State.isArrayOf_alike hZ.alike Ar40.2.1) (g := (mkF m 70 #[.val (.int p0), .val (.int p1), .val (.int (4 : Int32)), .val (.ref w_MODULUS), .val (.int (0 : Int32)), .val (.ref r34), .val (.ref r37), .unset] [(.ref r37)])) rfl rfl (hb hby at_70) t k) ?_
    rw [len_of As40 An40]
    show OwnEnds _ _ _ _ _ _ _ (T37.setTop (mkF m 71 #[.val (.int p0), .val (.int p1), .val (.int (4 : Int32)), .val (.ref w_MODULUS), .val (.int (0 : Int32)), .val (.ref r34), .val (.ref r37), .unset] [(.int (0 : Int32))]))
    refine ogo (fun t k => XS.ifNo X37.here hx rfl (hb hby at_71) rfl ((if0 _ _).trans (teq (by decide : (0 : Int32) = (0 : Int32))).2) k) ?_
    show OwnEnds _ _ _ _ _ _ _ (T37.setTop (mkF m 74 #[.val (.int p0), .val (.int p1), .val (.int (4 : Int32)), .val (.ref w_MODULUS), .val (.int (0 : Int32)), .val (.ref r34), .val (.ref r37), .unset] []))
    refine ogo (fun t k => XS.iconst X37.here hx rfl (hb hby at_74) k) ?_
    show OwnEnds _ _ _ _ _ _ _ (T37.setTop (mkF m 75 #[.val (.int p0), .val (.int p1), .val (.int (4 : Int32)), .val (.ref w_MODULUS), .val (.int (0 : Int32)), .val (.ref r34), .val (.ref r37), .unset] [(.int (1 : Int32))]))
    refine ogo (fun t k => XS.goto X37.here hx rfl (pc0 := 75) (pc' := 79) rfl (hb hby at_75) (by decide) (by decide) k) ?_
    show OwnEnds _ _ _ _ _ _ _ (T37.setTop (mkF m 79 #[.val (.int p0), .val (.int p1), .val (.int (4 : Int32)), .val (.ref w_MODULUS), .val (.int (0 : Int32)), .val (.ref r34), .val (.ref r37), .unset] [(.int (1 : Int32))]))
    refine endZ X37 hx hlk Bd.returns rfl (hb hby at_79) (by decide) (by decide) ?_
    show Q0 Z p0 p1 w_INPUT_DATA w_COUNTER w_CLOCK_OFFSET w_MODULUS w_OUTPUT_DATA w_RANDOM_FILL w_EXPONENT w_CONFIGURATION w_ROM_DATA h0 n0 _ T37.heap _
    exact ⟨rfl, N37⟩
  · show OwnEnds _ _ _ _ _ _ _ (s₁.setTop (mkF m 7 #[.val (.int p0), .val (.int p1), .unset, .unset, .unset, .unset, .unset, .unset] [(.int (5 : Int32))]))
    refine ogo (fun t k => XS.istoreN X0.here hx rfl (hb hby at_7) rfl (l' := #[.val (.int p0), .val (.int p1), .val (.int (5 : Int32)), .unset, .unset, .unset, .unset, .unset]) rfl k) ?_
    show OwnEnds _ _ _ _ _ _ _ (s₁.setTop (mkF m 8 #[.val (.int p0), .val (.int p1), .val (.int (5 : Int32)), .unset, .unset, .unset, .unset, .unset] []))
    refine ogo (fun t k => XS.iloadN X0.here hx rfl (hb hby at_8) rfl k) ?_
    show OwnEnds _ _ _ _ _ _ _ (s₁.setTop (mkF m 9 #[.val (.int p0), .val (.int p1), .val (.int (5 : Int32)), .unset, .unset, .unset, .unset, .unset] [(.int (5 : Int32))]))
    obtain ⟨v41, _, ⟨T41, L41, k41, n41⟩, -, X41, ⟨Lc41, hQ41, l41, y41, z41⟩, st41⟩ := Jvm.LawKit.callS X0 hx (y := (⟨"com/example/opaque_token/opaquetoken/token/ObjectTypeInitialValuePinLaw", "pick", "(I)Lcom/example/opaque_token/opaquetoken/token/ObjectType;"⟩ : MethodName)) hown (mvT hZ (hw _ (List.mem_of_getElem? (i := 1) rfl))) (mvT hZ (hw _ (List.mem_of_getElem? (i := 2) rfl))) (mvT hZ (hw _ (List.mem_of_getElem? (i := 3) rfl))) (mvT hZ (hw _ (List.mem_of_getElem? (i := 4) rfl))) (by decide) (backOf (W := 0) (rm1 l Z a0 hw [] (5 : Int32) w_INPUT_DATA w_OUTPUT_DATA w_CONFIGURATION w_EXPONENT w_MODULUS w_COUNTER w_CLOCK_OFFSET w_ROM_DATA w_RANDOM_FILL h0 n0 Z0 OLD S_INPUT_DATA S_OUTPUT_DATA S_CONFIGURATION S_EXPONENT S_MODULUS S_COUNTER S_CLOCK_OFFSET S_ROM_DATA S_RANDOM_FILL) hZ (hw _ (List.mem_of_getElem? (i := 4) rfl)) (hw _ (List.mem_of_getElem? (i := 3) rfl)) (by decide) (by decide)) (g := (mkF m 9 #[.val (.int p0), .val (.int p1), .val (.int (5 : Int32)), .unset, .unset, .unset, .unset, .unset] [(.int (5 : Int32))])) rfl (by rw [hml]; rfl) (argsL := [(.int (5 : Int32))]) (rest := []) (lenOf pd_e6b9a279 rfl) rfl (by show 2 * 0 + _ ≤ _; exact Nat.le_of_eq rfl) (hb hby at_9) (fun _ _ => ⟨rfl, e0, (by decide : 0 + 0 ≤ _), (by decide : 0 + 0 ≤ _)⟩)
    dsimp only [Pt.U, Pt.locs, Pt.cells, Pt.slots] at X41 l41 y41 z41 st41 hQ41
    subst l41 y41 z41
    obtain ⟨hv41, N41q, e41⟩ := hQ41
    obtain rfl : v41 = some (.ref w_COUNTER) := hv41.trans (by simp [own_pick])
    have N41 := Fr.app N0 N41q
    refine ogo (fun t k => st41 t k) ?_
    show OwnEnds _ _ _ _ _ _ _ (T41.setTop (mkF m 12 #[.val (.int p0), .val (.int p1), .val (.int (5 : Int32)), .unset, .unset, .unset, .unset, .unset] [(.ref w_COUNTER)]))
    refine ogo (fun t k => XS.astoreN X41.here hx rfl (hb hby at_12) rfl rfl (l' := #[.val (.int p0), .val (.int p1), .val (.int (5 : Int32)), .val (.ref w_COUNTER), .unset, .unset, .unset, .unset]) rfl k) ?_
    show OwnEnds _ _ _ _ _ _ _ (T41.setTop (mkF m 13 #[.val (.int p0), .val (.int p1), .val (.int (5 : Int32)), .val (.ref w_COUNTER), .unset, .unset, .unset, .unset] []))
    refine ogo (fun t k => XS.iloadN X41.here hx rfl (hb hby at_13) rfl k) ?_
    show OwnEnds _ _ _ _ _ _ _ (T41.setTop (mkF m 14 #[.val (.int p0), .val (.int p1), .val (.int (5 : Int32)), .val (.ref w_COUNTER), .unset, .unset, .unset, .unset] [(.int (5 : Int32))]))
    refine ogo (fun t k => XS.iconst X41.here hx rfl (hb hby at_14) k) ?_
    show OwnEnds _ _ _ _ _ _ _ (T41.setTop (mkF m 15 #[.val (.int p0), .val (.int p1), .val (.int (5 : Int32)), .val (.ref w_COUNTER), .unset, .unset, .unset, .unset] [(.int (5 : Int32)), (.int (5 : Int32))]))
    refine ogo (fun t k => XS.icmpYes X41.here hx rfl (pc0 := 15) (pc' := 24) rfl (hb hby at_15) rfl (teq (by decide : (5 : Int32) = (5 : Int32))).1 (by decide) (by decide) k) ?_
    show OwnEnds _ _ _ _ _ _ _ (T41.setTop (mkF m 24 #[.val (.int p0), .val (.int p1), .val (.int (5 : Int32)), .val (.ref w_COUNTER), .unset, .unset, .unset, .unset] []))
    refine ogo (fun t k => XS.iconst X41.here hx rfl (hb hby at_24) k) ?_
    show OwnEnds _ _ _ _ _ _ _ (T41.setTop (mkF m 25 #[.val (.int p0), .val (.int p1), .val (.int (5 : Int32)), .val (.ref w_COUNTER), .unset, .unset, .unset, .unset] [(.int (1 : Int32))]))
    refine ogo (fun t k => XS.goto X41.here hx rfl (pc0 := 25) (pc' := 29) rfl (hb hby at_25) (by decide) (by decide) k) ?_
    show OwnEnds _ _ _ _ _ _ _ (T41.setTop (mkF m 29 #[.val (.int p0), .val (.int p1), .val (.int (5 : Int32)), .val (.ref w_COUNTER), .unset, .unset, .unset, .unset] [(.int (1 : Int32))]))
    refine ogo (fun t k => XS.istore X41.here hx rfl (hb hby at_29) rfl (l' := #[.val (.int p0), .val (.int p1), .val (.int (5 : Int32)), .val (.ref w_COUNTER), .val (.int (1 : Int32)), .unset, .unset, .unset]) rfl k) ?_
    show OwnEnds _ _ _ _ _ _ _ (T41.setTop (mkF m 31 #[.val (.int p0), .val (.int p1), .val (.int (5 : Int32)), .val (.ref w_COUNTER), .val (.int (1 : Int32)), .unset, .unset, .unset] []))
    refine ogo (fun t k => XS.aloadN X41.here hx rfl (hb hby at_31) rfl rfl k) ?_
    show OwnEnds _ _ _ _ _ _ _ (T41.setTop (mkF m 32 #[.val (.int p0), .val (.int p1), .val (.int (5 : Int32)), .val (.ref w_COUNTER), .val (.int (1 : Int32)), .unset, .unset, .unset] [(.ref w_COUNTER)]))
    obtain ⟨cq42, kq42, q42a, q42b, q42c⟩ := isOf hZ e41 (E_COUNTER.ext OLD.2)
    obtain ⟨v42, _, ⟨T42, L42, k42, n42⟩, -, X42, ⟨Lc42, hQ42, l42, y42, z42⟩, st42⟩ := X41.virtualBack hx (y := (⟨"com/example/opaque_token/opaquetoken/token/ObjectType", "initialValue", "()[B"⟩ : MethodName)) (z := (⟨"com/example/opaque_token/opaquetoken/token/ObjectType", "initialValue", "()[B"⟩ : MethodName)) hown (mvT hZ (hw _ (List.mem_of_getElem? (i := 8) rfl))) (mvT hZ (hw _ (List.mem_of_getElem? (i := 9) rfl))) (notFace_of_selects (args := #[]) (mvT hZ (hw _ (List.mem_of_getElem? (i := 11) rfl)))) (mvT hZ (hw _ (List.mem_of_getElem? (i := 11) rfl))) (mvT hZ (hw _ (List.mem_of_getElem? (i := 10) rfl))) (by decide) (backOf (W := 0) (rm2 l Z a0 hw [] w_COUNTER w_COUNTER w_CLOCK_OFFSET h0 n0 Z0 OLD S_COUNTER S_CLOCK_OFFSET) hZ (hw _ (List.mem_of_getElem? (i := 12) rfl)) (hw _ (List.mem_of_getElem? (i := 6) rfl)) (by decide) (by decide)) q42a q42c (g := (mkF m 32 #[.val (.int p0), .val (.int p1), .val (.int (5 : Int32)), .val (.ref w_COUNTER), .val (.int (1 : Int32)), .unset, .unset, .unset] [(.ref w_COUNTER)])) rfl (by rw [hml]; rfl) (Steps.refl _) (argsL := []) (rest := []) (lenOf pd____B rfl) rfl (by show 2 * 0 + _ ≤ _; exact Nat.le_of_eq rfl) (hb hby at_32) (fun _ _ => ⟨rfl, e41, (by decide : 0 + 1 ≤ _), (by decide : 0 + 4 ≤ _)⟩)
    dsimp only [Pt.U, Pt.locs, Pt.cells, Pt.slots] at X42 l42 y42 z42 st42 hQ42
    subst l42 y42 z42
    obtain ⟨r42, rfl, Sq42, N42q, Kq42, Dq42⟩ := hQ42
    have N42 := Fr.app N41 N42q
    have q_r42 : n0 ≤ r42 := Nat.le_trans Z0 Sq42
    have sz_r42 : h0.size ≤ r42 := Nat.le_trans (Keep.refl h0 []).1 Sq42
    have OLD43 := OLD.keep Kq42 all0
    have K43 := (Keep.refl h0 []).trans Kq42 all0
    have Z43 := Nat.le_trans Z0 Kq42.1
    have Vq42 : Av Z T42.heap r42 .byte (4 : Int32) [(.int (0 : Int32)), (.int (0 : Int32)), (.int (0 : Int32)), (.int (0 : Int32))] (.int (0 : Int32)) := by
      rcases Dq42 with ⟨-, q⟩ | ⟨q1, q2, -⟩
      · exact q
      · exact absurd rfl q1
    refine ogo (fun t k => st42.trans k) ?_
    show OwnEnds _ _ _ _ _ _ _ (T42.setTop (mkF m 35 #[.val (.int p0), .val (.int p1), .val (.int (5 : Int32)), .val (.ref w_COUNTER), .val (.int (1 : Int32)), .unset, .unset, .unset] [(.ref r42)]))
    refine ogo (fun t k => XS.astore X42.here hx rfl (hb hby at_35) rfl rfl (l' := #[.val (.int p0), .val (.int p1), .val (.int (5 : Int32)), .val (.ref w_COUNTER), .val (.int (1 : Int32)), .val (.ref r42), .unset, .unset]) rfl k) ?_
    show OwnEnds _ _ _ _ _ _ _ (T42.setTop (mkF m 37 #[.val (.int p0), .val (.int p1), .val (.int (5 : Int32)), .val (.ref w_COUNTER), .val (.int (1 : Int32)), .val (.ref r42), .unset, .unset] []))
    refine ogo (fun t k => XS.aload X42.here hx rfl (hb hby at_37) rfl rfl k) ?_
    show OwnEnds _ _ _ _ _ _ _ (T42.setTop (mkF m 39 #[.val (.int p0), .val (.int p1), .val (.int (5 : Int32)), .val (.ref w_COUNTER), .val (.int (1 : Int32)), .val (.ref r42), .unset, .unset] [(.ref r42)]))
    refine ogo (fun t k => XS.ifnonnullYes X42.here hx rfl (pc0 := 39) (pc' := 44) rfl (hb hby at_39) rfl (by decide) (by decide) k) ?_
    show OwnEnds _ _ _ _ _ _ _ (T42.setTop (mkF m 44 #[.val (.int p0), .val (.int p1), .val (.int (5 : Int32)), .val (.ref w_COUNTER), .val (.int (1 : Int32)), .val (.ref r42), .unset, .unset] []))
    refine ogo (fun t k => XS.iload X42.here hx rfl (hb hby at_44) rfl k) ?_
    show OwnEnds _ _ _ _ _ _ _ (T42.setTop (mkF m 46 #[.val (.int p0), .val (.int p1), .val (.int (5 : Int32)), .val (.ref w_COUNTER), .val (.int (1 : Int32)), .val (.ref r42), .unset, .unset] [(.int (1 : Int32))]))
    refine ogo (fun t k => XS.ifYes X42.here hx rfl (pc0 := 46) (pc' := 80) rfl (hb hby at_46) rfl ((if0 _ _).trans (feq (by decide : ¬ ((1 : Int32) = (0 : Int32)))).2) (by decide) (by decide) k) ?_
    show OwnEnds _ _ _ _ _ _ _ (T42.setTop (mkF m 80 #[.val (.int p0), .val (.int p1), .val (.int (5 : Int32)), .val (.ref w_COUNTER), .val (.int (1 : Int32)), .val (.ref r42), .unset, .unset] []))
    refine ogo (fun t k => XS.aload X42.here hx rfl (hb hby at_80) rfl rfl k) ?_
    show OwnEnds _ _ _ _ _ _ _ (T42.setTop (mkF m 82 #[.val (.int p0), .val (.int p1), .val (.int (5 : Int32)), .val (.ref w_COUNTER), .val (.int (1 : Int32)), .val (.ref r42), .unset, .unset] [(.ref r42)]))
    obtain ⟨v44, _, ⟨T44, L44, k44, n44⟩, -, X44, ⟨Lc44, hQ44, l44, y44, z44⟩, st44⟩ := Jvm.LawKit.callS X42 hx (y := (⟨"com/example/opaque_token/opaquetoken/token/ObjectTypeInitialValuePinLaw", "fourZeros", "([B)Z"⟩ : MethodName)) hown (mvT hZ (hw _ (List.mem_of_getElem? (i := 19) rfl))) (mvT hZ (hw _ (List.mem_of_getElem? (i := 20) rfl))) (mvT hZ (hw _ (List.mem_of_getElem? (i := 3) rfl))) (mvT hZ (hw _ (List.mem_of_getElem? (i := 21) rfl))) (by decide) (backOf (W := 0) (rm3 l Z a0 hw [] r42 T42.heap n0 Z43 Vq42) hZ (hw _ (List.mem_of_getElem? (i := 21) rfl)) (hw _ (List.mem_of_getElem? (i := 3) rfl)) (by decide) (by decide)) (g := (mkF m 82 #[.val (.int p0), .val (.int p1), .val (.int (5 : Int32)), .val (.ref w_COUNTER), .val (.int (1 : Int32)), .val (.ref r42), .unset, .unset] [(.ref r42)])) rfl (by rw [hml]; rfl) (argsL := [(.ref r42)]) (rest := []) (lenOf pd___B_Z rfl) rfl (by show 2 * 0 + _ ≤ _; exact Nat.le_of_eq rfl) (hb hby at_82) (fun _ _ => ⟨rfl, rfl, (by decide : 1 + 0 ≤ _), (by decide : 4 + 0 ≤ _)⟩)
    dsimp only [Pt.U, Pt.locs, Pt.cells, Pt.slots] at X44 l44 y44 z44 st44 hQ44
    subst l44 y44 z44
    obtain ⟨rfl, N44q, e44⟩ := hQ44
    have N44 := Fr.app N42 N44q
    refine ogo (fun t k => st44 t k) ?_
    show OwnEnds _ _ _ _ _ _ _ (T44.setTop (mkF m 85 #[.val (.int p0), .val (.int p1), .val (.int (5 : Int32)), .val (.ref w_COUNTER), .val (.int (1 : Int32)), .val (.ref r42), .unset, .unset] [(.int (1 : Int32))]))
    refine ogo (fun t k => XS.ifYes X44.here hx rfl (pc0 := 85) (pc' := 90) rfl (hb hby at_85) rfl ((if0 _ _).trans (feq (by decide : ¬ ((1 : Int32) = (0 : Int32)))).2) (by decide) (by decide) k) ?_
    show OwnEnds _ _ _ _ _ _ _ (T44.setTop (mkF m 90 #[.val (.int p0), .val (.int p1), .val (.int (5 : Int32)), .val (.ref w_COUNTER), .val (.int (1 : Int32)), .val (.ref r42), .unset, .unset] []))
    refine ogo (fun t k => XS.iloadN X44.here hx rfl (hb hby at_90) rfl k) ?_
    show OwnEnds _ _ _ _ _ _ _ (T44.setTop (mkF m 91 #[.val (.int p0), .val (.int p1), .val (.int (5 : Int32)), .val (.ref w_COUNTER), .val (.int (1 : Int32)), .val (.ref r42), .unset, .unset] [(.int p1)]))
    refine ogo (fun t k => XS.bipush X44.here hx rfl (hb hby at_91) k) ?_
    show OwnEnds _ _ _ _ _ _ _ (T44.setTop (mkF m 93 #[.val (.int p0), .val (.int p1), .val (.int (5 : Int32)), .val (.ref w_COUNTER), .val (.int (1 : Int32)), .val (.ref r42), .unset, .unset] [(.int (8 : Int32)), (.int p1)]))
    refine ogo (fun t k => XS.iushr X44.here hx rfl (hb hby at_93) rfl k) ?_
    show OwnEnds _ _ _ _ _ _ _ (T44.setTop (mkF m 94 #[.val (.int p0), .val (.int p1), .val (.int (5 : Int32)), .val (.ref w_COUNTER), .val (.int (1 : Int32)), .val (.ref r42), .unset, .unset] [(.int ((p1.toUInt32 >>> ((8 : Int32) &&& 31).toUInt32).toInt32))]))
    refine ogo (fun t k => XS.iconst X44.here hx rfl (hb hby at_94) k) ?_
    show OwnEnds _ _ _ _ _ _ _ (T44.setTop (mkF m 95 #[.val (.int p0), .val (.int p1), .val (.int (5 : Int32)), .val (.ref w_COUNTER), .val (.int (1 : Int32)), .val (.ref r42), .unset, .unset] [(.int (3 : Int32)), (.int ((p1.toUInt32 >>> ((8 : Int32) &&& 31).toUInt32).toInt32))]))
    refine ogo (fun t k => XS.iand X44.here hx rfl (hb hby at_95) rfl k) ?_
    generalize hj : (((p1.toUInt32 >>> ((8 : Int32) &&& 31).toUInt32).toInt32) &&& (3 : Int32)) = j
    rcases own_case4 (hj ▸ own_and3 _) with rfl | rfl | rfl | rfl
    · show OwnEnds _ _ _ _ _ _ _ (T44.setTop (mkF m 96 #[.val (.int p0), .val (.int p1), .val (.int (5 : Int32)), .val (.ref w_COUNTER), .val (.int (1 : Int32)), .val (.ref r42), .unset, .unset] [(.int (0 : Int32))]))
      refine ogo (fun t k => XS.istore X44.here hx rfl (hb hby at_96) rfl (l' := #[.val (.int p0), .val (.int p1), .val (.int (5 : Int32)), .val (.ref w_COUNTER), .val (.int (1 : Int32)), .val (.ref r42), .val (.int (0 : Int32)), .unset]) rfl k) ?_
      show OwnEnds _ _ _ _ _ _ _ (T44.setTop (mkF m 98 #[.val (.int p0), .val (.int p1), .val (.int (5 : Int32)), .val (.ref w_COUNTER), .val (.int (1 : Int32)), .val (.ref r42), .val (.int (0 : Int32)), .unset] []))
      refine ogo (fun t k => XS.aload X44.here hx rfl (hb hby at_98) rfl rfl k) ?_
      show OwnEnds _ _ _ _ _ _ _ (T44.setTop (mkF m 100 #[.val (.int p0), .val (.int p1), .val (.int (5 : Int32)), .val (.ref w_COUNTER), .val (.int (1 : Int32)), .val (.ref r42), .val (.int (0 : Int32)), .unset] [(.ref r42)]))
      refine ogo (fun t k => XS.iload X44.here hx rfl (hb hby at_100) rfl k) ?_
      show OwnEnds _ _ _ _ _ _ _ (T44.setTop (mkF m 102 #[.val (.int p0), .val (.int p1), .val (.int (5 : Int32)), .val (.ref w_COUNTER), .val (.int (1 : Int32)), .val (.ref r42), .val (.int (0 : Int32)), .unset] [(.int (0 : Int32)), (.ref r42)]))
      refine ogo (fun t k => XS.iloadN X44.here hx rfl (hb hby at_102) rfl k) ?_
      show OwnEnds _ _ _ _ _ _ _ (T44.setTop (mkF m 103 #[.val (.int p0), .val (.int p1), .val (.int (5 : Int32)), .val (.ref w_COUNTER), .val (.int (1 : Int32)), .val (.ref r42), .val (.int (0 : Int32)), .unset] [(.int p1), (.int (0 : Int32)), (.ref r42)]))
      refine ogo (fun t k => XS.iconst X44.here hx rfl (hb hby at_103) k) ?_
      show OwnEnds _ _ _ _ _ _ _ (T44.setTop (mkF m 104 #[.val (.int p0), .val (.int p1), .val (.int (5 : Int32)), .val (.ref w_COUNTER), .val (.int (1 : Int32)), .val (.ref r42), .val (.int (0 : Int32)), .unset] [(.int (1 : Int32)), (.int p1), (.int (0 : Int32)), (.ref r42)]))
      refine ogo (fun t k => XS.ior X44.here hx rfl (hb hby at_104) rfl k) ?_
      show OwnEnds _ _ _ _ _ _ _ (T44.setTop (mkF m 105 #[.val (.int p0), .val (.int p1), .val (.int (5 : Int32)), .val (.ref w_COUNTER), .val (.int (1 : Int32)), .val (.ref r42), .val (.int (0 : Int32)), .unset] [(.int (p1 ||| (1 : Int32))), (.int (0 : Int32)), (.ref r42)]))
      refine ogo (fun t k => XS.i2b X44.here hx rfl (hb hby at_105) rfl k) ?_
      show OwnEnds _ _ _ _ _ _ _ (T44.setTop (mkF m 106 #[.val (.int p0), .val (.int p1), .val (.int (5 : Int32)), .val (.ref w_COUNTER), .val (.int (1 : Int32)), .val (.ref r42), .val (.int (0 : Int32)), .unset] [(.int ((p1 ||| (1 : Int32)).toInt8.toInt32)), (.int (0 : Int32)), (.ref r42)]))
      obtain ⟨ak45, cl45, Ar45, Aq45, As45, An45, Ah45, Ag45⟩ := id Vq42
      obtain ⟨T45, h45, X45, e45, W45, st45⟩ := stB X44 hx hZ e44 Ar45 (j := (0 : Int32)) (inb_of As45 ⟨by decide, by decide⟩) (g := (mkF m 106 #[.val (.int p0), .val (.int p1), .val (.int (5 : Int32)), .val (.ref w_COUNTER), .val (.int (1 : Int32)), .val (.ref r42), .val (.int (0 : Int32)), .unset] [(.int ((p1 ||| (1 : Int32)).toInt8.toInt32)), (.int (0 : Int32)), (.ref r42)])) rfl rfl (hb hby at_106)
      rw [own_narb] at W45
      have V45 : Arv Z h45 r42 ak45 .byte (4 : Int32) [(.int ((p1 ||| (1 : Int32)).toInt8.toInt32)), (.int (0 : Int32)), (.int (0 : Int32)), (.int (0 : Int32))] (.int (0 : Int32)) := Arv.set Ar45 Aq45 As45 An45 Ah45 Ag45 (fits_nar_byte _) W45 0 rfl (Nat.le_of_ble_eq_true rfl)
      have N46 := Fr.snoc X45 N44 q_r42
      have OLD46 := OLD43.wr W45 q_r42
      have K46 := K43.wr W45 (Or.inr sz_r42)
      have Z46 := Nat.le_trans Z43 (Nat.le_of_eq W45.size.symm)
      refine ogo st45 ?_
      show OwnEnds _ _ _ _ _ _ _ (T45.setTop (mkF m 107 #[.val (.int p0), .val (.int p1), .val (.int (5 : Int32)), .val (.ref w_COUNTER), .val (.int (1 : Int32)), .val (.ref r42), .val (.int (0 : Int32)), .unset] []))
      refine ogo (fun t k => XS.aloadN X45.here hx rfl (hb hby at_107) rfl rfl k) ?_
      show OwnEnds _ _ _ _ _ _ _ (T45.setTop (mkF m 108 #[.val (.int p0), .val (.int p1), .val (.int (5 : Int32)), .val (.ref w_COUNTER), .val (.int (1 : Int32)), .val (.ref r42), .val (.int (0 : Int32)), .unset] [(.ref w_COUNTER)]))
      obtain ⟨cq47, kq47, q47a, q47b, q47c⟩ := isOf hZ e45 (E_COUNTER.ext OLD46.2)
      obtain ⟨v47, _, ⟨T47, L47, k47, n47⟩, -, X47, ⟨Lc47, hQ47, l47, y47, z47⟩, st47⟩ := X45.virtualBack hx (y := (⟨"com/example/opaque_token/opaquetoken/token/ObjectType", "initialValue", "()[B"⟩ : MethodName)) (z := (⟨"com/example/opaque_token/opaquetoken/token/ObjectType", "initialValue", "()[B"⟩ : MethodName)) hown (mvT hZ (hw _ (List.mem_of_getElem? (i := 8) rfl))) (mvT hZ (hw _ (List.mem_of_getElem? (i := 9) rfl))) (notFace_of_selects (args := #[]) (mvT hZ (hw _ (List.mem_of_getElem? (i := 11) rfl)))) (mvT hZ (hw _ (List.mem_of_getElem? (i := 11) rfl))) (mvT hZ (hw _ (List.mem_of_getElem? (i := 10) rfl))) (by decide) (backOf (W := 0) (rm2 l Z a0 hw [] w_COUNTER w_COUNTER w_CLOCK_OFFSET h45 n0 Z46 OLD46 S_COUNTER S_CLOCK_OFFSET) hZ (hw _ (List.mem_of_getElem? (i := 12) rfl)) (hw _ (List.mem_of_getElem? (i := 6) rfl)) (by decide) (by decide)) q47a q47c (g := (mkF m 108 #[.val (.int p0), .val (.int p1), .val (.int (5 : Int32)), .val (.ref w_COUNTER), .val (.int (1 : Int32)), .val (.ref r42), .val (.int (0 : Int32)), .unset] [(.ref w_COUNTER)])) rfl (by rw [hml]; rfl) (Steps.refl _) (argsL := []) (rest := []) (lenOf pd____B rfl) rfl (by show 2 * 0 + _ ≤ _; exact Nat.le_of_eq rfl) (hb hby at_108) (fun _ _ => ⟨rfl, e45, (by decide : 1 + 1 ≤ _), (by decide : 4 + 4 ≤ _)⟩)
      dsimp only [Pt.U, Pt.locs, Pt.cells, Pt.slots] at X47 l47 y47 z47 st47 hQ47
      subst l47 y47 z47
      obtain ⟨r47, rfl, Sq47, N47q, Kq47, Dq47⟩ := hQ47
      have N47 := Fr.app N46 N47q
      have ne_r42_r47 : r42 ≠ r47 := Nat.ne_of_lt (Nat.lt_of_lt_of_le (V45).lt Sq47)
      have q_r47 : n0 ≤ r47 := Nat.le_trans Z46 Sq47
      have sz_r47 : h0.size ≤ r47 := Nat.le_trans K46.1 Sq47
      have f48 := V45.keep Kq47 nin0
      have OLD49 := OLD46.keep Kq47 all0
      have K49 := K46.trans Kq47 all0
      have Z49 := Nat.le_trans Z46 Kq47.1
      have Vq47 : Av Z T47.heap r47 .byte (4 : Int32) [(.int (0 : Int32)), (.int (0 : Int32)), (.int (0 : Int32)), (.int (0 : Int32))] (.int (0 : Int32)) := by
        rcases Dq47 with ⟨-, q⟩ | ⟨q1, q2, -⟩
        · exact q
        · exact absurd rfl q1
      refine ogo (fun t k => st47.trans k) ?_
      show OwnEnds _ _ _ _ _ _ _ (T47.setTop (mkF m 111 #[.val (.int p0), .val (.int p1), .val (.int (5 : Int32)), .val (.ref w_COUNTER), .val (.int (1 : Int32)), .val (.ref r42), .val (.int (0 : Int32)), .unset] [(.ref r47)]))
      refine ogo (fun t k => XS.astore X47.here hx rfl (hb hby at_111) rfl rfl (l' := #[.val (.int p0), .val (.int p1), .val (.int (5 : Int32)), .val (.ref w_COUNTER), .val (.int (1 : Int32)), .val (.ref r42), .val (.int (0 : Int32)), .val (.ref r47)]) rfl k) ?_
      show OwnEnds _ _ _ _ _ _ _ (T47.setTop (mkF m 113 #[.val (.int p0), .val (.int p1), .val (.int (5 : Int32)), .val (.ref w_COUNTER), .val (.int (1 : Int32)), .val (.ref r42), .val (.int (0 : Int32)), .val (.ref r47)] []))
      refine ogo (fun t k => XS.aload X47.here hx rfl (hb hby at_113) rfl rfl k) ?_
      show OwnEnds _ _ _ _ _ _ _ (T47.setTop (mkF m 115 #[.val (.int p0), .val (.int p1), .val (.int (5 : Int32)), .val (.ref w_COUNTER), .val (.int (1 : Int32)), .val (.ref r42), .val (.int (0 : Int32)), .val (.ref r47)] [(.ref r47)]))
      refine ogo (fun t k => XS.aload X47.here hx rfl (hb hby at_115) rfl rfl k) ?_
      show OwnEnds _ _ _ _ _ _ _ (T47.setTop (mkF m 117 #[.val (.int p0), .val (.int p1), .val (.int (5 : Int32)), .val (.ref w_COUNTER), .val (.int (1 : Int32)), .val (.ref r42), .val (.int (0 : Int32)), .val (.ref r47)] [(.ref r42), (.ref r47)]))
      refine ogo (fun t k => Jvm.RoadKit.acmp (g := (mkF m 117 #[.val (.int p0), .val (.int p1), .val (.int (5 : Int32)), .val (.ref w_COUNTER), .val (.int (1 : Int32)), .val (.ref r42), .val (.int (0 : Int32)), .val (.ref r47)] [(.ref r42), (.ref r47)])) X47 hx rfl rfl rfl (pc0 := 117) (pc' := 122) (same := false) rfl (hb hby at_117) rfl (decide_eq_false fun q => (Ne.symm ne_r42_r47) (Value.ref.inj q)) (by decide) (by decide) k) ?_
      show OwnEnds _ _ _ _ _ _ _ (T47.setTop (mkF m 122 #[.val (.int p0), .val (.int p1), .val (.int (5 : Int32)), .val (.ref w_COUNTER), .val (.int (1 : Int32)), .val (.ref r42), .val (.int (0 : Int32)), .val (.ref r47)] []))
      refine ogo (fun t k => XS.aload X47.here hx rfl (hb hby at_122) rfl rfl k) ?_
      show OwnEnds _ _ _ _ _ _ _ (T47.setTop (mkF m 124 #[.val (.int p0), .val (.int p1), .val (.int (5 : Int32)), .val (.ref w_COUNTER), .val (.int (1 : Int32)), .val (.ref r42), .val (.int (0 : Int32)), .val (.ref r47)] [(.ref r47)]))
      obtain ⟨v50, _, ⟨T50, L50, k50, n50⟩, -, X50, ⟨Lc50, hQ50, l50, y50, z50⟩, st50⟩ := Jvm.LawKit.callS X47 hx (y := (⟨"com/example/opaque_token/opaquetoken/token/ObjectTypeInitialValuePinLaw", "fourZeros", "([B)Z"⟩ : MethodName)) hown (mvT hZ (hw _ (List.mem_of_getElem? (i := 19) rfl))) (mvT hZ (hw _ (List.mem_of_getElem? (i := 20) rfl))) (mvT hZ (hw _ (List.mem_of_getElem? (i := 3) rfl))) (mvT hZ (hw _ (List.mem_of_getElem? (i := 21) rfl))) (by decide) (backOf (W := 0) (rm3 l Z a0 hw [] r47 T47.heap n0 Z49 Vq47) hZ (hw _ (List.mem_of_getElem? (i := 21) rfl)) (hw _ (List.mem_of_getElem? (i := 3) rfl)) (by decide) (by decide)) (g := (mkF m 124 #[.val (.int p0), .val (.int p1), .val (.int (5 : Int32)), .val (.ref w_COUNTER), .val (.int (1 : Int32)), .val (.ref r42), .val (.int (0 : Int32)), .val (.ref r47)] [(.ref r47)])) rfl (by rw [hml]; rfl) (argsL := [(.ref r47)]) (rest := []) (lenOf pd___B_Z rfl) rfl (by show 2 * 0 + _ ≤ _; exact Nat.le_of_eq rfl) (hb hby at_124) (fun _ _ => ⟨rfl, rfl, (by decide : 2 + 0 ≤ _), (by decide : 8 + 0 ≤ _)⟩)
      dsimp only [Pt.U, Pt.locs, Pt.cells, Pt.slots] at X50 l50 y50 z50 st50 hQ50
      subst l50 y50 z50
      obtain ⟨rfl, N50q, e50⟩ := hQ50
      have N50 := Fr.app N47 N50q
      refine ogo (fun t k => st50 t k) ?_
      show OwnEnds _ _ _ _ _ _ _ (T50.setTop (mkF m 127 #[.val (.int p0), .val (.int p1), .val (.int (5 : Int32)), .val (.ref w_COUNTER), .val (.int (1 : Int32)), .val (.ref r42), .val (.int (0 : Int32)), .val (.ref r47)] [(.int (1 : Int32))]))
      refine endZ X50 hx hlk Bd.returns rfl (hb hby at_127) (by decide) (by decide) ?_
      show Q0 Z p0 p1 w_INPUT_DATA w_COUNTER w_CLOCK_OFFSET w_MODULUS w_OUTPUT_DATA w_RANDOM_FILL w_EXPONENT w_CONFIGURATION w_ROM_DATA h0 n0 _ T50.heap _
      rw [e50]
      exact ⟨rfl, N50⟩
    · show OwnEnds _ _ _ _ _ _ _ (T44.setTop (mkF m 96 #[.val (.int p0), .val (.int p1), .val (.int (5 : Int32)), .val (.ref w_COUNTER), .val (.int (1 : Int32)), .val (.ref r42), .unset, .unset] [(.int (1 : Int32))]))
      refine ogo (fun t k => XS.istore X44.here hx rfl (hb hby at_96) rfl (l' := #[.val (.int p0), .val (.int p1), .val (.int (5 : Int32)), .val (.ref w_COUNTER), .val (.int (1 : Int32)), .val (.ref r42), .val (.int (1 : Int32)), .unset]) rfl k) ?_
      show OwnEnds _ _ _ _ _ _ _ (T44.setTop (mkF m 98 #[.val (.int p0), .val (.int p1), .val (.int (5 : Int32)), .val (.ref w_COUNTER), .val (.int (1 : Int32)), .val (.ref r42), .val (.int (1 : Int32)), .unset] []))
      refine ogo (fun t k => XS.aload X44.here hx rfl (hb hby at_98) rfl rfl k) ?_
      show OwnEnds _ _ _ _ _ _ _ (T44.setTop (mkF m 100 #[.val (.int p0), .val (.int p1), .val (.int (5 : Int32)), .val (.ref w_COUNTER), .val (.int (1 : Int32)), .val (.ref r42), .val (.int (1 : Int32)), .unset] [(.ref r42)]))
      refine ogo (fun t k => XS.iload X44.here hx rfl (hb hby at_100) rfl k) ?_
      show OwnEnds _ _ _ _ _ _ _ (T44.setTop (mkF m 102 #[.val (.int p0), .val (.int p1), .val (.int (5 : Int32)), .val (.ref w_COUNTER), .val (.int (1 : Int32)), .val (.ref r42), .val (.int (1 : Int32)), .unset] [(.int (1 : Int32)), (.ref r42)]))
      refine ogo (fun t k => XS.iloadN X44.here hx rfl (hb hby at_102) rfl k) ?_
      show OwnEnds _ _ _ _ _ _ _ (T44.setTop (mkF m 103 #[.val (.int p0), .val (.int p1), .val (.int (5 : Int32)), .val (.ref w_COUNTER), .val (.int (1 : Int32)), .val (.ref r42), .val (.int (1 : Int32)), .unset] [(.int p1), (.int (1 : Int32)), (.ref r42)]))
      refine ogo (fun t k => XS.iconst X44.here hx rfl (hb hby at_103) k) ?_
      show OwnEnds _ _ _ _ _ _ _ (T44.setTop (mkF m 104 #[.val (.int p0), .val (.int p1), .val (.int (5 : Int32)), .val (.ref w_COUNTER), .val (.int (1 : Int32)), .val (.ref r42), .val (.int (1 : Int32)), .unset] [(.int (1 : Int32)), (.int p1), (.int (1 : Int32)), (.ref r42)]))
      refine ogo (fun t k => XS.ior X44.here hx rfl (hb hby at_104) rfl k) ?_
      show OwnEnds _ _ _ _ _ _ _ (T44.setTop (mkF m 105 #[.val (.int p0), .val (.int p1), .val (.int (5 : Int32)), .val (.ref w_COUNTER), .val (.int (1 : Int32)), .val (.ref r42), .val (.int (1 : Int32)), .unset] [(.int (p1 ||| (1 : Int32))), (.int (1 : Int32)), (.ref r42)]))
      refine ogo (fun t k => XS.i2b X44.here hx rfl (hb hby at_105) rfl k) ?_
      show OwnEnds _ _ _ _ _ _ _ (T44.setTop (mkF m 106 #[.val (.int p0), .val (.int p1), .val (.int (5 : Int32)), .val (.ref w_COUNTER), .val (.int (1 : Int32)), .val (.ref r42), .val (.int (1 : Int32)), .unset] [(.int ((p1 ||| (1 : Int32)).toInt8.toInt32)), (.int (1 : Int32)), (.ref r42)]))
      obtain ⟨ak51, cl51, Ar51, Aq51, As51, An51, Ah51, Ag51⟩ := id Vq42
      obtain ⟨T51, h51, X51, e51, W51, st51⟩ := stB X44 hx hZ e44 Ar51 (j := (1 : Int32)) (inb_of As51 ⟨by decide, by decide⟩) (g := (mkF m 106 #[.val (.int p0), .val (.int p1), .val (.int (5 : Int32)), .val (.ref w_COUNTER), .val (.int (1 : Int32)), .val (.ref r42), .val (.int (1 : Int32)), .unset] [(.int ((p1 ||| (1 : Int32)).toInt8.toInt32)), (.int (1 : Int32)), (.ref r42)])) rfl rfl (hb hby at_106)
      rw [own_narb] at W51
      have V51 : Arv Z h51 r42 ak51 .byte (4 : Int32) [(.int (0 : Int32)), (.int ((p1 ||| (1 : Int32)).toInt8.toInt32)), (.int (0 : Int32)), (.int (0 : Int32))] (.int (0 : Int32)) := Arv.set Ar51 Aq51 As51 An51 Ah51 Ag51 (fits_nar_byte _) W51 1 rfl (Nat.le_of_ble_eq_true rfl)
      have N52 := Fr.snoc X51 N44 q_r42
      have OLD52 := OLD43.wr W51 q_r42
      have K52 := K43.wr W51 (Or.inr sz_r42)
      have Z52 := Nat.le_trans Z43 (Nat.le_of_eq W51.size.symm)
      refine ogo st51 ?_
      show OwnEnds _ _ _ _ _ _ _ (T51.setTop (mkF m 107 #[.val (.int p0), .val (.int p1), .val (.int (5 : Int32)), .val (.ref w_COUNTER), .val (.int (1 : Int32)), .val (.ref r42), .val (.int (1 : Int32)), .unset] []))
      refine ogo (fun t k => XS.aloadN X51.here hx rfl (hb hby at_107) rfl rfl k) ?_
      show OwnEnds _ _ _ _ _ _ _ (T51.setTop (mkF m 108 #[.val (.int p0), .val (.int p1), .val (.int (5 : Int32)), .val (.ref w_COUNTER), .val (.int (1 : Int32)), .val (.ref r42), .val (.int (1 : Int32)), .unset] [(.ref w_COUNTER)]))
      obtain ⟨cq53, kq53, q53a, q53b, q53c⟩ := isOf hZ e51 (E_COUNTER.ext OLD52.2)
      obtain ⟨v53, _, ⟨T53, L53, k53, n53⟩, -, X53, ⟨Lc53, hQ53, l53, y53, z53⟩, st53⟩ := X51.virtualBack hx (y := (⟨"com/example/opaque_token/opaquetoken/token/ObjectType", "initialValue", "()[B"⟩ : MethodName)) (z := (⟨"com/example/opaque_token/opaquetoken/token/ObjectType", "initialValue", "()[B"⟩ : MethodName)) hown (mvT hZ (hw _ (List.mem_of_getElem? (i := 8) rfl))) (mvT hZ (hw _ (List.mem_of_getElem? (i := 9) rfl))) (notFace_of_selects (args := #[]) (mvT hZ (hw _ (List.mem_of_getElem? (i := 11) rfl)))) (mvT hZ (hw _ (List.mem_of_getElem? (i := 11) rfl))) (mvT hZ (hw _ (List.mem_of_getElem? (i := 10) rfl))) (by decide) (backOf (W := 0) (rm2 l Z a0 hw [] w_COUNTER w_COUNTER w_CLOCK_OFFSET h51 n0 Z52 OLD52 S_COUNTER S_CLOCK_OFFSET) hZ (hw _ (List.mem_of_getElem? (i := 12) rfl)) (hw _ (List.mem_of_getElem? (i := 6) rfl)) (by decide) (by decide)) q53a q53c (g := (mkF m 108 #[.val (.int p0), .val (.int p1), .val (.int (5 : Int32)), .val (.ref w_COUNTER), .val (.int (1 : Int32)), .val (.ref r42), .val (.int (1 : Int32)), .unset] [(.ref w_COUNTER)])) rfl (by rw [hml]; rfl) (Steps.refl _) (argsL := []) (rest := []) (lenOf pd____B rfl) rfl (by show 2 * 0 + _ ≤ _; exact Nat.le_of_eq rfl) (hb hby at_108) (fun _ _ => ⟨rfl, e51, (by decide : 1 + 1 ≤ _), (by decide : 4 + 4 ≤ _)⟩)
      dsimp only [Pt.U, Pt.locs, Pt.cells, Pt.slots] at X53 l53 y53 z53 st53 hQ53
      subst l53 y53 z53
      obtain ⟨r53, rfl, Sq53, N53q, Kq53, Dq53⟩ := hQ53
      have N53 := Fr.app N52 N53q
      have ne_r42_r53 : r42 ≠ r53 := Nat.ne_of_lt (Nat.lt_of_lt_of_le (V51).lt Sq53)
      have q_r53 : n0 ≤ r53 := Nat.le_trans Z52 Sq53
      have sz_r53 : h0.size ≤ r53 := Nat.le_trans K52.1 Sq53
      have f54 := V51.keep Kq53 nin0
      have OLD55 := OLD52.keep Kq53 all0
      have K55 := K52.trans Kq53 all0
      have Z55 := Nat.le_trans Z52 Kq53.1
      have Vq53 : Av Z T53.heap r53 .byte (4 : Int32) [(.int (0 : Int32)), (.int (0 : Int32)), (.int (0 : Int32)), (.int (0 : Int32))] (.int (0 : Int32)) := by
        rcases Dq53 with ⟨-, q⟩ | ⟨q1, q2, -⟩
        · exact q
        · exact absurd rfl q1
      refine ogo (fun t k => st53.trans k) ?_
      show OwnEnds _ _ _ _ _ _ _ (T53.setTop (mkF m 111 #[.val (.int p0), .val (.int p1), .val (.int (5 : Int32)), .val (.ref w_COUNTER), .val (.int (1 : Int32)), .val (.ref r42), .val (.int (1 : Int32)), .unset] [(.ref r53)]))
      refine ogo (fun t k => XS.astore X53.here hx rfl (hb hby at_111) rfl rfl (l' := #[.val (.int p0), .val (.int p1), .val (.int (5 : Int32)), .val (.ref w_COUNTER), .val (.int (1 : Int32)), .val (.ref r42), .val (.int (1 : Int32)), .val (.ref r53)]) rfl k) ?_
      show OwnEnds _ _ _ _ _ _ _ (T53.setTop (mkF m 113 #[.val (.int p0), .val (.int p1), .val (.int (5 : Int32)), .val (.ref w_COUNTER), .val (.int (1 : Int32)), .val (.ref r42), .val (.int (1 : Int32)), .val (.ref r53)] []))
      refine ogo (fun t k => XS.aload X53.here hx rfl (hb hby at_113) rfl rfl k) ?_
      show OwnEnds _ _ _ _ _ _ _ (T53.setTop (mkF m 115 #[.val (.int p0), .val (.int p1), .val (.int (5 : Int32)), .val (.ref w_COUNTER), .val (.int (1 : Int32)), .val (.ref r42), .val (.int (1 : Int32)), .val (.ref r53)] [(.ref r53)]))
      refine ogo (fun t k => XS.aload X53.here hx rfl (hb hby at_115) rfl rfl k) ?_
      show OwnEnds _ _ _ _ _ _ _ (T53.setTop (mkF m 117 #[.val (.int p0), .val (.int p1), .val (.int (5 : Int32)), .val (.ref w_COUNTER), .val (.int (1 : Int32)), .val (.ref r42), .val (.int (1 : Int32)), .val (.ref r53)] [(.ref r42), (.ref r53)]))
      refine ogo (fun t k => Jvm.RoadKit.acmp (g := (mkF m 117 #[.val (.int p0), .val (.int p1), .val (.int (5 : Int32)), .val (.ref w_COUNTER), .val (.int (1 : Int32)), .val (.ref r42), .val (.int (1 : Int32)), .val (.ref r53)] [(.ref r42), (.ref r53)])) X53 hx rfl rfl rfl (pc0 := 117) (pc' := 122) (same := false) rfl (hb hby at_117) rfl (decide_eq_false fun q => (Ne.symm ne_r42_r53) (Value.ref.inj q)) (by decide) (by decide) k) ?_
      show OwnEnds _ _ _ _ _ _ _ (T53.setTop (mkF m 122 #[.val (.int p0), .val (.int p1), .val (.int (5 : Int32)), .val (.ref w_COUNTER), .val (.int (1 : Int32)), .val (.ref r42), .val (.int (1 : Int32)), .val (.ref r53)] []))
      refine ogo (fun t k => XS.aload X53.here hx rfl (hb hby at_122) rfl rfl k) ?_
      show OwnEnds _ _ _ _ _ _ _ (T53.setTop (mkF m 124 #[.val (.int p0), .val (.int p1), .val (.int (5 : Int32)), .val (.ref w_COUNTER), .val (.int (1 : Int32)), .val (.ref r42), .val (.int (1 : Int32)), .val (.ref r53)] [(.ref r53)]))
      obtain ⟨v56, _, ⟨T56, L56, k56, n56⟩, -, X56, ⟨Lc56, hQ56, l56, y56, z56⟩, st56⟩ := Jvm.LawKit.callS X53 hx (y := (⟨"com/example/opaque_token/opaquetoken/token/ObjectTypeInitialValuePinLaw", "fourZeros", "([B)Z"⟩ : MethodName)) hown (mvT hZ (hw _ (List.mem_of_getElem? (i := 19) rfl))) (mvT hZ (hw _ (List.mem_of_getElem? (i := 20) rfl))) (mvT hZ (hw _ (List.mem_of_getElem? (i := 3) rfl))) (mvT hZ (hw _ (List.mem_of_getElem? (i := 21) rfl))) (by decide) (backOf (W := 0) (rm3 l Z a0 hw [] r53 T53.heap n0 Z55 Vq53) hZ (hw _ (List.mem_of_getElem? (i := 21) rfl)) (hw _ (List.mem_of_getElem? (i := 3) rfl)) (by decide) (by decide)) (g := (mkF m 124 #[.val (.int p0), .val (.int p1), .val (.int (5 : Int32)), .val (.ref w_COUNTER), .val (.int (1 : Int32)), .val (.ref r42), .val (.int (1 : Int32)), .val (.ref r53)] [(.ref r53)])) rfl (by rw [hml]; rfl) (argsL := [(.ref r53)]) (rest := []) (lenOf pd___B_Z rfl) rfl (by show 2 * 0 + _ ≤ _; exact Nat.le_of_eq rfl) (hb hby at_124) (fun _ _ => ⟨rfl, rfl, (by decide : 2 + 0 ≤ _), (by decide : 8 + 0 ≤ _)⟩)
      dsimp only [Pt.U, Pt.locs, Pt.cells, Pt.slots] at X56 l56 y56 z56 st56 hQ56
      subst l56 y56 z56
      obtain ⟨rfl, N56q, e56⟩ := hQ56
      have N56 := Fr.app N53 N56q
      refine ogo (fun t k => st56 t k) ?_
      show OwnEnds _ _ _ _ _ _ _ (T56.setTop (mkF m 127 #[.val (.int p0), .val (.int p1), .val (.int (5 : Int32)), .val (.ref w_COUNTER), .val (.int (1 : Int32)), .val (.ref r42), .val (.int (1 : Int32)), .val (.ref r53)] [(.int (1 : Int32))]))
      refine endZ X56 hx hlk Bd.returns rfl (hb hby at_127) (by decide) (by decide) ?_
      show Q0 Z p0 p1 w_INPUT_DATA w_COUNTER w_CLOCK_OFFSET w_MODULUS w_OUTPUT_DATA w_RANDOM_FILL w_EXPONENT w_CONFIGURATION w_ROM_DATA h0 n0 _ T56.heap _
      rw [e56]
      exact ⟨rfl, N56⟩
    · show OwnEnds _ _ _ _ _ _ _ (T44.setTop (mkF m 96 #[.val (.int p0), .val (.int p1), .val (.int (5 : Int32)), .val (.ref w_COUNTER), .val (.int (1 : Int32)), .val (.ref r42), .unset, .unset] [(.int (2 : Int32))]))
      refine ogo (fun t k => XS.istore X44.here hx rfl (hb hby at_96) rfl (l' := #[.val (.int p0), .val (.int p1), .val (.int (5 : Int32)), .val (.ref w_COUNTER), .val (.int (1 : Int32)), .val (.ref r42), .val (.int (2 : Int32)), .unset]) rfl k) ?_
      show OwnEnds _ _ _ _ _ _ _ (T44.setTop (mkF m 98 #[.val (.int p0), .val (.int p1), .val (.int (5 : Int32)), .val (.ref w_COUNTER), .val (.int (1 : Int32)), .val (.ref r42), .val (.int (2 : Int32)), .unset] []))
      refine ogo (fun t k => XS.aload X44.here hx rfl (hb hby at_98) rfl rfl k) ?_
      show OwnEnds _ _ _ _ _ _ _ (T44.setTop (mkF m 100 #[.val (.int p0), .val (.int p1), .val (.int (5 : Int32)), .val (.ref w_COUNTER), .val (.int (1 : Int32)), .val (.ref r42), .val (.int (2 : Int32)), .unset] [(.ref r42)]))
      refine ogo (fun t k => XS.iload X44.here hx rfl (hb hby at_100) rfl k) ?_
      show OwnEnds _ _ _ _ _ _ _ (T44.setTop (mkF m 102 #[.val (.int p0), .val (.int p1), .val (.int (5 : Int32)), .val (.ref w_COUNTER), .val (.int (1 : Int32)), .val (.ref r42), .val (.int (2 : Int32)), .unset] [(.int (2 : Int32)), (.ref r42)]))
      refine ogo (fun t k => XS.iloadN X44.here hx rfl (hb hby at_102) rfl k) ?_
      show OwnEnds _ _ _ _ _ _ _ (T44.setTop (mkF m 103 #[.val (.int p0), .val (.int p1), .val (.int (5 : Int32)), .val (.ref w_COUNTER), .val (.int (1 : Int32)), .val (.ref r42), .val (.int (2 : Int32)), .unset] [(.int p1), (.int (2 : Int32)), (.ref r42)]))
      refine ogo (fun t k => XS.iconst X44.here hx rfl (hb hby at_103) k) ?_
      show OwnEnds _ _ _ _ _ _ _ (T44.setTop (mkF m 104 #[.val (.int p0), .val (.int p1), .val (.int (5 : Int32)), .val (.ref w_COUNTER), .val (.int (1 : Int32)), .val (.ref r42), .val (.int (2 : Int32)), .unset] [(.int (1 : Int32)), (.int p1), (.int (2 : Int32)), (.ref r42)]))
      refine ogo (fun t k => XS.ior X44.here hx rfl (hb hby at_104) rfl k) ?_
      show OwnEnds _ _ _ _ _ _ _ (T44.setTop (mkF m 105 #[.val (.int p0), .val (.int p1), .val (.int (5 : Int32)), .val (.ref w_COUNTER), .val (.int (1 : Int32)), .val (.ref r42), .val (.int (2 : Int32)), .unset] [(.int (p1 ||| (1 : Int32))), (.int (2 : Int32)), (.ref r42)]))
      refine ogo (fun t k => XS.i2b X44.here hx rfl (hb hby at_105) rfl k) ?_
      show OwnEnds _ _ _ _ _ _ _ (T44.setTop (mkF m 106 #[.val (.int p0), .val (.int p1), .val (.int (5 : Int32)), .val (.ref w_COUNTER), .val (.int (1 : Int32)), .val (.ref r42), .val (.int (2 : Int32)), .unset] [(.int ((p1 ||| (1 : Int32)).toInt8.toInt32)), (.int (2 : Int32)), (.ref r42)]))
      obtain ⟨ak57, cl57, Ar57, Aq57, As57, An57, Ah57, Ag57⟩ := id Vq42
      obtain ⟨T57, h57, X57, e57, W57, st57⟩ := stB X44 hx hZ e44 Ar57 (j := (2 : Int32)) (inb_of As57 ⟨by decide, by decide⟩) (g := (mkF m 106 #[.val (.int p0), .val (.int p1), .val (.int (5 : Int32)), .val (.ref w_COUNTER), .val (.int (1 : Int32)), .val (.ref r42), .val (.int (2 : Int32)), .unset] [(.int ((p1 ||| (1 : Int32)).toInt8.toInt32)), (.int (2 : Int32)), (.ref r42)])) rfl rfl (hb hby at_106)
      rw [own_narb] at W57
      have V57 : Arv Z h57 r42 ak57 .byte (4 : Int32) [(.int (0 : Int32)), (.int (0 : Int32)), (.int ((p1 ||| (1 : Int32)).toInt8.toInt32)), (.int (0 : Int32))] (.int (0 : Int32)) := Arv.set Ar57 Aq57 As57 An57 Ah57 Ag57 (fits_nar_byte _) W57 2 rfl (Nat.le_of_ble_eq_true rfl)
      have N58 := Fr.snoc X57 N44 q_r42
      have OLD58 := OLD43.wr W57 q_r42
      have K58 := K43.wr W57 (Or.inr sz_r42)
      have Z58 := Nat.le_trans Z43 (Nat.le_of_eq W57.size.symm)
      refine ogo st57 ?_
      show OwnEnds _ _ _ _ _ _ _ (T57.setTop (mkF m 107 #[.val (.int p0), .val (.int p1), .val (.int (5 : Int32)), .val (.ref w_COUNTER), .val (.int (1 : Int32)), .val (.ref r42), .val (.int (2 : Int32)), .unset] []))
      refine ogo (fun t k => XS.aloadN X57.here hx rfl (hb hby at_107) rfl rfl k) ?_
      show OwnEnds _ _ _ _ _ _ _ (T57.setTop (mkF m 108 #[.val (.int p0), .val (.int p1), .val (.int (5 : Int32)), .val (.ref w_COUNTER), .val (.int (1 : Int32)), .val (.ref r42), .val (.int (2 : Int32)), .unset] [(.ref w_COUNTER)]))
      obtain ⟨cq59, kq59, q59a, q59b, q59c⟩ := isOf hZ e57 (E_COUNTER.ext OLD58.2)
      obtain ⟨v59, _, ⟨T59, L59, k59, n59⟩, -, X59, ⟨Lc59, hQ59, l59, y59, z59⟩, st59⟩ := X57.virtualBack hx (y := (⟨"com/example/opaque_token/opaquetoken/token/ObjectType", "initialValue", "()[B"⟩ : MethodName)) (z := (⟨"com/example/opaque_token/opaquetoken/token/ObjectType", "initialValue", "()[B"⟩ : MethodName)) hown (mvT hZ (hw _ (List.mem_of_getElem? (i := 8) rfl))) (mvT hZ (hw _ (List.mem_of_getElem? (i := 9) rfl))) (notFace_of_selects (args := #[]) (mvT hZ (hw _ (List.mem_of_getElem? (i := 11) rfl)))) (mvT hZ (hw _ (List.mem_of_getElem? (i := 11) rfl))) (mvT hZ (hw _ (List.mem_of_getElem? (i := 10) rfl))) (by decide) (backOf (W := 0) (rm2 l Z a0 hw [] w_COUNTER w_COUNTER w_CLOCK_OFFSET h57 n0 Z58 OLD58 S_COUNTER S_CLOCK_OFFSET) hZ (hw _ (List.mem_of_getElem? (i := 12) rfl)) (hw _ (List.mem_of_getElem? (i := 6) rfl)) (by decide) (by decide)) q59a q59c (g := (mkF m 108 #[.val (.int p0), .val (.int p1), .val (.int (5 : Int32)), .val (.ref w_COUNTER), .val (.int (1 : Int32)), .val (.ref r42), .val (.int (2 : Int32)), .unset] [(.ref w_COUNTER)])) rfl (by rw [hml]; rfl) (Steps.refl _) (argsL := []) (rest := []) (lenOf pd____B rfl) rfl (by show 2 * 0 + _ ≤ _; exact Nat.le_of_eq rfl) (hb hby at_108) (fun _ _ => ⟨rfl, e57, (by decide : 1 + 1 ≤ _), (by decide : 4 + 4 ≤ _)⟩)
      dsimp only [Pt.U, Pt.locs, Pt.cells, Pt.slots] at X59 l59 y59 z59 st59 hQ59
      subst l59 y59 z59
      obtain ⟨r59, rfl, Sq59, N59q, Kq59, Dq59⟩ := hQ59
      have N59 := Fr.app N58 N59q
      have ne_r42_r59 : r42 ≠ r59 := Nat.ne_of_lt (Nat.lt_of_lt_of_le (V57).lt Sq59)
      have q_r59 : n0 ≤ r59 := Nat.le_trans Z58 Sq59
      have sz_r59 : h0.size ≤ r59 := Nat.le_trans K58.1 Sq59
      have f60 := V57.keep Kq59 nin0
      have OLD61 := OLD58.keep Kq59 all0
      have K61 := K58.trans Kq59 all0
      have Z61 := Nat.le_trans Z58 Kq59.1
      have Vq59 : Av Z T59.heap r59 .byte (4 : Int32) [(.int (0 : Int32)), (.int (0 : Int32)), (.int (0 : Int32)), (.int (0 : Int32))] (.int (0 : Int32)) := by
        rcases Dq59 with ⟨-, q⟩ | ⟨q1, q2, -⟩
        · exact q
        · exact absurd rfl q1
      refine ogo (fun t k => st59.trans k) ?_
      show OwnEnds _ _ _ _ _ _ _ (T59.setTop (mkF m 111 #[.val (.int p0), .val (.int p1), .val (.int (5 : Int32)), .val (.ref w_COUNTER), .val (.int (1 : Int32)), .val (.ref r42), .val (.int (2 : Int32)), .unset] [(.ref r59)]))
      refine ogo (fun t k => XS.astore X59.here hx rfl (hb hby at_111) rfl rfl (l' := #[.val (.int p0), .val (.int p1), .val (.int (5 : Int32)), .val (.ref w_COUNTER), .val (.int (1 : Int32)), .val (.ref r42), .val (.int (2 : Int32)), .val (.ref r59)]) rfl k) ?_
      show OwnEnds _ _ _ _ _ _ _ (T59.setTop (mkF m 113 #[.val (.int p0), .val (.int p1), .val (.int (5 : Int32)), .val (.ref w_COUNTER), .val (.int (1 : Int32)), .val (.ref r42), .val (.int (2 : Int32)), .val (.ref r59)] []))
      refine ogo (fun t k => XS.aload X59.here hx rfl (hb hby at_113) rfl rfl k) ?_
      show OwnEnds _ _ _ _ _ _ _ (T59.setTop (mkF m 115 #[.val (.int p0), .val (.int p1), .val (.int (5 : Int32)), .val (.ref w_COUNTER), .val (.int (1 : Int32)), .val (.ref r42), .val (.int (2 : Int32)), .val (.ref r59)] [(.ref r59)]))
      refine ogo (fun t k => XS.aload X59.here hx rfl (hb hby at_115) rfl rfl k) ?_
      show OwnEnds _ _ _ _ _ _ _ (T59.setTop (mkF m 117 #[.val (.int p0), .val (.int p1), .val (.int (5 : Int32)), .val (.ref w_COUNTER), .val (.int (1 : Int32)), .val (.ref r42), .val (.int (2 : Int32)), .val (.ref r59)] [(.ref r42), (.ref r59)]))
      refine ogo (fun t k => Jvm.RoadKit.acmp (g := (mkF m 117 #[.val (.int p0), .val (.int p1), .val (.int (5 : Int32)), .val (.ref w_COUNTER), .val (.int (1 : Int32)), .val (.ref r42), .val (.int (2 : Int32)), .val (.ref r59)] [(.ref r42), (.ref r59)])) X59 hx rfl rfl rfl (pc0 := 117) (pc' := 122) (same := false) rfl (hb hby at_117) rfl (decide_eq_false fun q => (Ne.symm ne_r42_r59) (Value.ref.inj q)) (by decide) (by decide) k) ?_
      show OwnEnds _ _ _ _ _ _ _ (T59.setTop (mkF m 122 #[.val (.int p0), .val (.int p1), .val (.int (5 : Int32)), .val (.ref w_COUNTER), .val (.int (1 : Int32)), .val (.ref r42), .val (.int (2 : Int32)), .val (.ref r59)] []))
      refine ogo (fun t k => XS.aload X59.here hx rfl (hb hby at_122) rfl rfl k) ?_
      show OwnEnds _ _ _ _ _ _ _ (T59.setTop (mkF m 124 #[.val (.int p0), .val (.int p1), .val (.int (5 : Int32)), .val (.ref w_COUNTER), .val (.int (1 : Int32)), .val (.ref r42), .val (.int (2 : Int32)), .val (.ref r59)] [(.ref r59)]))
      obtain ⟨v62, _, ⟨T62, L62, k62, n62⟩, -, X62, ⟨Lc62, hQ62, l62, y62, z62⟩, st62⟩ := Jvm.LawKit.callS X59 hx (y := (⟨"com/example/opaque_token/opaquetoken/token/ObjectTypeInitialValuePinLaw", "fourZeros", "([B)Z"⟩ : MethodName)) hown (mvT hZ (hw _ (List.mem_of_getElem? (i := 19) rfl))) (mvT hZ (hw _ (List.mem_of_getElem? (i := 20) rfl))) (mvT hZ (hw _ (List.mem_of_getElem? (i := 3) rfl))) (mvT hZ (hw _ (List.mem_of_getElem? (i := 21) rfl))) (by decide) (backOf (W := 0) (rm3 l Z a0 hw [] r59 T59.heap n0 Z61 Vq59) hZ (hw _ (List.mem_of_getElem? (i := 21) rfl)) (hw _ (List.mem_of_getElem? (i := 3) rfl)) (by decide) (by decide)) (g := (mkF m 124 #[.val (.int p0), .val (.int p1), .val (.int (5 : Int32)), .val (.ref w_COUNTER), .val (.int (1 : Int32)), .val (.ref r42), .val (.int (2 : Int32)), .val (.ref r59)] [(.ref r59)])) rfl (by rw [hml]; rfl) (argsL := [(.ref r59)]) (rest := []) (lenOf pd___B_Z rfl) rfl (by show 2 * 0 + _ ≤ _; exact Nat.le_of_eq rfl) (hb hby at_124) (fun _ _ => ⟨rfl, rfl, (by decide : 2 + 0 ≤ _), (by decide : 8 + 0 ≤ _)⟩)
      dsimp only [Pt.U, Pt.locs, Pt.cells, Pt.slots] at X62 l62 y62 z62 st62 hQ62
      subst l62 y62 z62
      obtain ⟨rfl, N62q, e62⟩ := hQ62
      have N62 := Fr.app N59 N62q
      refine ogo (fun t k => st62 t k) ?_
      show OwnEnds _ _ _ _ _ _ _ (T62.setTop (mkF m 127 #[.val (.int p0), .val (.int p1), .val (.int (5 : Int32)), .val (.ref w_COUNTER), .val (.int (1 : Int32)), .val (.ref r42), .val (.int (2 : Int32)), .val (.ref r59)] [(.int (1 : Int32))]))
      refine endZ X62 hx hlk Bd.returns rfl (hb hby at_127) (by decide) (by decide) ?_
      show Q0 Z p0 p1 w_INPUT_DATA w_COUNTER w_CLOCK_OFFSET w_MODULUS w_OUTPUT_DATA w_RANDOM_FILL w_EXPONENT w_CONFIGURATION w_ROM_DATA h0 n0 _ T62.heap _
      rw [e62]
      exact ⟨rfl, N62⟩
    · show OwnEnds _ _ _ _ _ _ _ (T44.setTop (mkF m 96 #[.val (.int p0), .val (.int p1), .val (.int (5 : Int32)), .val (.ref w_COUNTER), .val (.int (1 : Int32)), .val (.ref r42), .unset, .unset] [(.int (3 : Int32))]))
      refine ogo (fun t k => XS.istore X44.here hx rfl (hb hby at_96) rfl (l' := #[.val (.int p0), .val (.int p1), .val (.int (5 : Int32)), .val (.ref w_COUNTER), .val (.int (1 : Int32)), .val (.ref r42), .val (.int (3 : Int32)), .unset]) rfl k) ?_
      show OwnEnds _ _ _ _ _ _ _ (T44.setTop (mkF m 98 #[.val (.int p0), .val (.int p1), .val (.int (5 : Int32)), .val (.ref w_COUNTER), .val (.int (1 : Int32)), .val (.ref r42), .val (.int (3 : Int32)), .unset] []))
      refine ogo (fun t k => XS.aload X44.here hx rfl (hb hby at_98) rfl rfl k) ?_
      show OwnEnds _ _ _ _ _ _ _ (T44.setTop (mkF m 100 #[.val (.int p0), .val (.int p1), .val (.int (5 : Int32)), .val (.ref w_COUNTER), .val (.int (1 : Int32)), .val (.ref r42), .val (.int (3 : Int32)), .unset] [(.ref r42)]))
      refine ogo (fun t k => XS.iload X44.here hx rfl (hb hby at_100) rfl k) ?_
      show OwnEnds _ _ _ _ _ _ _ (T44.setTop (mkF m 102 #[.val (.int p0), .val (.int p1), .val (.int (5 : Int32)), .val (.ref w_COUNTER), .val (.int (1 : Int32)), .val (.ref r42), .val (.int (3 : Int32)), .unset] [(.int (3 : Int32)), (.ref r42)]))
      refine ogo (fun t k => XS.iloadN X44.here hx rfl (hb hby at_102) rfl k) ?_
      show OwnEnds _ _ _ _ _ _ _ (T44.setTop (mkF m 103 #[.val (.int p0), .val (.int p1), .val (.int (5 : Int32)), .val (.ref w_COUNTER), .val (.int (1 : Int32)), .val (.ref r42), .val (.int (3 : Int32)), .unset] [(.int p1), (.int (3 : Int32)), (.ref r42)]))
      refine ogo (fun t k => XS.iconst X44.here hx rfl (hb hby at_103) k) ?_
      show OwnEnds _ _ _ _ _ _ _ (T44.setTop (mkF m 104 #[.val (.int p0), .val (.int p1), .val (.int (5 : Int32)), .val (.ref w_COUNTER), .val (.int (1 : Int32)), .val (.ref r42), .val (.int (3 : Int32)), .unset] [(.int (1 : Int32)), (.int p1), (.int (3 : Int32)), (.ref r42)]))
      refine ogo (fun t k => XS.ior X44.here hx rfl (hb hby at_104) rfl k) ?_
      show OwnEnds _ _ _ _ _ _ _ (T44.setTop (mkF m 105 #[.val (.int p0), .val (.int p1), .val (.int (5 : Int32)), .val (.ref w_COUNTER), .val (.int (1 : Int32)), .val (.ref r42), .val (.int (3 : Int32)), .unset] [(.int (p1 ||| (1 : Int32))), (.int (3 : Int32)), (.ref r42)]))
      refine ogo (fun t k => XS.i2b X44.here hx rfl (hb hby at_105) rfl k) ?_
      show OwnEnds _ _ _ _ _ _ _ (T44.setTop (mkF m 106 #[.val (.int p0), .val (.int p1), .val (.int (5 : Int32)), .val (.ref w_COUNTER), .val (.int (1 : Int32)), .val (.ref r42), .val (.int (3 : Int32)), .unset] [(.int ((p1 ||| (1 : Int32)).toInt8.toInt32)), (.int (3 : Int32)), (.ref r42)]))
      obtain ⟨ak63, cl63, Ar63, Aq63, As63, An63, Ah63, Ag63⟩ := id Vq42
      obtain ⟨T63, h63, X63, e63, W63, st63⟩ := stB X44 hx hZ e44 Ar63 (j := (3 : Int32)) (inb_of As63 ⟨by decide, by decide⟩) (g := (mkF m 106 #[.val (.int p0), .val (.int p1), .val (.int (5 : Int32)), .val (.ref w_COUNTER), .val (.int (1 : Int32)), .val (.ref r42), .val (.int (3 : Int32)), .unset] [(.int ((p1 ||| (1 : Int32)).toInt8.toInt32)), (.int (3 : Int32)), (.ref r42)])) rfl rfl (hb hby at_106)
      rw [own_narb] at W63
      have V63 : Arv Z h63 r42 ak63 .byte (4 : Int32) [(.int (0 : Int32)), (.int (0 : Int32)), (.int (0 : Int32)), (.int ((p1 ||| (1 : Int32)).toInt8.toInt32))] (.int (0 : Int32)) := Arv.set Ar63 Aq63 As63 An63 Ah63 Ag63 (fits_nar_byte _) W63 3 rfl (Nat.le_of_ble_eq_true rfl)
      have N64 := Fr.snoc X63 N44 q_r42
      have OLD64 := OLD43.wr W63 q_r42
      have K64 := K43.wr W63 (Or.inr sz_r42)
      have Z64 := Nat.le_trans Z43 (Nat.le_of_eq W63.size.symm)
      refine ogo st63 ?_
      show OwnEnds _ _ _ _ _ _ _ (T63.setTop (mkF m 107 #[.val (.int p0), .val (.int p1), .val (.int (5 : Int32)), .val (.ref w_COUNTER), .val (.int (1 : Int32)), .val (.ref r42), .val (.int (3 : Int32)), .unset] []))
      refine ogo (fun t k => XS.aloadN X63.here hx rfl (hb hby at_107) rfl rfl k) ?_
      show OwnEnds _ _ _ _ _ _ _ (T63.setTop (mkF m 108 #[.val (.int p0), .val (.int p1), .val (.int (5 : Int32)), .val (.ref w_COUNTER), .val (.int (1 : Int32)), .val (.ref r42), .val (.int (3 : Int32)), .unset] [(.ref w_COUNTER)]))
      obtain ⟨cq65, kq65, q65a, q65b, q65c⟩ := isOf hZ e63 (E_COUNTER.ext OLD64.2)
      obtain ⟨v65, _, ⟨T65, L65, k65, n65⟩, -, X65, ⟨Lc65, hQ65, l65, y65, z65⟩, st65⟩ := X63.virtualBack hx (y := (⟨"com/example/opaque_token/opaquetoken/token/ObjectType", "initialValue", "()[B"⟩ : MethodName)) (z := (⟨"com/example/opaque_token/opaquetoken/token/ObjectType", "initialValue", "()[B"⟩ : MethodName)) hown (mvT hZ (hw _ (List.mem_of_getElem? (i := 8) rfl))) (mvT hZ (hw _ (List.mem_of_getElem? (i := 9) rfl))) (notFace_of_selects (args := #[]) (mvT hZ (hw _ (List.mem_of_getElem? (i := 11) rfl)))) (mvT hZ (hw _ (List.mem_of_getElem? (i := 11) rfl))) (mvT hZ (hw _ (List.mem_of_getElem? (i := 10) rfl))) (by decide) (backOf (W := 0) (rm2 l Z a0 hw [] w_COUNTER w_COUNTER w_CLOCK_OFFSET h63 n0 Z64 OLD64 S_COUNTER S_CLOCK_OFFSET) hZ (hw _ (List.mem_of_getElem? (i := 12) rfl)) (hw _ (List.mem_of_getElem? (i := 6) rfl)) (by decide) (by decide)) q65a q65c (g := (mkF m 108 #[.val (.int p0), .val (.int p1), .val (.int (5 : Int32)), .val (.ref w_COUNTER), .val (.int (1 : Int32)), .val (.ref r42), .val (.int (3 : Int32)), .unset] [(.ref w_COUNTER)])) rfl (by rw [hml]; rfl) (Steps.refl _) (argsL := []) (rest := []) (lenOf pd____B rfl) rfl (by show 2 * 0 + _ ≤ _; exact Nat.le_of_eq rfl) (hb hby at_108) (fun _ _ => ⟨rfl, e63, (by decide : 1 + 1 ≤ _), (by decide : 4 + 4 ≤ _)⟩)
      dsimp only [Pt.U, Pt.locs, Pt.cells, Pt.slots] at X65 l65 y65 z65 st65 hQ65
      subst l65 y65 z65
      obtain ⟨r65, rfl, Sq65, N65q, Kq65, Dq65⟩ := hQ65
      have N65 := Fr.app N64 N65q
      have ne_r42_r65 : r42 ≠ r65 := Nat.ne_of_lt (Nat.lt_of_lt_of_le (V63).lt Sq65)
      have q_r65 : n0 ≤ r65 := Nat.le_trans Z64 Sq65
      have sz_r65 : h0.size ≤ r65 := Nat.le_trans K64.1 Sq65
      have f66 := V63.keep Kq65 nin0
      have OLD67 := OLD64.keep Kq65 all0
      have K67 := K64.trans Kq65 all0
      have Z67 := Nat.le_trans Z64 Kq65.1
      have Vq65 : Av Z T65.heap r65 .byte (4 : Int32) [(.int (0 : Int32)), (.int (0 : Int32)), (.int (0 : Int32)), (.int (0 : Int32))] (.int (0 : Int32)) := by
        rcases Dq65 with ⟨-, q⟩ | ⟨q1, q2, -⟩
        · exact q
        · exact absurd rfl q1
      refine ogo (fun t k => st65.trans k) ?_
      show OwnEnds _ _ _ _ _ _ _ (T65.setTop (mkF m 111 #[.val (.int p0), .val (.int p1), .val (.int (5 : Int32)), .val (.ref w_COUNTER), .val (.int (1 : Int32)), .val (.ref r42), .val (.int (3 : Int32)), .unset] [(.ref r65)]))
      refine ogo (fun t k => XS.astore X65.here hx rfl (hb hby at_111) rfl rfl (l' := #[.val (.int p0), .val (.int p1), .val (.int (5 : Int32)), .val (.ref w_COUNTER), .val (.int (1 : Int32)), .val (.ref r42), .val (.int (3 : Int32)), .val (.ref r65)]) rfl k) ?_
      show OwnEnds _ _ _ _ _ _ _ (T65.setTop (mkF m 113 #[.val (.int p0), .val (.int p1), .val (.int (5 : Int32)), .val (.ref w_COUNTER), .val (.int (1 : Int32)), .val (.ref r42), .val (.int (3 : Int32)), .val (.ref r65)] []))
      refine ogo (fun t k => XS.aload X65.here hx rfl (hb hby at_113) rfl rfl k) ?_
      show OwnEnds _ _ _ _ _ _ _ (T65.setTop (mkF m 115 #[.val (.int p0), .val (.int p1), .val (.int (5 : Int32)), .val (.ref w_COUNTER), .val (.int (1 : Int32)), .val (.ref r42), .val (.int (3 : Int32)), .val (.ref r65)] [(.ref r65)]))
      refine ogo (fun t k => XS.aload X65.here hx rfl (hb hby at_115) rfl rfl k) ?_
      show OwnEnds _ _ _ _ _ _ _ (T65.setTop (mkF m 117 #[.val (.int p0), .val (.int p1), .val (.int (5 : Int32)), .val (.ref w_COUNTER), .val (.int (1 : Int32)), .val (.ref r42), .val (.int (3 : Int32)), .val (.ref r65)] [(.ref r42), (.ref r65)]))
      refine ogo (fun t k => Jvm.RoadKit.acmp (g := (mkF m 117 #[.val (.int p0), .val (.int p1), .val (.int (5 : Int32)), .val (.ref w_COUNTER), .val (.int (1 : Int32)), .val (.ref r42), .val (.int (3 : Int32)), .val (.ref r65)] [(.ref r42), (.ref r65)])) X65 hx rfl rfl rfl (pc0 := 117) (pc' := 122) (same := false) rfl (hb hby at_117) rfl (decide_eq_false fun q => (Ne.symm ne_r42_r65) (Value.ref.inj q)) (by decide) (by decide) k) ?_
      show OwnEnds _ _ _ _ _ _ _ (T65.setTop (mkF m 122 #[.val (.int p0), .val (.int p1), .val (.int (5 : Int32)), .val (.ref w_COUNTER), .val (.int (1 : Int32)), .val (.ref r42), .val (.int (3 : Int32)), .val (.ref r65)] []))
      refine ogo (fun t k => XS.aload X65.here hx rfl (hb hby at_122) rfl rfl k) ?_
      show OwnEnds _ _ _ _ _ _ _ (T65.setTop (mkF m 124 #[.val (.int p0), .val (.int p1), .val (.int (5 : Int32)), .val (.ref w_COUNTER), .val (.int (1 : Int32)), .val (.ref r42), .val (.int (3 : Int32)), .val (.ref r65)] [(.ref r65)]))
      obtain ⟨v68, _, ⟨T68, L68, k68, n68⟩, -, X68, ⟨Lc68, hQ68, l68, y68, z68⟩, st68⟩ := Jvm.LawKit.callS X65 hx (y := (⟨"com/example/opaque_token/opaquetoken/token/ObjectTypeInitialValuePinLaw", "fourZeros", "([B)Z"⟩ : MethodName)) hown (mvT hZ (hw _ (List.mem_of_getElem? (i := 19) rfl))) (mvT hZ (hw _ (List.mem_of_getElem? (i := 20) rfl))) (mvT hZ (hw _ (List.mem_of_getElem? (i := 3) rfl))) (mvT hZ (hw _ (List.mem_of_getElem? (i := 21) rfl))) (by decide) (backOf (W := 0) (rm3 l Z a0 hw [] r65 T65.heap n0 Z67 Vq65) hZ (hw _ (List.mem_of_getElem? (i := 21) rfl)) (hw _ (List.mem_of_getElem? (i := 3) rfl)) (by decide) (by decide)) (g := (mkF m 124 #[.val (.int p0), .val (.int p1), .val (.int (5 : Int32)), .val (.ref w_COUNTER), .val (.int (1 : Int32)), .val (.ref r42), .val (.int (3 : Int32)), .val (.ref r65)] [(.ref r65)])) rfl (by rw [hml]; rfl) (argsL := [(.ref r65)]) (rest := []) (lenOf pd___B_Z rfl) rfl (by show 2 * 0 + _ ≤ _; exact Nat.le_of_eq rfl) (hb hby at_124) (fun _ _ => ⟨rfl, rfl, (by decide : 2 + 0 ≤ _), (by decide : 8 + 0 ≤ _)⟩)
      dsimp only [Pt.U, Pt.locs, Pt.cells, Pt.slots] at X68 l68 y68 z68 st68 hQ68
      subst l68 y68 z68
      obtain ⟨rfl, N68q, e68⟩ := hQ68
      have N68 := Fr.app N65 N68q
      refine ogo (fun t k => st68 t k) ?_
      show OwnEnds _ _ _ _ _ _ _ (T68.setTop (mkF m 127 #[.val (.int p0), .val (.int p1), .val (.int (5 : Int32)), .val (.ref w_COUNTER), .val (.int (1 : Int32)), .val (.ref r42), .val (.int (3 : Int32)), .val (.ref r65)] [(.int (1 : Int32))]))
      refine endZ X68 hx hlk Bd.returns rfl (hb hby at_127) (by decide) (by decide) ?_
      show Q0 Z p0 p1 w_INPUT_DATA w_COUNTER w_CLOCK_OFFSET w_MODULUS w_OUTPUT_DATA w_RANDOM_FILL w_EXPONENT w_CONFIGURATION w_ROM_DATA h0 n0 _ T68.heap _
      rw [e68]
      exact ⟨rfl, N68⟩
  · show OwnEnds _ _ _ _ _ _ _ (s₁.setTop (mkF m 7 #[.val (.int p0), .val (.int p1), .unset, .unset, .unset, .unset, .unset, .unset] [(.int (6 : Int32))]))
    refine ogo (fun t k => XS.istoreN X0.here hx rfl (hb hby at_7) rfl (l' := #[.val (.int p0), .val (.int p1), .val (.int (6 : Int32)), .unset, .unset, .unset, .unset, .unset]) rfl k) ?_
    show OwnEnds _ _ _ _ _ _ _ (s₁.setTop (mkF m 8 #[.val (.int p0), .val (.int p1), .val (.int (6 : Int32)), .unset, .unset, .unset, .unset, .unset] []))
    refine ogo (fun t k => XS.iloadN X0.here hx rfl (hb hby at_8) rfl k) ?_
    show OwnEnds _ _ _ _ _ _ _ (s₁.setTop (mkF m 9 #[.val (.int p0), .val (.int p1), .val (.int (6 : Int32)), .unset, .unset, .unset, .unset, .unset] [(.int (6 : Int32))]))
    obtain ⟨v69, _, ⟨T69, L69, k69, n69⟩, -, X69, ⟨Lc69, hQ69, l69, y69, z69⟩, st69⟩ := Jvm.LawKit.callS X0 hx (y := (⟨"com/example/opaque_token/opaquetoken/token/ObjectTypeInitialValuePinLaw", "pick", "(I)Lcom/example/opaque_token/opaquetoken/token/ObjectType;"⟩ : MethodName)) hown (mvT hZ (hw _ (List.mem_of_getElem? (i := 1) rfl))) (mvT hZ (hw _ (List.mem_of_getElem? (i := 2) rfl))) (mvT hZ (hw _ (List.mem_of_getElem? (i := 3) rfl))) (mvT hZ (hw _ (List.mem_of_getElem? (i := 4) rfl))) (by decide) (backOf (W := 0) (rm1 l Z a0 hw [] (6 : Int32) w_INPUT_DATA w_OUTPUT_DATA w_CONFIGURATION w_EXPONENT w_MODULUS w_COUNTER w_CLOCK_OFFSET w_ROM_DATA w_RANDOM_FILL h0 n0 Z0 OLD S_INPUT_DATA S_OUTPUT_DATA S_CONFIGURATION S_EXPONENT S_MODULUS S_COUNTER S_CLOCK_OFFSET S_ROM_DATA S_RANDOM_FILL) hZ (hw _ (List.mem_of_getElem? (i := 4) rfl)) (hw _ (List.mem_of_getElem? (i := 3) rfl)) (by decide) (by decide)) (g := (mkF m 9 #[.val (.int p0), .val (.int p1), .val (.int (6 : Int32)), .unset, .unset, .unset, .unset, .unset] [(.int (6 : Int32))])) rfl (by rw [hml]; rfl) (argsL := [(.int (6 : Int32))]) (rest := []) (lenOf pd_e6b9a279 rfl) rfl (by show 2 * 0 + _ ≤ _; exact Nat.le_of_eq rfl) (hb hby at_9) (fun _ _ => ⟨rfl, e0, (by decide : 0 + 0 ≤ _), (by decide : 0 + 0 ≤ _)⟩)
    dsimp only [Pt.U, Pt.locs, Pt.cells, Pt.slots] at X69 l69 y69 z69 st69 hQ69
    subst l69 y69 z69
    obtain ⟨hv69, N69q, e69⟩ := hQ69
    obtain rfl : v69 = some (.ref w_CLOCK_OFFSET) := hv69.trans (by simp [own_pick])
    have N69 := Fr.app N0 N69q
    refine ogo (fun t k => st69 t k) ?_
    show OwnEnds _ _ _ _ _ _ _ (T69.setTop (mkF m 12 #[.val (.int p0), .val (.int p1), .val (.int (6 : Int32)), .unset, .unset, .unset, .unset, .unset] [(.ref w_CLOCK_OFFSET)]))
    refine ogo (fun t k => XS.astoreN X69.here hx rfl (hb hby at_12) rfl rfl (l' := #[.val (.int p0), .val (.int p1), .val (.int (6 : Int32)), .val (.ref w_CLOCK_OFFSET), .unset, .unset, .unset, .unset]) rfl k) ?_
    show OwnEnds _ _ _ _ _ _ _ (T69.setTop (mkF m 13 #[.val (.int p0), .val (.int p1), .val (.int (6 : Int32)), .val (.ref w_CLOCK_OFFSET), .unset, .unset, .unset, .unset] []))
    refine ogo (fun t k => XS.iloadN X69.here hx rfl (hb hby at_13) rfl k) ?_
    show OwnEnds _ _ _ _ _ _ _ (T69.setTop (mkF m 14 #[.val (.int p0), .val (.int p1), .val (.int (6 : Int32)), .val (.ref w_CLOCK_OFFSET), .unset, .unset, .unset, .unset] [(.int (6 : Int32))]))
    refine ogo (fun t k => XS.iconst X69.here hx rfl (hb hby at_14) k) ?_
    show OwnEnds _ _ _ _ _ _ _ (T69.setTop (mkF m 15 #[.val (.int p0), .val (.int p1), .val (.int (6 : Int32)), .val (.ref w_CLOCK_OFFSET), .unset, .unset, .unset, .unset] [(.int (5 : Int32)), (.int (6 : Int32))]))
    refine ogo (fun t k => XS.icmpNo X69.here hx rfl (hb hby at_15) rfl (feq (by decide : ¬ ((6 : Int32) = (5 : Int32)))).1 k) ?_
    show OwnEnds _ _ _ _ _ _ _ (T69.setTop (mkF m 18 #[.val (.int p0), .val (.int p1), .val (.int (6 : Int32)), .val (.ref w_CLOCK_OFFSET), .unset, .unset, .unset, .unset] []))
    refine ogo (fun t k => XS.iloadN X69.here hx rfl (hb hby at_18) rfl k) ?_
    show OwnEnds _ _ _ _ _ _ _ (T69.setTop (mkF m 19 #[.val (.int p0), .val (.int p1), .val (.int (6 : Int32)), .val (.ref w_CLOCK_OFFSET), .unset, .unset, .unset, .unset] [(.int (6 : Int32))]))
    refine ogo (fun t k => XS.bipush X69.here hx rfl (hb hby at_19) k) ?_
    show OwnEnds _ _ _ _ _ _ _ (T69.setTop (mkF m 21 #[.val (.int p0), .val (.int p1), .val (.int (6 : Int32)), .val (.ref w_CLOCK_OFFSET), .unset, .unset, .unset, .unset] [(.int (6 : Int32)), (.int (6 : Int32))]))
    refine ogo (fun t k => XS.icmpNo X69.here hx rfl (hb hby at_21) rfl (teq (by decide : (6 : Int32) = (6 : Int32))).2 k) ?_
    show OwnEnds _ _ _ _ _ _ _ (T69.setTop (mkF m 24 #[.val (.int p0), .val (.int p1), .val (.int (6 : Int32)), .val (.ref w_CLOCK_OFFSET), .unset, .unset, .unset, .unset] []))
    refine ogo (fun t k => XS.iconst X69.here hx rfl (hb hby at_24) k) ?_
    show OwnEnds _ _ _ _ _ _ _ (T69.setTop (mkF m 25 #[.val (.int p0), .val (.int p1), .val (.int (6 : Int32)), .val (.ref w_CLOCK_OFFSET), .unset, .unset, .unset, .unset] [(.int (1 : Int32))]))
    refine ogo (fun t k => XS.goto X69.here hx rfl (pc0 := 25) (pc' := 29) rfl (hb hby at_25) (by decide) (by decide) k) ?_
    show OwnEnds _ _ _ _ _ _ _ (T69.setTop (mkF m 29 #[.val (.int p0), .val (.int p1), .val (.int (6 : Int32)), .val (.ref w_CLOCK_OFFSET), .unset, .unset, .unset, .unset] [(.int (1 : Int32))]))
    refine ogo (fun t k => XS.istore X69.here hx rfl (hb hby at_29) rfl (l' := #[.val (.int p0), .val (.int p1), .val (.int (6 : Int32)), .val (.ref w_CLOCK_OFFSET), .val (.int (1 : Int32)), .unset, .unset, .unset]) rfl k) ?_
    show OwnEnds _ _ _ _ _ _ _ (T69.setTop (mkF m 31 #[.val (.int p0), .val (.int p1), .val (.int (6 : Int32)), .val (.ref w_CLOCK_OFFSET), .val (.int (1 : Int32)), .unset, .unset, .unset] []))
    refine ogo (fun t k => XS.aloadN X69.here hx rfl (hb hby at_31) rfl rfl k) ?_
    show OwnEnds _ _ _ _ _ _ _ (T69.setTop (mkF m 32 #[.val (.int p0), .val (.int p1), .val (.int (6 : Int32)), .val (.ref w_CLOCK_OFFSET), .val (.int (1 : Int32)), .unset, .unset, .unset] [(.ref w_CLOCK_OFFSET)]))
    obtain ⟨cq70, kq70, q70a, q70b, q70c⟩ := isOf hZ e69 (E_CLOCK_OFFSET.ext OLD.2)
    obtain ⟨v70, _, ⟨T70, L70, k70, n70⟩, -, X70, ⟨Lc70, hQ70, l70, y70, z70⟩, st70⟩ := X69.virtualBack hx (y := (⟨"com/example/opaque_token/opaquetoken/token/ObjectType", "initialValue", "()[B"⟩ : MethodName)) (z := (⟨"com/example/opaque_token/opaquetoken/token/ObjectType", "initialValue", "()[B"⟩ : MethodName)) hown (mvT hZ (hw _ (List.mem_of_getElem? (i := 8) rfl))) (mvT hZ (hw _ (List.mem_of_getElem? (i := 9) rfl))) (notFace_of_selects (args := #[]) (mvT hZ (hw _ (List.mem_of_getElem? (i := 11) rfl)))) (mvT hZ (hw _ (List.mem_of_getElem? (i := 11) rfl))) (mvT hZ (hw _ (List.mem_of_getElem? (i := 10) rfl))) (by decide) (backOf (W := 0) (rm2 l Z a0 hw [] w_CLOCK_OFFSET w_COUNTER w_CLOCK_OFFSET h0 n0 Z0 OLD S_COUNTER S_CLOCK_OFFSET) hZ (hw _ (List.mem_of_getElem? (i := 12) rfl)) (hw _ (List.mem_of_getElem? (i := 6) rfl)) (by decide) (by decide)) q70a q70c (g := (mkF m 32 #[.val (.int p0), .val (.int p1), .val (.int (6 : Int32)), .val (.ref w_CLOCK_OFFSET), .val (.int (1 : Int32)), .unset, .unset, .unset] [(.ref w_CLOCK_OFFSET)])) rfl (by rw [hml]; rfl) (Steps.refl _) (argsL := []) (rest := []) (lenOf pd____B rfl) rfl (by show 2 * 0 + _ ≤ _; exact Nat.le_of_eq rfl) (hb hby at_32) (fun _ _ => ⟨rfl, e69, (by decide : 0 + 1 ≤ _), (by decide : 0 + 4 ≤ _)⟩)
    dsimp only [Pt.U, Pt.locs, Pt.cells, Pt.slots] at X70 l70 y70 z70 st70 hQ70
    subst l70 y70 z70
    obtain ⟨r70, rfl, Sq70, N70q, Kq70, Dq70⟩ := hQ70
    have N70 := Fr.app N69 N70q
    have q_r70 : n0 ≤ r70 := Nat.le_trans Z0 Sq70
    have sz_r70 : h0.size ≤ r70 := Nat.le_trans (Keep.refl h0 []).1 Sq70
    have OLD71 := OLD.keep Kq70 all0
    have K71 := (Keep.refl h0 []).trans Kq70 all0
    have Z71 := Nat.le_trans Z0 Kq70.1
    have Vq70 : Av Z T70.heap r70 .byte (4 : Int32) [(.int (0 : Int32)), (.int (0 : Int32)), (.int (0 : Int32)), (.int (0 : Int32))] (.int (0 : Int32)) := by
      rcases Dq70 with ⟨-, q⟩ | ⟨q1, q2, -⟩
      · exact q
      · exact absurd rfl q2
    refine ogo (fun t k => st70.trans k) ?_
    show OwnEnds _ _ _ _ _ _ _ (T70.setTop (mkF m 35 #[.val (.int p0), .val (.int p1), .val (.int (6 : Int32)), .val (.ref w_CLOCK_OFFSET), .val (.int (1 : Int32)), .unset, .unset, .unset] [(.ref r70)]))
    refine ogo (fun t k => XS.astore X70.here hx rfl (hb hby at_35) rfl rfl (l' := #[.val (.int p0), .val (.int p1), .val (.int (6 : Int32)), .val (.ref w_CLOCK_OFFSET), .val (.int (1 : Int32)), .val (.ref r70), .unset, .unset]) rfl k) ?_
    show OwnEnds _ _ _ _ _ _ _ (T70.setTop (mkF m 37 #[.val (.int p0), .val (.int p1), .val (.int (6 : Int32)), .val (.ref w_CLOCK_OFFSET), .val (.int (1 : Int32)), .val (.ref r70), .unset, .unset] []))
    refine ogo (fun t k => XS.aload X70.here hx rfl (hb hby at_37) rfl rfl k) ?_
    show OwnEnds _ _ _ _ _ _ _ (T70.setTop (mkF m 39 #[.val (.int p0), .val (.int p1), .val (.int (6 : Int32)), .val (.ref w_CLOCK_OFFSET), .val (.int (1 : Int32)), .val (.ref r70), .unset, .unset] [(.ref r70)]))
    refine ogo (fun t k => XS.ifnonnullYes X70.here hx rfl (pc0 := 39) (pc' := 44) rfl (hb hby at_39) rfl (by decide) (by decide) k) ?_
    show OwnEnds _ _ _ _ _ _ _ (T70.setTop (mkF m 44 #[.val (.int p0), .val (.int p1), .val (.int (6 : Int32)), .val (.ref w_CLOCK_OFFSET), .val (.int (1 : Int32)), .val (.ref r70), .unset, .unset] []))
    refine ogo (fun t k => XS.iload X70.here hx rfl (hb hby at_44) rfl k) ?_
    show OwnEnds _ _ _ _ _ _ _ (T70.setTop (mkF m 46 #[.val (.int p0), .val (.int p1), .val (.int (6 : Int32)), .val (.ref w_CLOCK_OFFSET), .val (.int (1 : Int32)), .val (.ref r70), .unset, .unset] [(.int (1 : Int32))]))
    refine ogo (fun t k => XS.ifYes X70.here hx rfl (pc0 := 46) (pc' := 80) rfl (hb hby at_46) rfl ((if0 _ _).trans (feq (by decide : ¬ ((1 : Int32) = (0 : Int32)))).2) (by decide) (by decide) k) ?_
    show OwnEnds _ _ _ _ _ _ _ (T70.setTop (mkF m 80 #[.val (.int p0), .val (.int p1), .val (.int (6 : Int32)), .val (.ref w_CLOCK_OFFSET), .val (.int (1 : Int32)), .val (.ref r70), .unset, .unset] []))
    refine ogo (fun t k => XS.aload X70.here hx rfl (hb hby at_80) rfl rfl k) ?_
    show OwnEnds _ _ _ _ _ _ _ (T70.setTop (mkF m 82 #[.val (.int p0), .val (.int p1), .val (.int (6 : Int32)), .val (.ref w_CLOCK_OFFSET), .val (.int (1 : Int32)), .val (.ref r70), .unset, .unset] [(.ref r70)]))
    obtain ⟨v72, _, ⟨T72, L72, k72, n72⟩, -, X72, ⟨Lc72, hQ72, l72, y72, z72⟩, st72⟩ := Jvm.LawKit.callS X70 hx (y := (⟨"com/example/opaque_token/opaquetoken/token/ObjectTypeInitialValuePinLaw", "fourZeros", "([B)Z"⟩ : MethodName)) hown (mvT hZ (hw _ (List.mem_of_getElem? (i := 19) rfl))) (mvT hZ (hw _ (List.mem_of_getElem? (i := 20) rfl))) (mvT hZ (hw _ (List.mem_of_getElem? (i := 3) rfl))) (mvT hZ (hw _ (List.mem_of_getElem? (i := 21) rfl))) (by decide) (backOf (W := 0) (rm3 l Z a0 hw [] r70 T70.heap n0 Z71 Vq70) hZ (hw _ (List.mem_of_getElem? (i := 21) rfl)) (hw _ (List.mem_of_getElem? (i := 3) rfl)) (by decide) (by decide)) (g := (mkF m 82 #[.val (.int p0), .val (.int p1), .val (.int (6 : Int32)), .val (.ref w_CLOCK_OFFSET), .val (.int (1 : Int32)), .val (.ref r70), .unset, .unset] [(.ref r70)])) rfl (by rw [hml]; rfl) (argsL := [(.ref r70)]) (rest := []) (lenOf pd___B_Z rfl) rfl (by show 2 * 0 + _ ≤ _; exact Nat.le_of_eq rfl) (hb hby at_82) (fun _ _ => ⟨rfl, rfl, (by decide : 1 + 0 ≤ _), (by decide : 4 + 0 ≤ _)⟩)
    dsimp only [Pt.U, Pt.locs, Pt.cells, Pt.slots] at X72 l72 y72 z72 st72 hQ72
    subst l72 y72 z72
    obtain ⟨rfl, N72q, e72⟩ := hQ72
    have N72 := Fr.app N70 N72q
    refine ogo (fun t k => st72 t k) ?_
    show OwnEnds _ _ _ _ _ _ _ (T72.setTop (mkF m 85 #[.val (.int p0), .val (.int p1), .val (.int (6 : Int32)), .val (.ref w_CLOCK_OFFSET), .val (.int (1 : Int32)), .val (.ref r70), .unset, .unset] [(.int (1 : Int32))]))
    refine ogo (fun t k => XS.ifYes X72.here hx rfl (pc0 := 85) (pc' := 90) rfl (hb hby at_85) rfl ((if0 _ _).trans (feq (by decide : ¬ ((1 : Int32) = (0 : Int32)))).2) (by decide) (by decide) k) ?_
    show OwnEnds _ _ _ _ _ _ _ (T72.setTop (mkF m 90 #[.val (.int p0), .val (.int p1), .val (.int (6 : Int32)), .val (.ref w_CLOCK_OFFSET), .val (.int (1 : Int32)), .val (.ref r70), .unset, .unset] []))
    refine ogo (fun t k => XS.iloadN X72.here hx rfl (hb hby at_90) rfl k) ?_
    show OwnEnds _ _ _ _ _ _ _ (T72.setTop (mkF m 91 #[.val (.int p0), .val (.int p1), .val (.int (6 : Int32)), .val (.ref w_CLOCK_OFFSET), .val (.int (1 : Int32)), .val (.ref r70), .unset, .unset] [(.int p1)]))
    refine ogo (fun t k => XS.bipush X72.here hx rfl (hb hby at_91) k) ?_
    show OwnEnds _ _ _ _ _ _ _ (T72.setTop (mkF m 93 #[.val (.int p0), .val (.int p1), .val (.int (6 : Int32)), .val (.ref w_CLOCK_OFFSET), .val (.int (1 : Int32)), .val (.ref r70), .unset, .unset] [(.int (8 : Int32)), (.int p1)]))
    refine ogo (fun t k => XS.iushr X72.here hx rfl (hb hby at_93) rfl k) ?_
    show OwnEnds _ _ _ _ _ _ _ (T72.setTop (mkF m 94 #[.val (.int p0), .val (.int p1), .val (.int (6 : Int32)), .val (.ref w_CLOCK_OFFSET), .val (.int (1 : Int32)), .val (.ref r70), .unset, .unset] [(.int ((p1.toUInt32 >>> ((8 : Int32) &&& 31).toUInt32).toInt32))]))
    refine ogo (fun t k => XS.iconst X72.here hx rfl (hb hby at_94) k) ?_
    show OwnEnds _ _ _ _ _ _ _ (T72.setTop (mkF m 95 #[.val (.int p0), .val (.int p1), .val (.int (6 : Int32)), .val (.ref w_CLOCK_OFFSET), .val (.int (1 : Int32)), .val (.ref r70), .unset, .unset] [(.int (3 : Int32)), (.int ((p1.toUInt32 >>> ((8 : Int32) &&& 31).toUInt32).toInt32))]))
    refine ogo (fun t k => XS.iand X72.here hx rfl (hb hby at_95) rfl k) ?_
    generalize hj : (((p1.toUInt32 >>> ((8 : Int32) &&& 31).toUInt32).toInt32) &&& (3 : Int32)) = j
    rcases own_case4 (hj ▸ own_and3 _) with rfl | rfl | rfl | rfl
    · show OwnEnds _ _ _ _ _ _ _ (T72.setTop (mkF m 96 #[.val (.int p0), .val (.int p1), .val (.int (6 : Int32)), .val (.ref w_CLOCK_OFFSET), .val (.int (1 : Int32)), .val (.ref r70), .unset, .unset] [(.int (0 : Int32))]))
      refine ogo (fun t k => XS.istore X72.here hx rfl (hb hby at_96) rfl (l' := #[.val (.int p0), .val (.int p1), .val (.int (6 : Int32)), .val (.ref w_CLOCK_OFFSET), .val (.int (1 : Int32)), .val (.ref r70), .val (.int (0 : Int32)), .unset]) rfl k) ?_
      show OwnEnds _ _ _ _ _ _ _ (T72.setTop (mkF m 98 #[.val (.int p0), .val (.int p1), .val (.int (6 : Int32)), .val (.ref w_CLOCK_OFFSET), .val (.int (1 : Int32)), .val (.ref r70), .val (.int (0 : Int32)), .unset] []))
      refine ogo (fun t k => XS.aload X72.here hx rfl (hb hby at_98) rfl rfl k) ?_
      show OwnEnds _ _ _ _ _ _ _ (T72.setTop (mkF m 100 #[.val (.int p0), .val (.int p1), .val (.int (6 : Int32)), .val (.ref w_CLOCK_OFFSET), .val (.int (1 : Int32)), .val (.ref r70), .val (.int (0 : Int32)), .unset] [(.ref r70)]))
      refine ogo (fun t k => XS.iload X72.here hx rfl (hb hby at_100) rfl k) ?_
      show OwnEnds _ _ _ _ _ _ _ (T72.setTop (mkF m 102 #[.val (.int p0), .val (.int p1), .val (.int (6 : Int32)), .val (.ref w_CLOCK_OFFSET), .val (.int (1 : Int32)), .val (.ref r70), .val (.int (0 : Int32)), .unset] [(.int (0 : Int32)), (.ref r70)]))
      refine ogo (fun t k => XS.iloadN X72.here hx rfl (hb hby at_102) rfl k) ?_
      show OwnEnds _ _ _ _ _ _ _ (T72.setTop (mkF m 103 #[.val (.int p0), .val (.int p1), .val (.int (6 : Int32)), .val (.ref w_CLOCK_OFFSET), .val (.int (1 : Int32)), .val (.ref r70), .val (.int (0 : Int32)), .unset] [(.int p1), (.int (0 : Int32)), (.ref r70)]))
      refine ogo (fun t k => XS.iconst X72.here hx rfl (hb hby at_103) k) ?_
      show OwnEnds _ _ _ _ _ _ _ (T72.setTop (mkF m 104 #[.val (.int p0), .val (.int p1), .val (.int (6 : Int32)), .val (.ref w_CLOCK_OFFSET), .val (.int (1 : Int32)), .val (.ref r70), .val (.int (0 : Int32)), .unset] [(.int (1 : Int32)), (.int p1), (.int (0 : Int32)), (.ref r70)]))
      refine ogo (fun t k => XS.ior X72.here hx rfl (hb hby at_104) rfl k) ?_
      show OwnEnds _ _ _ _ _ _ _ (T72.setTop (mkF m 105 #[.val (.int p0), .val (.int p1), .val (.int (6 : Int32)), .val (.ref w_CLOCK_OFFSET), .val (.int (1 : Int32)), .val (.ref r70), .val (.int (0 : Int32)), .unset] [(.int (p1 ||| (1 : Int32))), (.int (0 : Int32)), (.ref r70)]))
      refine ogo (fun t k => XS.i2b X72.here hx rfl (hb hby at_105) rfl k) ?_
      show OwnEnds _ _ _ _ _ _ _ (T72.setTop (mkF m 106 #[.val (.int p0), .val (.int p1), .val (.int (6 : Int32)), .val (.ref w_CLOCK_OFFSET), .val (.int (1 : Int32)), .val (.ref r70), .val (.int (0 : Int32)), .unset] [(.int ((p1 ||| (1 : Int32)).toInt8.toInt32)), (.int (0 : Int32)), (.ref r70)]))
      obtain ⟨ak73, cl73, Ar73, Aq73, As73, An73, Ah73, Ag73⟩ := id Vq70
      obtain ⟨T73, h73, X73, e73, W73, st73⟩ := stB X72 hx hZ e72 Ar73 (j := (0 : Int32)) (inb_of As73 ⟨by decide, by decide⟩) (g := (mkF m 106 #[.val (.int p0), .val (.int p1), .val (.int (6 : Int32)), .val (.ref w_CLOCK_OFFSET), .val (.int (1 : Int32)), .val (.ref r70), .val (.int (0 : Int32)), .unset] [(.int ((p1 ||| (1 : Int32)).toInt8.toInt32)), (.int (0 : Int32)), (.ref r70)])) rfl rfl (hb hby at_106)
      rw [own_narb] at W73
      have V73 : Arv Z h73 r70 ak73 .byte (4 : Int32) [(.int ((p1 ||| (1 : Int32)).toInt8.toInt32)), (.int (0 : Int32)), (.int (0 : Int32)), (.int (0 : Int32))] (.int (0 : Int32)) := Arv.set Ar73 Aq73 As73 An73 Ah73 Ag73 (fits_nar_byte _) W73 0 rfl (Nat.le_of_ble_eq_true rfl)
      have N74 := Fr.snoc X73 N72 q_r70
      have OLD74 := OLD71.wr W73 q_r70
      have K74 := K71.wr W73 (Or.inr sz_r70)
      have Z74 := Nat.le_trans Z71 (Nat.le_of_eq W73.size.symm)
      refine ogo st73 ?_
      show OwnEnds _ _ _ _ _ _ _ (T73.setTop (mkF m 107 #[.val (.int p0), .val (.int p1), .val (.int (6 : Int32)), .val (.ref w_CLOCK_OFFSET), .val (.int (1 : Int32)), .val (.ref r70), .val (.int (0 : Int32)), .unset] []))
      refine ogo (fun t k => XS.aloadN X73.here hx rfl (hb hby at_107) rfl rfl k) ?_
      show OwnEnds _ _ _ _ _ _ _ (T73.setTop (mkF m 108 #[.val (.int p0), .val (.int p1), .val (.int (6 : Int32)), .val (.ref w_CLOCK_OFFSET), .val (.int (1 : Int32)), .val (.ref r70), .val (.int (0 : Int32)), .unset] [(.ref w_CLOCK_OFFSET)]))
      obtain ⟨cq75, kq75, q75a, q75b, q75c⟩ := isOf hZ e73 (E_CLOCK_OFFSET.ext OLD74.2)
      obtain ⟨v75, _, ⟨T75, L75, k75, n75⟩, -, X75, ⟨Lc75, hQ75, l75, y75, z75⟩, st75⟩ := X73.virtualBack hx (y := (⟨"com/example/opaque_token/opaquetoken/token/ObjectType", "initialValue", "()[B"⟩ : MethodName)) (z := (⟨"com/example/opaque_token/opaquetoken/token/ObjectType", "initialValue", "()[B"⟩ : MethodName)) hown (mvT hZ (hw _ (List.mem_of_getElem? (i := 8) rfl))) (mvT hZ (hw _ (List.mem_of_getElem? (i := 9) rfl))) (notFace_of_selects (args := #[]) (mvT hZ (hw _ (List.mem_of_getElem? (i := 11) rfl)))) (mvT hZ (hw _ (List.mem_of_getElem? (i := 11) rfl))) (mvT hZ (hw _ (List.mem_of_getElem? (i := 10) rfl))) (by decide) (backOf (W := 0) (rm2 l Z a0 hw [] w_CLOCK_OFFSET w_COUNTER w_CLOCK_OFFSET h73 n0 Z74 OLD74 S_COUNTER S_CLOCK_OFFSET) hZ (hw _ (List.mem_of_getElem? (i := 12) rfl)) (hw _ (List.mem_of_getElem? (i := 6) rfl)) (by decide) (by decide)) q75a q75c (g := (mkF m 108 #[.val (.int p0), .val (.int p1), .val (.int (6 : Int32)), .val (.ref w_CLOCK_OFFSET), .val (.int (1 : Int32)), .val (.ref r70), .val (.int (0 : Int32)), .unset] [(.ref w_CLOCK_OFFSET)])) rfl (by rw [hml]; rfl) (Steps.refl _) (argsL := []) (rest := []) (lenOf pd____B rfl) rfl (by show 2 * 0 + _ ≤ _; exact Nat.le_of_eq rfl) (hb hby at_108) (fun _ _ => ⟨rfl, e73, (by decide : 1 + 1 ≤ _), (by decide : 4 + 4 ≤ _)⟩)
      dsimp only [Pt.U, Pt.locs, Pt.cells, Pt.slots] at X75 l75 y75 z75 st75 hQ75
      subst l75 y75 z75
      obtain ⟨r75, rfl, Sq75, N75q, Kq75, Dq75⟩ := hQ75
      have N75 := Fr.app N74 N75q
      have ne_r70_r75 : r70 ≠ r75 := Nat.ne_of_lt (Nat.lt_of_lt_of_le (V73).lt Sq75)
      have q_r75 : n0 ≤ r75 := Nat.le_trans Z74 Sq75
      have sz_r75 : h0.size ≤ r75 := Nat.le_trans K74.1 Sq75
      have f76 := V73.keep Kq75 nin0
      have OLD77 := OLD74.keep Kq75 all0
      have K77 := K74.trans Kq75 all0
      have Z77 := Nat.le_trans Z74 Kq75.1
      have Vq75 : Av Z T75.heap r75 .byte (4 : Int32) [(.int (0 : Int32)), (.int (0 : Int32)), (.int (0 : Int32)), (.int (0 : Int32))] (.int (0 : Int32)) := by
        rcases Dq75 with ⟨-, q⟩ | ⟨q1, q2, -⟩
        · exact q
        · exact absurd rfl q2
      refine ogo (fun t k => st75.trans k) ?_
      show OwnEnds _ _ _ _ _ _ _ (T75.setTop (mkF m 111 #[.val (.int p0), .val (.int p1), .val (.int (6 : Int32)), .val (.ref w_CLOCK_OFFSET), .val (.int (1 : Int32)), .val (.ref r70), .val (.int (0 : Int32)), .unset] [(.ref r75)]))
      refine ogo (fun t k => XS.astore X75.here hx rfl (hb hby at_111) rfl rfl (l' := #[.val (.int p0), .val (.int p1), .val (.int (6 : Int32)), .val (.ref w_CLOCK_OFFSET), .val (.int (1 : Int32)), .val (.ref r70), .val (.int (0 : Int32)), .val (.ref r75)]) rfl k) ?_
      show OwnEnds _ _ _ _ _ _ _ (T75.setTop (mkF m 113 #[.val (.int p0), .val (.int p1), .val (.int (6 : Int32)), .val (.ref w_CLOCK_OFFSET), .val (.int (1 : Int32)), .val (.ref r70), .val (.int (0 : Int32)), .val (.ref r75)] []))
      refine ogo (fun t k => XS.aload X75.here hx rfl (hb hby at_113) rfl rfl k) ?_
      show OwnEnds _ _ _ _ _ _ _ (T75.setTop (mkF m 115 #[.val (.int p0), .val (.int p1), .val (.int (6 : Int32)), .val (.ref w_CLOCK_OFFSET), .val (.int (1 : Int32)), .val (.ref r70), .val (.int (0 : Int32)), .val (.ref r75)] [(.ref r75)]))
      refine ogo (fun t k => XS.aload X75.here hx rfl (hb hby at_115) rfl rfl k) ?_
      show OwnEnds _ _ _ _ _ _ _ (T75.setTop (mkF m 117 #[.val (.int p0), .val (.int p1), .val (.int (6 : Int32)), .val (.ref w_CLOCK_OFFSET), .val (.int (1 : Int32)), .val (.ref r70), .val (.int (0 : Int32)), .val (.ref r75)] [(.ref r70), (.ref r75)]))
      refine ogo (fun t k => Jvm.RoadKit.acmp (g := (mkF m 117 #[.val (.int p0), .val (.int p1), .val (.int (6 : Int32)), .val (.ref w_CLOCK_OFFSET), .val (.int (1 : Int32)), .val (.ref r70), .val (.int (0 : Int32)), .val (.ref r75)] [(.ref r70), (.ref r75)])) X75 hx rfl rfl rfl (pc0 := 117) (pc' := 122) (same := false) rfl (hb hby at_117) rfl (decide_eq_false fun q => (Ne.symm ne_r70_r75) (Value.ref.inj q)) (by decide) (by decide) k) ?_
      show OwnEnds _ _ _ _ _ _ _ (T75.setTop (mkF m 122 #[.val (.int p0), .val (.int p1), .val (.int (6 : Int32)), .val (.ref w_CLOCK_OFFSET), .val (.int (1 : Int32)), .val (.ref r70), .val (.int (0 : Int32)), .val (.ref r75)] []))
      refine ogo (fun t k => XS.aload X75.here hx rfl (hb hby at_122) rfl rfl k) ?_
      show OwnEnds _ _ _ _ _ _ _ (T75.setTop (mkF m 124 #[.val (.int p0), .val (.int p1), .val (.int (6 : Int32)), .val (.ref w_CLOCK_OFFSET), .val (.int (1 : Int32)), .val (.ref r70), .val (.int (0 : Int32)), .val (.ref r75)] [(.ref r75)]))
      obtain ⟨v78, _, ⟨T78, L78, k78, n78⟩, -, X78, ⟨Lc78, hQ78, l78, y78, z78⟩, st78⟩ := Jvm.LawKit.callS X75 hx (y := (⟨"com/example/opaque_token/opaquetoken/token/ObjectTypeInitialValuePinLaw", "fourZeros", "([B)Z"⟩ : MethodName)) hown (mvT hZ (hw _ (List.mem_of_getElem? (i := 19) rfl))) (mvT hZ (hw _ (List.mem_of_getElem? (i := 20) rfl))) (mvT hZ (hw _ (List.mem_of_getElem? (i := 3) rfl))) (mvT hZ (hw _ (List.mem_of_getElem? (i := 21) rfl))) (by decide) (backOf (W := 0) (rm3 l Z a0 hw [] r75 T75.heap n0 Z77 Vq75) hZ (hw _ (List.mem_of_getElem? (i := 21) rfl)) (hw _ (List.mem_of_getElem? (i := 3) rfl)) (by decide) (by decide)) (g := (mkF m 124 #[.val (.int p0), .val (.int p1), .val (.int (6 : Int32)), .val (.ref w_CLOCK_OFFSET), .val (.int (1 : Int32)), .val (.ref r70), .val (.int (0 : Int32)), .val (.ref r75)] [(.ref r75)])) rfl (by rw [hml]; rfl) (argsL := [(.ref r75)]) (rest := []) (lenOf pd___B_Z rfl) rfl (by show 2 * 0 + _ ≤ _; exact Nat.le_of_eq rfl) (hb hby at_124) (fun _ _ => ⟨rfl, rfl, (by decide : 2 + 0 ≤ _), (by decide : 8 + 0 ≤ _)⟩)
      dsimp only [Pt.U, Pt.locs, Pt.cells, Pt.slots] at X78 l78 y78 z78 st78 hQ78
      subst l78 y78 z78
      obtain ⟨rfl, N78q, e78⟩ := hQ78
      have N78 := Fr.app N75 N78q
      refine ogo (fun t k => st78 t k) ?_
      show OwnEnds _ _ _ _ _ _ _ (T78.setTop (mkF m 127 #[.val (.int p0), .val (.int p1), .val (.int (6 : Int32)), .val (.ref w_CLOCK_OFFSET), .val (.int (1 : Int32)), .val (.ref r70), .val (.int (0 : Int32)), .val (.ref r75)] [(.int (1 : Int32))]))
      refine endZ X78 hx hlk Bd.returns rfl (hb hby at_127) (by decide) (by decide) ?_
      show Q0 Z p0 p1 w_INPUT_DATA w_COUNTER w_CLOCK_OFFSET w_MODULUS w_OUTPUT_DATA w_RANDOM_FILL w_EXPONENT w_CONFIGURATION w_ROM_DATA h0 n0 _ T78.heap _
      rw [e78]
      exact ⟨rfl, N78⟩
    · show OwnEnds _ _ _ _ _ _ _ (T72.setTop (mkF m 96 #[.val (.int p0), .val (.int p1), .val (.int (6 : Int32)), .val (.ref w_CLOCK_OFFSET), .val (.int (1 : Int32)), .val (.ref r70), .unset, .unset] [(.int (1 : Int32))]))
      refine ogo (fun t k => XS.istore X72.here hx rfl (hb hby at_96) rfl (l' := #[.val (.int p0), .val (.int p1), .val (.int (6 : Int32)), .val (.ref w_CLOCK_OFFSET), .val (.int (1 : Int32)), .val (.ref r70), .val (.int (1 : Int32)), .unset]) rfl k) ?_
      show OwnEnds _ _ _ _ _ _ _ (T72.setTop (mkF m 98 #[.val (.int p0), .val (.int p1), .val (.int (6 : Int32)), .val (.ref w_CLOCK_OFFSET), .val (.int (1 : Int32)), .val (.ref r70), .val (.int (1 : Int32)), .unset] []))
      refine ogo (fun t k => XS.aload X72.here hx rfl (hb hby at_98) rfl rfl k) ?_
      show OwnEnds _ _ _ _ _ _ _ (T72.setTop (mkF m 100 #[.val (.int p0), .val (.int p1), .val (.int (6 : Int32)), .val (.ref w_CLOCK_OFFSET), .val (.int (1 : Int32)), .val (.ref r70), .val (.int (1 : Int32)), .unset] [(.ref r70)]))
      refine ogo (fun t k => XS.iload X72.here hx rfl (hb hby at_100) rfl k) ?_
      show OwnEnds _ _ _ _ _ _ _ (T72.setTop (mkF m 102 #[.val (.int p0), .val (.int p1), .val (.int (6 : Int32)), .val (.ref w_CLOCK_OFFSET), .val (.int (1 : Int32)), .val (.ref r70), .val (.int (1 : Int32)), .unset] [(.int (1 : Int32)), (.ref r70)]))
      refine ogo (fun t k => XS.iloadN X72.here hx rfl (hb hby at_102) rfl k) ?_
      show OwnEnds _ _ _ _ _ _ _ (T72.setTop (mkF m 103 #[.val (.int p0), .val (.int p1), .val (.int (6 : Int32)), .val (.ref w_CLOCK_OFFSET), .val (.int (1 : Int32)), .val (.ref r70), .val (.int (1 : Int32)), .unset] [(.int p1), (.int (1 : Int32)), (.ref r70)]))
      refine ogo (fun t k => XS.iconst X72.here hx rfl (hb hby at_103) k) ?_
      show OwnEnds _ _ _ _ _ _ _ (T72.setTop (mkF m 104 #[.val (.int p0), .val (.int p1), .val (.int (6 : Int32)), .val (.ref w_CLOCK_OFFSET), .val (.int (1 : Int32)), .val (.ref r70), .val (.int (1 : Int32)), .unset] [(.int (1 : Int32)), (.int p1), (.int (1 : Int32)), (.ref r70)]))
      refine ogo (fun t k => XS.ior X72.here hx rfl (hb hby at_104) rfl k) ?_
      show OwnEnds _ _ _ _ _ _ _ (T72.setTop (mkF m 105 #[.val (.int p0), .val (.int p1), .val (.int (6 : Int32)), .val (.ref w_CLOCK_OFFSET), .val (.int (1 : Int32)), .val (.ref r70), .val (.int (1 : Int32)), .unset] [(.int (p1 ||| (1 : Int32))), (.int (1 : Int32)), (.ref r70)]))
      refine ogo (fun t k => XS.i2b X72.here hx rfl (hb hby at_105) rfl k) ?_
      show OwnEnds _ _ _ _ _ _ _ (T72.setTop (mkF m 106 #[.val (.int p0), .val (.int p1), .val (.int (6 : Int32)), .val (.ref w_CLOCK_OFFSET), .val (.int (1 : Int32)), .val (.ref r70), .val (.int (1 : Int32)), .unset] [(.int ((p1 ||| (1 : Int32)).toInt8.toInt32)), (.int (1 : Int32)), (.ref r70)]))
      obtain ⟨ak79, cl79, Ar79, Aq79, As79, An79, Ah79, Ag79⟩ := id Vq70
      obtain ⟨T79, h79, X79, e79, W79, st79⟩ := stB X72 hx hZ e72 Ar79 (j := (1 : Int32)) (inb_of As79 ⟨by decide, by decide⟩) (g := (mkF m 106 #[.val (.int p0), .val (.int p1), .val (.int (6 : Int32)), .val (.ref w_CLOCK_OFFSET), .val (.int (1 : Int32)), .val (.ref r70), .val (.int (1 : Int32)), .unset] [(.int ((p1 ||| (1 : Int32)).toInt8.toInt32)), (.int (1 : Int32)), (.ref r70)])) rfl rfl (hb hby at_106)
      rw [own_narb] at W79
      have V79 : Arv Z h79 r70 ak79 .byte (4 : Int32) [(.int (0 : Int32)), (.int ((p1 ||| (1 : Int32)).toInt8.toInt32)), (.int (0 : Int32)), (.int (0 : Int32))] (.int (0 : Int32)) := Arv.set Ar79 Aq79 As79 An79 Ah79 Ag79 (fits_nar_byte _) W79 1 rfl (Nat.le_of_ble_eq_true rfl)
      have N80 := Fr.snoc X79 N72 q_r70
      have OLD80 := OLD71.wr W79 q_r70
      have K80 := K71.wr W79 (Or.inr sz_r70)
      have Z80 := Nat.le_trans Z71 (Nat.le_of_eq W79.size.symm)
      refine ogo st79 ?_
      show OwnEnds _ _ _ _ _ _ _ (T79.setTop (mkF m 107 #[.val (.int p0), .val (.int p1), .val (.int (6 : Int32)), .val (.ref w_CLOCK_OFFSET), .val (.int (1 : Int32)), .val (.ref r70), .val (.int (1 : Int32)), .unset] []))
      refine ogo (fun t k => XS.aloadN X79.here hx rfl (hb hby at_107) rfl rfl k) ?_
      show OwnEnds _ _ _ _ _ _ _ (T79.setTop (mkF m 108 #[.val (.int p0), .val (.int p1), .val (.int (6 : Int32)), .val (.ref w_CLOCK_OFFSET), .val (.int (1 : Int32)), .val (.ref r70), .val (.int (1 : Int32)), .unset] [(.ref w_CLOCK_OFFSET)]))
      obtain ⟨cq81, kq81, q81a, q81b, q81c⟩ := isOf hZ e79 (E_CLOCK_OFFSET.ext OLD80.2)
      obtain ⟨v81, _, ⟨T81, L81, k81, n81⟩, -, X81, ⟨Lc81, hQ81, l81, y81, z81⟩, st81⟩ := X79.virtualBack hx (y := (⟨"com/example/opaque_token/opaquetoken/token/ObjectType", "initialValue", "()[B"⟩ : MethodName)) (z := (⟨"com/example/opaque_token/opaquetoken/token/ObjectType", "initialValue", "()[B"⟩ : MethodName)) hown (mvT hZ (hw _ (List.mem_of_getElem? (i := 8) rfl))) (mvT hZ (hw _ (List.mem_of_getElem? (i := 9) rfl))) (notFace_of_selects (args := #[]) (mvT hZ (hw _ (List.mem_of_getElem? (i := 11) rfl)))) (mvT hZ (hw _ (List.mem_of_getElem? (i := 11) rfl))) (mvT hZ (hw _ (List.mem_of_getElem? (i := 10) rfl))) (by decide) (backOf (W := 0) (rm2 l Z a0 hw [] w_CLOCK_OFFSET w_COUNTER w_CLOCK_OFFSET h79 n0 Z80 OLD80 S_COUNTER S_CLOCK_OFFSET) hZ (hw _ (List.mem_of_getElem? (i := 12) rfl)) (hw _ (List.mem_of_getElem? (i := 6) rfl)) (by decide) (by decide)) q81a q81c (g := (mkF m 108 #[.val (.int p0), .val (.int p1), .val (.int (6 : Int32)), .val (.ref w_CLOCK_OFFSET), .val (.int (1 : Int32)), .val (.ref r70), .val (.int (1 : Int32)), .unset] [(.ref w_CLOCK_OFFSET)])) rfl (by rw [hml]; rfl) (Steps.refl _) (argsL := []) (rest := []) (lenOf pd____B rfl) rfl (by show 2 * 0 + _ ≤ _; exact Nat.le_of_eq rfl) (hb hby at_108) (fun _ _ => ⟨rfl, e79, (by decide : 1 + 1 ≤ _), (by decide : 4 + 4 ≤ _)⟩)
      dsimp only [Pt.U, Pt.locs, Pt.cells, Pt.slots] at X81 l81 y81 z81 st81 hQ81
      subst l81 y81 z81
      obtain ⟨r81, rfl, Sq81, N81q, Kq81, Dq81⟩ := hQ81
      have N81 := Fr.app N80 N81q
      have ne_r70_r81 : r70 ≠ r81 := Nat.ne_of_lt (Nat.lt_of_lt_of_le (V79).lt Sq81)
      have q_r81 : n0 ≤ r81 := Nat.le_trans Z80 Sq81
      have sz_r81 : h0.size ≤ r81 := Nat.le_trans K80.1 Sq81
      have f82 := V79.keep Kq81 nin0
      have OLD83 := OLD80.keep Kq81 all0
      have K83 := K80.trans Kq81 all0
      have Z83 := Nat.le_trans Z80 Kq81.1
      have Vq81 : Av Z T81.heap r81 .byte (4 : Int32) [(.int (0 : Int32)), (.int (0 : Int32)), (.int (0 : Int32)), (.int (0 : Int32))] (.int (0 : Int32)) := by
        rcases Dq81 with ⟨-, q⟩ | ⟨q1, q2, -⟩
        · exact q
        · exact absurd rfl q2
      refine ogo (fun t k => st81.trans k) ?_
      show OwnEnds _ _ _ _ _ _ _ (T81.setTop (mkF m 111 #[.val (.int p0), .val (.int p1), .val (.int (6 : Int32)), .val (.ref w_CLOCK_OFFSET), .val (.int (1 : Int32)), .val (.ref r70), .val (.int (1 : Int32)), .unset] [(.ref r81)]))
      refine ogo (fun t k => XS.astore X81.here hx rfl (hb hby at_111) rfl rfl (l' := #[.val (.int p0), .val (.int p1), .val (.int (6 : Int32)), .val (.ref w_CLOCK_OFFSET), .val (.int (1 : Int32)), .val (.ref r70), .val (.int (1 : Int32)), .val (.ref r81)]) rfl k) ?_
      show OwnEnds _ _ _ _ _ _ _ (T81.setTop (mkF m 113 #[.val (.int p0), .val (.int p1), .val (.int (6 : Int32)), .val (.ref w_CLOCK_OFFSET), .val (.int (1 : Int32)), .val (.ref r70), .val (.int (1 : Int32)), .val (.ref r81)] []))
      refine ogo (fun t k => XS.aload X81.here hx rfl (hb hby at_113) rfl rfl k) ?_
      show OwnEnds _ _ _ _ _ _ _ (T81.setTop (mkF m 115 #[.val (.int p0), .val (.int p1), .val (.int (6 : Int32)), .val (.ref w_CLOCK_OFFSET), .val (.int (1 : Int32)), .val (.ref r70), .val (.int (1 : Int32)), .val (.ref r81)] [(.ref r81)]))
      refine ogo (fun t k => XS.aload X81.here hx rfl (hb hby at_115) rfl rfl k) ?_
      show OwnEnds _ _ _ _ _ _ _ (T81.setTop (mkF m 117 #[.val (.int p0), .val (.int p1), .val (.int (6 : Int32)), .val (.ref w_CLOCK_OFFSET), .val (.int (1 : Int32)), .val (.ref r70), .val (.int (1 : Int32)), .val (.ref r81)] [(.ref r70), (.ref r81)]))
      refine ogo (fun t k => Jvm.RoadKit.acmp (g := (mkF m 117 #[.val (.int p0), .val (.int p1), .val (.int (6 : Int32)), .val (.ref w_CLOCK_OFFSET), .val (.int (1 : Int32)), .val (.ref r70), .val (.int (1 : Int32)), .val (.ref r81)] [(.ref r70), (.ref r81)])) X81 hx rfl rfl rfl (pc0 := 117) (pc' := 122) (same := false) rfl (hb hby at_117) rfl (decide_eq_false fun q => (Ne.symm ne_r70_r81) (Value.ref.inj q)) (by decide) (by decide) k) ?_
      show OwnEnds _ _ _ _ _ _ _ (T81.setTop (mkF m 122 #[.val (.int p0), .val (.int p1), .val (.int (6 : Int32)), .val (.ref w_CLOCK_OFFSET), .val (.int (1 : Int32)), .val (.ref r70), .val (.int (1 : Int32)), .val (.ref r81)] []))
      refine ogo (fun t k => XS.aload X81.here hx rfl (hb hby at_122) rfl rfl k) ?_
      show OwnEnds _ _ _ _ _ _ _ (T81.setTop (mkF m 124 #[.val (.int p0), .val (.int p1), .val (.int (6 : Int32)), .val (.ref w_CLOCK_OFFSET), .val (.int (1 : Int32)), .val (.ref r70), .val (.int (1 : Int32)), .val (.ref r81)] [(.ref r81)]))
      obtain ⟨v84, _, ⟨T84, L84, k84, n84⟩, -, X84, ⟨Lc84, hQ84, l84, y84, z84⟩, st84⟩ := Jvm.LawKit.callS X81 hx (y := (⟨"com/example/opaque_token/opaquetoken/token/ObjectTypeInitialValuePinLaw", "fourZeros", "([B)Z"⟩ : MethodName)) hown (mvT hZ (hw _ (List.mem_of_getElem? (i := 19) rfl))) (mvT hZ (hw _ (List.mem_of_getElem? (i := 20) rfl))) (mvT hZ (hw _ (List.mem_of_getElem? (i := 3) rfl))) (mvT hZ (hw _ (List.mem_of_getElem? (i := 21) rfl))) (by decide) (backOf (W := 0) (rm3 l Z a0 hw [] r81 T81.heap n0 Z83 Vq81) hZ (hw _ (List.mem_of_getElem? (i := 21) rfl)) (hw _ (List.mem_of_getElem? (i := 3) rfl)) (by decide) (by decide)) (g := (mkF m 124 #[.val (.int p0), .val (.int p1), .val (.int (6 : Int32)), .val (.ref w_CLOCK_OFFSET), .val (.int (1 : Int32)), .val (.ref r70), .val (.int (1 : Int32)), .val (.ref r81)] [(.ref r81)])) rfl (by rw [hml]; rfl) (argsL := [(.ref r81)]) (rest := []) (lenOf pd___B_Z rfl) rfl (by show 2 * 0 + _ ≤ _; exact Nat.le_of_eq rfl) (hb hby at_124) (fun _ _ => ⟨rfl, rfl, (by decide : 2 + 0 ≤ _), (by decide : 8 + 0 ≤ _)⟩)
      dsimp only [Pt.U, Pt.locs, Pt.cells, Pt.slots] at X84 l84 y84 z84 st84 hQ84
      subst l84 y84 z84
      obtain ⟨rfl, N84q, e84⟩ := hQ84
      have N84 := Fr.app N81 N84q
      refine ogo (fun t k => st84 t k) ?_
      show OwnEnds _ _ _ _ _ _ _ (T84.setTop (mkF m 127 #[.val (.int p0), .val (.int p1), .val (.int (6 : Int32)), .val (.ref w_CLOCK_OFFSET), .val (.int (1 : Int32)), .val (.ref r70), .val (.int (1 : Int32)), .val (.ref r81)] [(.int (1 : Int32))]))
      refine endZ X84 hx hlk Bd.returns rfl (hb hby at_127) (by decide) (by decide) ?_
      show Q0 Z p0 p1 w_INPUT_DATA w_COUNTER w_CLOCK_OFFSET w_MODULUS w_OUTPUT_DATA w_RANDOM_FILL w_EXPONENT w_CONFIGURATION w_ROM_DATA h0 n0 _ T84.heap _
      rw [e84]
      exact ⟨rfl, N84⟩
    · show OwnEnds _ _ _ _ _ _ _ (T72.setTop (mkF m 96 #[.val (.int p0), .val (.int p1), .val (.int (6 : Int32)), .val (.ref w_CLOCK_OFFSET), .val (.int (1 : Int32)), .val (.ref r70), .unset, .unset] [(.int (2 : Int32))]))
      refine ogo (fun t k => XS.istore X72.here hx rfl (hb hby at_96) rfl (l' := #[.val (.int p0), .val (.int p1), .val (.int (6 : Int32)), .val (.ref w_CLOCK_OFFSET), .val (.int (1 : Int32)), .val (.ref r70), .val (.int (2 : Int32)), .unset]) rfl k) ?_
      show OwnEnds _ _ _ _ _ _ _ (T72.setTop (mkF m 98 #[.val (.int p0), .val (.int p1), .val (.int (6 : Int32)), .val (.ref w_CLOCK_OFFSET), .val (.int (1 : Int32)), .val (.ref r70), .val (.int (2 : Int32)), .unset] []))
      refine ogo (fun t k => XS.aload X72.here hx rfl (hb hby at_98) rfl rfl k) ?_
      show OwnEnds _ _ _ _ _ _ _ (T72.setTop (mkF m 100 #[.val (.int p0), .val (.int p1), .val (.int (6 : Int32)), .val (.ref w_CLOCK_OFFSET), .val (.int (1 : Int32)), .val (.ref r70), .val (.int (2 : Int32)), .unset] [(.ref r70)]))
      refine ogo (fun t k => XS.iload X72.here hx rfl (hb hby at_100) rfl k) ?_
      show OwnEnds _ _ _ _ _ _ _ (T72.setTop (mkF m 102 #[.val (.int p0), .val (.int p1), .val (.int (6 : Int32)), .val (.ref w_CLOCK_OFFSET), .val (.int (1 : Int32)), .val (.ref r70), .val (.int (2 : Int32)), .unset] [(.int (2 : Int32)), (.ref r70)]))
      refine ogo (fun t k => XS.iloadN X72.here hx rfl (hb hby at_102) rfl k) ?_
      show OwnEnds _ _ _ _ _ _ _ (T72.setTop (mkF m 103 #[.val (.int p0), .val (.int p1), .val (.int (6 : Int32)), .val (.ref w_CLOCK_OFFSET), .val (.int (1 : Int32)), .val (.ref r70), .val (.int (2 : Int32)), .unset] [(.int p1), (.int (2 : Int32)), (.ref r70)]))
      refine ogo (fun t k => XS.iconst X72.here hx rfl (hb hby at_103) k) ?_
      show OwnEnds _ _ _ _ _ _ _ (T72.setTop (mkF m 104 #[.val (.int p0), .val (.int p1), .val (.int (6 : Int32)), .val (.ref w_CLOCK_OFFSET), .val (.int (1 : Int32)), .val (.ref r70), .val (.int (2 : Int32)), .unset] [(.int (1 : Int32)), (.int p1), (.int (2 : Int32)), (.ref r70)]))
      refine ogo (fun t k => XS.ior X72.here hx rfl (hb hby at_104) rfl k) ?_
      show OwnEnds _ _ _ _ _ _ _ (T72.setTop (mkF m 105 #[.val (.int p0), .val (.int p1), .val (.int (6 : Int32)), .val (.ref w_CLOCK_OFFSET), .val (.int (1 : Int32)), .val (.ref r70), .val (.int (2 : Int32)), .unset] [(.int (p1 ||| (1 : Int32))), (.int (2 : Int32)), (.ref r70)]))
      refine ogo (fun t k => XS.i2b X72.here hx rfl (hb hby at_105) rfl k) ?_
      show OwnEnds _ _ _ _ _ _ _ (T72.setTop (mkF m 106 #[.val (.int p0), .val (.int p1), .val (.int (6 : Int32)), .val (.ref w_CLOCK_OFFSET), .val (.int (1 : Int32)), .val (.ref r70), .val (.int (2 : Int32)), .unset] [(.int ((p1 ||| (1 : Int32)).toInt8.toInt32)), (.int (2 : Int32)), (.ref r70)]))
      obtain ⟨ak85, cl85, Ar85, Aq85, As85, An85, Ah85, Ag85⟩ := id Vq70
      obtain ⟨T85, h85, X85, e85, W85, st85⟩ := stB X72 hx hZ e72 Ar85 (j := (2 : Int32)) (inb_of As85 ⟨by decide, by decide⟩) (g := (mkF m 106 #[.val (.int p0), .val (.int p1), .val (.int (6 : Int32)), .val (.ref w_CLOCK_OFFSET), .val (.int (1 : Int32)), .val (.ref r70), .val (.int (2 : Int32)), .unset] [(.int ((p1 ||| (1 : Int32)).toInt8.toInt32)), (.int (2 : Int32)), (.ref r70)])) rfl rfl (hb hby at_106)
      rw [own_narb] at W85
      have V85 : Arv Z h85 r70 ak85 .byte (4 : Int32) [(.int (0 : Int32)), (.int (0 : Int32)), (.int ((p1 ||| (1 : Int32)).toInt8.toInt32)), (.int (0 : Int32))] (.int (0 : Int32)) := Arv.set Ar85 Aq85 As85 An85 Ah85 Ag85 (fits_nar_byte _) W85 2 rfl (Nat.le_of_ble_eq_true rfl)
      have N86 := Fr.snoc X85 N72 q_r70
      have OLD86 := OLD71.wr W85 q_r70
      have K86 := K71.wr W85 (Or.inr sz_r70)
      have Z86 := Nat.le_trans Z71 (Nat.le_of_eq W85.size.symm)
      refine ogo st85 ?_
      show OwnEnds _ _ _ _ _ _ _ (T85.setTop (mkF m 107 #[.val (.int p0), .val (.int p1), .val (.int (6 : Int32)), .val (.ref w_CLOCK_OFFSET), .val (.int (1 : Int32)), .val (.ref r70), .val (.int (2 : Int32)), .unset] []))
      refine ogo (fun t k => XS.aloadN X85.here hx rfl (hb hby at_107) rfl rfl k) ?_
      show OwnEnds _ _ _ _ _ _ _ (T85.setTop (mkF m 108 #[.val (.int p0), .val (.int p1), .val (.int (6 : Int32)), .val (.ref w_CLOCK_OFFSET), .val (.int (1 : Int32)), .val (.ref r70), .val (.int (2 : Int32)), .unset] [(.ref w_CLOCK_OFFSET)]))
      obtain ⟨cq87, kq87, q87a, q87b, q87c⟩ := isOf hZ e85 (E_CLOCK_OFFSET.ext OLD86.2)
      obtain ⟨v87, _, ⟨T87, L87, k87, n87⟩, -, X87, ⟨Lc87, hQ87, l87, y87, z87⟩, st87⟩ := X85.virtualBack hx (y := (⟨"com/example/opaque_token/opaquetoken/token/ObjectType", "initialValue", "()[B"⟩ : MethodName)) (z := (⟨"com/example/opaque_token/opaquetoken/token/ObjectType", "initialValue", "()[B"⟩ : MethodName)) hown (mvT hZ (hw _ (List.mem_of_getElem? (i := 8) rfl))) (mvT hZ (hw _ (List.mem_of_getElem? (i := 9) rfl))) (notFace_of_selects (args := #[]) (mvT hZ (hw _ (List.mem_of_getElem? (i := 11) rfl)))) (mvT hZ (hw _ (List.mem_of_getElem? (i := 11) rfl))) (mvT hZ (hw _ (List.mem_of_getElem? (i := 10) rfl))) (by decide) (backOf (W := 0) (rm2 l Z a0 hw [] w_CLOCK_OFFSET w_COUNTER w_CLOCK_OFFSET h85 n0 Z86 OLD86 S_COUNTER S_CLOCK_OFFSET) hZ (hw _ (List.mem_of_getElem? (i := 12) rfl)) (hw _ (List.mem_of_getElem? (i := 6) rfl)) (by decide) (by decide)) q87a q87c (g := (mkF m 108 #[.val (.int p0), .val (.int p1), .val (.int (6 : Int32)), .val (.ref w_CLOCK_OFFSET), .val (.int (1 : Int32)), .val (.ref r70), .val (.int (2 : Int32)), .unset] [(.ref w_CLOCK_OFFSET)])) rfl (by rw [hml]; rfl) (Steps.refl _) (argsL := []) (rest := []) (lenOf pd____B rfl) rfl (by show 2 * 0 + _ ≤ _; exact Nat.le_of_eq rfl) (hb hby at_108) (fun _ _ => ⟨rfl, e85, (by decide : 1 + 1 ≤ _), (by decide : 4 + 4 ≤ _)⟩)
      dsimp only [Pt.U, Pt.locs, Pt.cells, Pt.slots] at X87 l87 y87 z87 st87 hQ87
      subst l87 y87 z87
      obtain ⟨r87, rfl, Sq87, N87q, Kq87, Dq87⟩ := hQ87
      have N87 := Fr.app N86 N87q
      have ne_r70_r87 : r70 ≠ r87 := Nat.ne_of_lt (Nat.lt_of_lt_of_le (V85).lt Sq87)
      have q_r87 : n0 ≤ r87 := Nat.le_trans Z86 Sq87
      have sz_r87 : h0.size ≤ r87 := Nat.le_trans K86.1 Sq87
      have f88 := V85.keep Kq87 nin0
      have OLD89 := OLD86.keep Kq87 all0
      have K89 := K86.trans Kq87 all0
      have Z89 := Nat.le_trans Z86 Kq87.1
      have Vq87 : Av Z T87.heap r87 .byte (4 : Int32) [(.int (0 : Int32)), (.int (0 : Int32)), (.int (0 : Int32)), (.int (0 : Int32))] (.int (0 : Int32)) := by
        rcases Dq87 with ⟨-, q⟩ | ⟨q1, q2, -⟩
        · exact q
        · exact absurd rfl q2
      refine ogo (fun t k => st87.trans k) ?_
      show OwnEnds _ _ _ _ _ _ _ (T87.setTop (mkF m 111 #[.val (.int p0), .val (.int p1), .val (.int (6 : Int32)), .val (.ref w_CLOCK_OFFSET), .val (.int (1 : Int32)), .val (.ref r70), .val (.int (2 : Int32)), .unset] [(.ref r87)]))
      refine ogo (fun t k => XS.astore X87.here hx rfl (hb hby at_111) rfl rfl (l' := #[.val (.int p0), .val (.int p1), .val (.int (6 : Int32)), .val (.ref w_CLOCK_OFFSET), .val (.int (1 : Int32)), .val (.ref r70), .val (.int (2 : Int32)), .val (.ref r87)]) rfl k) ?_
      show OwnEnds _ _ _ _ _ _ _ (T87.setTop (mkF m 113 #[.val (.int p0), .val (.int p1), .val (.int (6 : Int32)), .val (.ref w_CLOCK_OFFSET), .val (.int (1 : Int32)), .val (.ref r70), .val (.int (2 : Int32)), .val (.ref r87)] []))
      refine ogo (fun t k => XS.aload X87.here hx rfl (hb hby at_113) rfl rfl k) ?_
      show OwnEnds _ _ _ _ _ _ _ (T87.setTop (mkF m 115 #[.val (.int p0), .val (.int p1), .val (.int (6 : Int32)), .val (.ref w_CLOCK_OFFSET), .val (.int (1 : Int32)), .val (.ref r70), .val (.int (2 : Int32)), .val (.ref r87)] [(.ref r87)]))
      refine ogo (fun t k => XS.aload X87.here hx rfl (hb hby at_115) rfl rfl k) ?_
      show OwnEnds _ _ _ _ _ _ _ (T87.setTop (mkF m 117 #[.val (.int p0), .val (.int p1), .val (.int (6 : Int32)), .val (.ref w_CLOCK_OFFSET), .val (.int (1 : Int32)), .val (.ref r70), .val (.int (2 : Int32)), .val (.ref r87)] [(.ref r70), (.ref r87)]))
      refine ogo (fun t k => Jvm.RoadKit.acmp (g := (mkF m 117 #[.val (.int p0), .val (.int p1), .val (.int (6 : Int32)), .val (.ref w_CLOCK_OFFSET), .val (.int (1 : Int32)), .val (.ref r70), .val (.int (2 : Int32)), .val (.ref r87)] [(.ref r70), (.ref r87)])) X87 hx rfl rfl rfl (pc0 := 117) (pc' := 122) (same := false) rfl (hb hby at_117) rfl (decide_eq_false fun q => (Ne.symm ne_r70_r87) (Value.ref.inj q)) (by decide) (by decide) k) ?_
      show OwnEnds _ _ _ _ _ _ _ (T87.setTop (mkF m 122 #[.val (.int p0), .val (.int p1), .val (.int (6 : Int32)), .val (.ref w_CLOCK_OFFSET), .val (.int (1 : Int32)), .val (.ref r70), .val (.int (2 : Int32)), .val (.ref r87)] []))
      refine ogo (fun t k => XS.aload X87.here hx rfl (hb hby at_122) rfl rfl k) ?_
      show OwnEnds _ _ _ _ _ _ _ (T87.setTop (mkF m 124 #[.val (.int p0), .val (.int p1), .val (.int (6 : Int32)), .val (.ref w_CLOCK_OFFSET), .val (.int (1 : Int32)), .val (.ref r70), .val (.int (2 : Int32)), .val (.ref r87)] [(.ref r87)]))
      obtain ⟨v90, _, ⟨T90, L90, k90, n90⟩, -, X90, ⟨Lc90, hQ90, l90, y90, z90⟩, st90⟩ := Jvm.LawKit.callS X87 hx (y := (⟨"com/example/opaque_token/opaquetoken/token/ObjectTypeInitialValuePinLaw", "fourZeros", "([B)Z"⟩ : MethodName)) hown (mvT hZ (hw _ (List.mem_of_getElem? (i := 19) rfl))) (mvT hZ (hw _ (List.mem_of_getElem? (i := 20) rfl))) (mvT hZ (hw _ (List.mem_of_getElem? (i := 3) rfl))) (mvT hZ (hw _ (List.mem_of_getElem? (i := 21) rfl))) (by decide) (backOf (W := 0) (rm3 l Z a0 hw [] r87 T87.heap n0 Z89 Vq87) hZ (hw _ (List.mem_of_getElem? (i := 21) rfl)) (hw _ (List.mem_of_getElem? (i := 3) rfl)) (by decide) (by decide)) (g := (mkF m 124 #[.val (.int p0), .val (.int p1), .val (.int (6 : Int32)), .val (.ref w_CLOCK_OFFSET), .val (.int (1 : Int32)), .val (.ref r70), .val (.int (2 : Int32)), .val (.ref r87)] [(.ref r87)])) rfl (by rw [hml]; rfl) (argsL := [(.ref r87)]) (rest := []) (lenOf pd___B_Z rfl) rfl (by show 2 * 0 + _ ≤ _; exact Nat.le_of_eq rfl) (hb hby at_124) (fun _ _ => ⟨rfl, rfl, (by decide : 2 + 0 ≤ _), (by decide : 8 + 0 ≤ _)⟩)
      dsimp only [Pt.U, Pt.locs, Pt.cells, Pt.slots] at X90 l90 y90 z90 st90 hQ90
      subst l90 y90 z90
      obtain ⟨rfl, N90q, e90⟩ := hQ90
      have N90 := Fr.app N87 N90q
      refine ogo (fun t k => st90 t k) ?_
      show OwnEnds _ _ _ _ _ _ _ (T90.setTop (mkF m 127 #[.val (.int p0), .val (.int p1), .val (.int (6 : Int32)), .val (.ref w_CLOCK_OFFSET), .val (.int (1 : Int32)), .val (.ref r70), .val (.int (2 : Int32)), .val (.ref r87)] [(.int (1 : Int32))]))
      refine endZ X90 hx hlk Bd.returns rfl (hb hby at_127) (by decide) (by decide) ?_
      show Q0 Z p0 p1 w_INPUT_DATA w_COUNTER w_CLOCK_OFFSET w_MODULUS w_OUTPUT_DATA w_RANDOM_FILL w_EXPONENT w_CONFIGURATION w_ROM_DATA h0 n0 _ T90.heap _
      rw [e90]
      exact ⟨rfl, N90⟩
    · show OwnEnds _ _ _ _ _ _ _ (T72.setTop (mkF m 96 #[.val (.int p0), .val (.int p1), .val (.int (6 : Int32)), .val (.ref w_CLOCK_OFFSET), .val (.int (1 : Int32)), .val (.ref r70), .unset, .unset] [(.int (3 : Int32))]))
      refine ogo (fun t k => XS.istore X72.here hx rfl (hb hby at_96) rfl (l' := #[.val (.int p0), .val (.int p1), .val (.int (6 : Int32)), .val (.ref w_CLOCK_OFFSET), .val (.int (1 : Int32)), .val (.ref r70), .val (.int (3 : Int32)), .unset]) rfl k) ?_
      show OwnEnds _ _ _ _ _ _ _ (T72.setTop (mkF m 98 #[.val (.int p0), .val (.int p1), .val (.int (6 : Int32)), .val (.ref w_CLOCK_OFFSET), .val (.int (1 : Int32)), .val (.ref r70), .val (.int (3 : Int32)), .unset] []))
      refine ogo (fun t k => XS.aload X72.here hx rfl (hb hby at_98) rfl rfl k) ?_
      show OwnEnds _ _ _ _ _ _ _ (T72.setTop (mkF m 100 #[.val (.int p0), .val (.int p1), .val (.int (6 : Int32)), .val (.ref w_CLOCK_OFFSET), .val (.int (1 : Int32)), .val (.ref r70), .val (.int (3 : Int32)), .unset] [(.ref r70)]))
      refine ogo (fun t k => XS.iload X72.here hx rfl (hb hby at_100) rfl k) ?_
      show OwnEnds _ _ _ _ _ _ _ (T72.setTop (mkF m 102 #[.val (.int p0), .val (.int p1), .val (.int (6 : Int32)), .val (.ref w_CLOCK_OFFSET), .val (.int (1 : Int32)), .val (.ref r70), .val (.int (3 : Int32)), .unset] [(.int (3 : Int32)), (.ref r70)]))
      refine ogo (fun t k => XS.iloadN X72.here hx rfl (hb hby at_102) rfl k) ?_
      show OwnEnds _ _ _ _ _ _ _ (T72.setTop (mkF m 103 #[.val (.int p0), .val (.int p1), .val (.int (6 : Int32)), .val (.ref w_CLOCK_OFFSET), .val (.int (1 : Int32)), .val (.ref r70), .val (.int (3 : Int32)), .unset] [(.int p1), (.int (3 : Int32)), (.ref r70)]))
      refine ogo (fun t k => XS.iconst X72.here hx rfl (hb hby at_103) k) ?_
      show OwnEnds _ _ _ _ _ _ _ (T72.setTop (mkF m 104 #[.val (.int p0), .val (.int p1), .val (.int (6 : Int32)), .val (.ref w_CLOCK_OFFSET), .val (.int (1 : Int32)), .val (.ref r70), .val (.int (3 : Int32)), .unset] [(.int (1 : Int32)), (.int p1), (.int (3 : Int32)), (.ref r70)]))
      refine ogo (fun t k => XS.ior X72.here hx rfl (hb hby at_104) rfl k) ?_
      show OwnEnds _ _ _ _ _ _ _ (T72.setTop (mkF m 105 #[.val (.int p0), .val (.int p1), .val (.int (6 : Int32)), .val (.ref w_CLOCK_OFFSET), .val (.int (1 : Int32)), .val (.ref r70), .val (.int (3 : Int32)), .unset] [(.int (p1 ||| (1 : Int32))), (.int (3 : Int32)), (.ref r70)]))
      refine ogo (fun t k => XS.i2b X72.here hx rfl (hb hby at_105) rfl k) ?_
      show OwnEnds _ _ _ _ _ _ _ (T72.setTop (mkF m 106 #[.val (.int p0), .val (.int p1), .val (.int (6 : Int32)), .val (.ref w_CLOCK_OFFSET), .val (.int (1 : Int32)), .val (.ref r70), .val (.int (3 : Int32)), .unset] [(.int ((p1 ||| (1 : Int32)).toInt8.toInt32)), (.int (3 : Int32)), (.ref r70)]))
      obtain ⟨ak91, cl91, Ar91, Aq91, As91, An91, Ah91, Ag91⟩ := id Vq70
      obtain ⟨T91, h91, X91, e91, W91, st91⟩ := stB X72 hx hZ e72 Ar91 (j := (3 : Int32)) (inb_of As91 ⟨by decide, by decide⟩) (g := (mkF m 106 #[.val (.int p0), .val (.int p1), .val (.int (6 : Int32)), .val (.ref w_CLOCK_OFFSET), .val (.int (1 : Int32)), .val (.ref r70), .val (.int (3 : Int32)), .unset] [(.int ((p1 ||| (1 : Int32)).toInt8.toInt32)), (.int (3 : Int32)), (.ref r70)])) rfl rfl (hb hby at_106)
      rw [own_narb] at W91
      have V91 : Arv Z h91 r70 ak91 .byte (4 : Int32) [(.int (0 : Int32)), (.int (0 : Int32)), (.int (0 : Int32)), (.int ((p1 ||| (1 : Int32)).toInt8.toInt32))] (.int (0 : Int32)) := Arv.set Ar91 Aq91 As91 An91 Ah91 Ag91 (fits_nar_byte _) W91 3 rfl (Nat.le_of_ble_eq_true rfl)
      have N92 := Fr.snoc X91 N72 q_r70
      have OLD92 := OLD71.wr W91 q_r70
      have K92 := K71.wr W91 (Or.inr sz_r70)
      have Z92 := Nat.le_trans Z71 (Nat.le_of_eq W91.size.symm)
      refine ogo st91 ?_
      show OwnEnds _ _ _ _ _ _ _ (T91.setTop (mkF m 107 #[.val (.int p0), .val (.int p1), .val (.int (6 : Int32)), .val (.ref w_CLOCK_OFFSET), .val (.int (1 : Int32)), .val (.ref r70), .val (.int (3 : Int32)), .unset] []))
      refine ogo (fun t k => XS.aloadN X91.here hx rfl (hb hby at_107) rfl rfl k) ?_
      show OwnEnds _ _ _ _ _ _ _ (T91.setTop (mkF m 108 #[.val (.int p0), .val (.int p1), .val (.int (6 : Int32)), .val (.ref w_CLOCK_OFFSET), .val (.int (1 : Int32)), .val (.ref r70), .val (.int (3 : Int32)), .unset] [(.ref w_CLOCK_OFFSET)]))
      obtain ⟨cq93, kq93, q93a, q93b, q93c⟩ := isOf hZ e91 (E_CLOCK_OFFSET.ext OLD92.2)
      obtain ⟨v93, _, ⟨T93, L93, k93, n93⟩, -, X93, ⟨Lc93, hQ93, l93, y93, z93⟩, st93⟩ := X91.virtualBack hx (y := (⟨"com/example/opaque_token/opaquetoken/token/ObjectType", "initialValue", "()[B"⟩ : MethodName)) (z := (⟨"com/example/opaque_token/opaquetoken/token/ObjectType", "initialValue", "()[B"⟩ : MethodName)) hown (mvT hZ (hw _ (List.mem_of_getElem? (i := 8) rfl))) (mvT hZ (hw _ (List.mem_of_getElem? (i := 9) rfl))) (notFace_of_selects (args := #[]) (mvT hZ (hw _ (List.mem_of_getElem? (i := 11) rfl)))) (mvT hZ (hw _ (List.mem_of_getElem? (i := 11) rfl))) (mvT hZ (hw _ (List.mem_of_getElem? (i := 10) rfl))) (by decide) (backOf (W := 0) (rm2 l Z a0 hw [] w_CLOCK_OFFSET w_COUNTER w_CLOCK_OFFSET h91 n0 Z92 OLD92 S_COUNTER S_CLOCK_OFFSET) hZ (hw _ (List.mem_of_getElem? (i := 12) rfl)) (hw _ (List.mem_of_getElem? (i := 6) rfl)) (by decide) (by decide)) q93a q93c (g := (mkF m 108 #[.val (.int p0), .val (.int p1), .val (.int (6 : Int32)), .val (.ref w_CLOCK_OFFSET), .val (.int (1 : Int32)), .val (.ref r70), .val (.int (3 : Int32)), .unset] [(.ref w_CLOCK_OFFSET)])) rfl (by rw [hml]; rfl) (Steps.refl _) (argsL := []) (rest := []) (lenOf pd____B rfl) rfl (by show 2 * 0 + _ ≤ _; exact Nat.le_of_eq rfl) (hb hby at_108) (fun _ _ => ⟨rfl, e91, (by decide : 1 + 1 ≤ _), (by decide : 4 + 4 ≤ _)⟩)
      dsimp only [Pt.U, Pt.locs, Pt.cells, Pt.slots] at X93 l93 y93 z93 st93 hQ93
      subst l93 y93 z93
      obtain ⟨r93, rfl, Sq93, N93q, Kq93, Dq93⟩ := hQ93
      have N93 := Fr.app N92 N93q
      have ne_r70_r93 : r70 ≠ r93 := Nat.ne_of_lt (Nat.lt_of_lt_of_le (V91).lt Sq93)
      have q_r93 : n0 ≤ r93 := Nat.le_trans Z92 Sq93
      have sz_r93 : h0.size ≤ r93 := Nat.le_trans K92.1 Sq93
      have f94 := V91.keep Kq93 nin0
      have OLD95 := OLD92.keep Kq93 all0
      have K95 := K92.trans Kq93 all0
      have Z95 := Nat.le_trans Z92 Kq93.1
      have Vq93 : Av Z T93.heap r93 .byte (4 : Int32) [(.int (0 : Int32)), (.int (0 : Int32)), (.int (0 : Int32)), (.int (0 : Int32))] (.int (0 : Int32)) := by
        rcases Dq93 with ⟨-, q⟩ | ⟨q1, q2, -⟩
        · exact q
        · exact absurd rfl q2
      refine ogo (fun t k => st93.trans k) ?_
      show OwnEnds _ _ _ _ _ _ _ (T93.setTop (mkF m 111 #[.val (.int p0), .val (.int p1), .val (.int (6 : Int32)), .val (.ref w_CLOCK_OFFSET), .val (.int (1 : Int32)), .val (.ref r70), .val (.int (3 : Int32)), .unset] [(.ref r93)]))
      refine ogo (fun t k => XS.astore X93.here hx rfl (hb hby at_111) rfl rfl (l' := #[.val (.int p0), .val (.int p1), .val (.int (6 : Int32)), .val (.ref w_CLOCK_OFFSET), .val (.int (1 : Int32)), .val (.ref r70), .val (.int (3 : Int32)), .val (.ref r93)]) rfl k) ?_
      show OwnEnds _ _ _ _ _ _ _ (T93.setTop (mkF m 113 #[.val (.int p0), .val (.int p1), .val (.int (6 : Int32)), .val (.ref w_CLOCK_OFFSET), .val (.int (1 : Int32)), .val (.ref r70), .val (.int (3 : Int32)), .val (.ref r93)] []))
      refine ogo (fun t k => XS.aload X93.here hx rfl (hb hby at_113) rfl rfl k) ?_
      show OwnEnds _ _ _ _ _ _ _ (T93.setTop (mkF m 115 #[.val (.int p0), .val (.int p1), .val (.int (6 : Int32)), .val (.ref w_CLOCK_OFFSET), .val (.int (1 : Int32)), .val (.ref r70), .val (.int (3 : Int32)), .val (.ref r93)] [(.ref r93)]))
      refine ogo (fun t k => XS.aload X93.here hx rfl (hb hby at_115) rfl rfl k) ?_
      show OwnEnds _ _ _ _ _ _ _ (T93.setTop (mkF m 117 #[.val (.int p0), .val (.int p1), .val (.int (6 : Int32)), .val (.ref w_CLOCK_OFFSET), .val (.int (1 : Int32)), .val (.ref r70), .val (.int (3 : Int32)), .val (.ref r93)] [(.ref r70), (.ref r93)]))
      refine ogo (fun t k => Jvm.RoadKit.acmp (g := (mkF m 117 #[.val (.int p0), .val (.int p1), .val (.int (6 : Int32)), .val (.ref w_CLOCK_OFFSET), .val (.int (1 : Int32)), .val (.ref r70), .val (.int (3 : Int32)), .val (.ref r93)] [(.ref r70), (.ref r93)])) X93 hx rfl rfl rfl (pc0 := 117) (pc' := 122) (same := false) rfl (hb hby at_117) rfl (decide_eq_false fun q => (Ne.symm ne_r70_r93) (Value.ref.inj q)) (by decide) (by decide) k) ?_
      show OwnEnds _ _ _ _ _ _ _ (T93.setTop (mkF m 122 #[.val (.int p0), .val (.int p1), .val (.int (6 : Int32)), .val (.ref w_CLOCK_OFFSET), .val (.int (1 : Int32)), .val (.ref r70), .val (.int (3 : Int32)), .val (.ref r93)] []))
      refine ogo (fun t k => XS.aload X93.here hx rfl (hb hby at_122) rfl rfl k) ?_
      show OwnEnds _ _ _ _ _ _ _ (T93.setTop (mkF m 124 #[.val (.int p0), .val (.int p1), .val (.int (6 : Int32)), .val (.ref w_CLOCK_OFFSET), .val (.int (1 : Int32)), .val (.ref r70), .val (.int (3 : Int32)), .val (.ref r93)] [(.ref r93)]))
      obtain ⟨v96, _, ⟨T96, L96, k96, n96⟩, -, X96, ⟨Lc96, hQ96, l96, y96, z96⟩, st96⟩ := Jvm.LawKit.callS X93 hx (y := (⟨"com/example/opaque_token/opaquetoken/token/ObjectTypeInitialValuePinLaw", "fourZeros", "([B)Z"⟩ : MethodName)) hown (mvT hZ (hw _ (List.mem_of_getElem? (i := 19) rfl))) (mvT hZ (hw _ (List.mem_of_getElem? (i := 20) rfl))) (mvT hZ (hw _ (List.mem_of_getElem? (i := 3) rfl))) (mvT hZ (hw _ (List.mem_of_getElem? (i := 21) rfl))) (by decide) (backOf (W := 0) (rm3 l Z a0 hw [] r93 T93.heap n0 Z95 Vq93) hZ (hw _ (List.mem_of_getElem? (i := 21) rfl)) (hw _ (List.mem_of_getElem? (i := 3) rfl)) (by decide) (by decide)) (g := (mkF m 124 #[.val (.int p0), .val (.int p1), .val (.int (6 : Int32)), .val (.ref w_CLOCK_OFFSET), .val (.int (1 : Int32)), .val (.ref r70), .val (.int (3 : Int32)), .val (.ref r93)] [(.ref r93)])) rfl (by rw [hml]; rfl) (argsL := [(.ref r93)]) (rest := []) (lenOf pd___B_Z rfl) rfl (by show 2 * 0 + _ ≤ _; exact Nat.le_of_eq rfl) (hb hby at_124) (fun _ _ => ⟨rfl, rfl, (by decide : 2 + 0 ≤ _), (by decide : 8 + 0 ≤ _)⟩)
      dsimp only [Pt.U, Pt.locs, Pt.cells, Pt.slots] at X96 l96 y96 z96 st96 hQ96
      subst l96 y96 z96
      obtain ⟨rfl, N96q, e96⟩ := hQ96
      have N96 := Fr.app N93 N96q
      refine ogo (fun t k => st96 t k) ?_
      show OwnEnds _ _ _ _ _ _ _ (T96.setTop (mkF m 127 #[.val (.int p0), .val (.int p1), .val (.int (6 : Int32)), .val (.ref w_CLOCK_OFFSET), .val (.int (1 : Int32)), .val (.ref r70), .val (.int (3 : Int32)), .val (.ref r93)] [(.int (1 : Int32))]))
      refine endZ X96 hx hlk Bd.returns rfl (hb hby at_127) (by decide) (by decide) ?_
      show Q0 Z p0 p1 w_INPUT_DATA w_COUNTER w_CLOCK_OFFSET w_MODULUS w_OUTPUT_DATA w_RANDOM_FILL w_EXPONENT w_CONFIGURATION w_ROM_DATA h0 n0 _ T96.heap _
      rw [e96]
      exact ⟨rfl, N96⟩
  · show OwnEnds _ _ _ _ _ _ _ (s₁.setTop (mkF m 7 #[.val (.int p0), .val (.int p1), .unset, .unset, .unset, .unset, .unset, .unset] [(.int (7 : Int32))]))
    refine ogo (fun t k => XS.istoreN X0.here hx rfl (hb hby at_7) rfl (l' := #[.val (.int p0), .val (.int p1), .val (.int (7 : Int32)), .unset, .unset, .unset, .unset, .unset]) rfl k) ?_
    show OwnEnds _ _ _ _ _ _ _ (s₁.setTop (mkF m 8 #[.val (.int p0), .val (.int p1), .val (.int (7 : Int32)), .unset, .unset, .unset, .unset, .unset] []))
    refine ogo (fun t k => XS.iloadN X0.here hx rfl (hb hby at_8) rfl k) ?_
    show OwnEnds _ _ _ _ _ _ _ (s₁.setTop (mkF m 9 #[.val (.int p0), .val (.int p1), .val (.int (7 : Int32)), .unset, .unset, .unset, .unset, .unset] [(.int (7 : Int32))]))
    obtain ⟨v97, _, ⟨T97, L97, k97, n97⟩, -, X97, ⟨Lc97, hQ97, l97, y97, z97⟩, st97⟩ := Jvm.LawKit.callS X0 hx (y := (⟨"com/example/opaque_token/opaquetoken/token/ObjectTypeInitialValuePinLaw", "pick", "(I)Lcom/example/opaque_token/opaquetoken/token/ObjectType;"⟩ : MethodName)) hown (mvT hZ (hw _ (List.mem_of_getElem? (i := 1) rfl))) (mvT hZ (hw _ (List.mem_of_getElem? (i := 2) rfl))) (mvT hZ (hw _ (List.mem_of_getElem? (i := 3) rfl))) (mvT hZ (hw _ (List.mem_of_getElem? (i := 4) rfl))) (by decide) (backOf (W := 0) (rm1 l Z a0 hw [] (7 : Int32) w_INPUT_DATA w_OUTPUT_DATA w_CONFIGURATION w_EXPONENT w_MODULUS w_COUNTER w_CLOCK_OFFSET w_ROM_DATA w_RANDOM_FILL h0 n0 Z0 OLD S_INPUT_DATA S_OUTPUT_DATA S_CONFIGURATION S_EXPONENT S_MODULUS S_COUNTER S_CLOCK_OFFSET S_ROM_DATA S_RANDOM_FILL) hZ (hw _ (List.mem_of_getElem? (i := 4) rfl)) (hw _ (List.mem_of_getElem? (i := 3) rfl)) (by decide) (by decide)) (g := (mkF m 9 #[.val (.int p0), .val (.int p1), .val (.int (7 : Int32)), .unset, .unset, .unset, .unset, .unset] [(.int (7 : Int32))])) rfl (by rw [hml]; rfl) (argsL := [(.int (7 : Int32))]) (rest := []) (lenOf pd_e6b9a279 rfl) rfl (by show 2 * 0 + _ ≤ _; exact Nat.le_of_eq rfl) (hb hby at_9) (fun _ _ => ⟨rfl, e0, (by decide : 0 + 0 ≤ _), (by decide : 0 + 0 ≤ _)⟩)
    dsimp only [Pt.U, Pt.locs, Pt.cells, Pt.slots] at X97 l97 y97 z97 st97 hQ97
    subst l97 y97 z97
    obtain ⟨hv97, N97q, e97⟩ := hQ97
    obtain rfl : v97 = some (.ref w_ROM_DATA) := hv97.trans (by simp [own_pick])
    have N97 := Fr.app N0 N97q
    refine ogo (fun t k => st97 t k) ?_
    show OwnEnds _ _ _ _ _ _ _ (T97.setTop (mkF m 12 #[.val (.int p0), .val (.int p1), .val (.int (7 : Int32)), .unset, .unset, .unset, .unset, .unset] [(.ref w_ROM_DATA)]))
    refine ogo (fun t k => XS.astoreN X97.here hx rfl (hb hby at_12) rfl rfl (l' := #[.val (.int p0), .val (.int p1), .val (.int (7 : Int32)), .val (.ref w_ROM_DATA), .unset, .unset, .unset, .unset]) rfl k) ?_
    show OwnEnds _ _ _ _ _ _ _ (T97.setTop (mkF m 13 #[.val (.int p0), .val (.int p1), .val (.int (7 : Int32)), .val (.ref w_ROM_DATA), .unset, .unset, .unset, .unset] []))
    refine ogo (fun t k => XS.iloadN X97.here hx rfl (hb hby at_13) rfl k) ?_
    show OwnEnds _ _ _ _ _ _ _ (T97.setTop (mkF m 14 #[.val (.int p0), .val (.int p1), .val (.int (7 : Int32)), .val (.ref w_ROM_DATA), .unset, .unset, .unset, .unset] [(.int (7 : Int32))]))
    refine ogo (fun t k => XS.iconst X97.here hx rfl (hb hby at_14) k) ?_
    show OwnEnds _ _ _ _ _ _ _ (T97.setTop (mkF m 15 #[.val (.int p0), .val (.int p1), .val (.int (7 : Int32)), .val (.ref w_ROM_DATA), .unset, .unset, .unset, .unset] [(.int (5 : Int32)), (.int (7 : Int32))]))
    refine ogo (fun t k => XS.icmpNo X97.here hx rfl (hb hby at_15) rfl (feq (by decide : ¬ ((7 : Int32) = (5 : Int32)))).1 k) ?_
    show OwnEnds _ _ _ _ _ _ _ (T97.setTop (mkF m 18 #[.val (.int p0), .val (.int p1), .val (.int (7 : Int32)), .val (.ref w_ROM_DATA), .unset, .unset, .unset, .unset] []))
    refine ogo (fun t k => XS.iloadN X97.here hx rfl (hb hby at_18) rfl k) ?_
    show OwnEnds _ _ _ _ _ _ _ (T97.setTop (mkF m 19 #[.val (.int p0), .val (.int p1), .val (.int (7 : Int32)), .val (.ref w_ROM_DATA), .unset, .unset, .unset, .unset] [(.int (7 : Int32))]))
    refine ogo (fun t k => XS.bipush X97.here hx rfl (hb hby at_19) k) ?_
    show OwnEnds _ _ _ _ _ _ _ (T97.setTop (mkF m 21 #[.val (.int p0), .val (.int p1), .val (.int (7 : Int32)), .val (.ref w_ROM_DATA), .unset, .unset, .unset, .unset] [(.int (6 : Int32)), (.int (7 : Int32))]))
    refine ogo (fun t k => XS.icmpYes X97.here hx rfl (pc0 := 21) (pc' := 28) rfl (hb hby at_21) rfl (feq (by decide : ¬ ((7 : Int32) = (6 : Int32)))).2 (by decide) (by decide) k) ?_
    show OwnEnds _ _ _ _ _ _ _ (T97.setTop (mkF m 28 #[.val (.int p0), .val (.int p1), .val (.int (7 : Int32)), .val (.ref w_ROM_DATA), .unset, .unset, .unset, .unset] []))
    refine ogo (fun t k => XS.iconst X97.here hx rfl (hb hby at_28) k) ?_
    show OwnEnds _ _ _ _ _ _ _ (T97.setTop (mkF m 29 #[.val (.int p0), .val (.int p1), .val (.int (7 : Int32)), .val (.ref w_ROM_DATA), .unset, .unset, .unset, .unset] [(.int (0 : Int32))]))
    refine ogo (fun t k => XS.istore X97.here hx rfl (hb hby at_29) rfl (l' := #[.val (.int p0), .val (.int p1), .val (.int (7 : Int32)), .val (.ref w_ROM_DATA), .val (.int (0 : Int32)), .unset, .unset, .unset]) rfl k) ?_
    show OwnEnds _ _ _ _ _ _ _ (T97.setTop (mkF m 31 #[.val (.int p0), .val (.int p1), .val (.int (7 : Int32)), .val (.ref w_ROM_DATA), .val (.int (0 : Int32)), .unset, .unset, .unset] []))
    refine ogo (fun t k => XS.aloadN X97.here hx rfl (hb hby at_31) rfl rfl k) ?_
    show OwnEnds _ _ _ _ _ _ _ (T97.setTop (mkF m 32 #[.val (.int p0), .val (.int p1), .val (.int (7 : Int32)), .val (.ref w_ROM_DATA), .val (.int (0 : Int32)), .unset, .unset, .unset] [(.ref w_ROM_DATA)]))
    obtain ⟨cq98, kq98, q98a, q98b, q98c⟩ := isOf hZ e97 (E_ROM_DATA.ext OLD.2)
    obtain ⟨v98, _, ⟨T98, L98, k98, n98⟩, -, X98, ⟨Lc98, hQ98, l98, y98, z98⟩, st98⟩ := X97.virtualBack hx (y := (⟨"com/example/opaque_token/opaquetoken/token/ObjectType", "initialValue", "()[B"⟩ : MethodName)) (z := (⟨"com/example/opaque_token/opaquetoken/token/ObjectType", "initialValue", "()[B"⟩ : MethodName)) hown (mvT hZ (hw _ (List.mem_of_getElem? (i := 8) rfl))) (mvT hZ (hw _ (List.mem_of_getElem? (i := 9) rfl))) (notFace_of_selects (args := #[]) (mvT hZ (hw _ (List.mem_of_getElem? (i := 11) rfl)))) (mvT hZ (hw _ (List.mem_of_getElem? (i := 11) rfl))) (mvT hZ (hw _ (List.mem_of_getElem? (i := 10) rfl))) (by decide) (backOf (W := 0) (rm2 l Z a0 hw [] w_ROM_DATA w_COUNTER w_CLOCK_OFFSET h0 n0 Z0 OLD S_COUNTER S_CLOCK_OFFSET) hZ (hw _ (List.mem_of_getElem? (i := 12) rfl)) (hw _ (List.mem_of_getElem? (i := 6) rfl)) (by decide) (by decide)) q98a q98c (g := (mkF m 32 #[.val (.int p0), .val (.int p1), .val (.int (7 : Int32)), .val (.ref w_ROM_DATA), .val (.int (0 : Int32)), .unset, .unset, .unset] [(.ref w_ROM_DATA)])) rfl (by rw [hml]; rfl) (Steps.refl _) (argsL := []) (rest := []) (lenOf pd____B rfl) rfl (by show 2 * 0 + _ ≤ _; exact Nat.le_of_eq rfl) (hb hby at_32) (fun _ _ => ⟨rfl, e97, (by decide : 0 + 1 ≤ _), (by decide : 0 + 4 ≤ _)⟩)
    dsimp only [Pt.U, Pt.locs, Pt.cells, Pt.slots] at X98 l98 y98 z98 st98 hQ98
    subst l98 y98 z98
    obtain ⟨r98, rfl, Sq98, N98q, Kq98, Dq98⟩ := hQ98
    have N98 := Fr.app N97 N98q
    have q_r98 : n0 ≤ r98 := Nat.le_trans Z0 Sq98
    have sz_r98 : h0.size ≤ r98 := Nat.le_trans (Keep.refl h0 []).1 Sq98
    have OLD99 := OLD.keep Kq98 all0
    have K99 := (Keep.refl h0 []).trans Kq98 all0
    have Z99 := Nat.le_trans Z0 Kq98.1
    have Vq98 : Av Z T98.heap r98 .byte (0 : Int32) [] (.int (0 : Int32)) := by
      rcases Dq98 with ⟨q | q, -⟩ | ⟨-, -, q⟩
      · exact absurd q (Fld.ne F_ordinal_ROM_DATA F_ordinal_COUNTER (by simp))
      · exact absurd q (Fld.ne F_ordinal_ROM_DATA F_ordinal_CLOCK_OFFSET (by simp))
      · exact q
    refine ogo (fun t k => st98.trans k) ?_
    show OwnEnds _ _ _ _ _ _ _ (T98.setTop (mkF m 35 #[.val (.int p0), .val (.int p1), .val (.int (7 : Int32)), .val (.ref w_ROM_DATA), .val (.int (0 : Int32)), .unset, .unset, .unset] [(.ref r98)]))
    refine ogo (fun t k => XS.astore X98.here hx rfl (hb hby at_35) rfl rfl (l' := #[.val (.int p0), .val (.int p1), .val (.int (7 : Int32)), .val (.ref w_ROM_DATA), .val (.int (0 : Int32)), .val (.ref r98), .unset, .unset]) rfl k) ?_
    show OwnEnds _ _ _ _ _ _ _ (T98.setTop (mkF m 37 #[.val (.int p0), .val (.int p1), .val (.int (7 : Int32)), .val (.ref w_ROM_DATA), .val (.int (0 : Int32)), .val (.ref r98), .unset, .unset] []))
    refine ogo (fun t k => XS.aload X98.here hx rfl (hb hby at_37) rfl rfl k) ?_
    show OwnEnds _ _ _ _ _ _ _ (T98.setTop (mkF m 39 #[.val (.int p0), .val (.int p1), .val (.int (7 : Int32)), .val (.ref w_ROM_DATA), .val (.int (0 : Int32)), .val (.ref r98), .unset, .unset] [(.ref r98)]))
    refine ogo (fun t k => XS.ifnonnullYes X98.here hx rfl (pc0 := 39) (pc' := 44) rfl (hb hby at_39) rfl (by decide) (by decide) k) ?_
    show OwnEnds _ _ _ _ _ _ _ (T98.setTop (mkF m 44 #[.val (.int p0), .val (.int p1), .val (.int (7 : Int32)), .val (.ref w_ROM_DATA), .val (.int (0 : Int32)), .val (.ref r98), .unset, .unset] []))
    refine ogo (fun t k => XS.iload X98.here hx rfl (hb hby at_44) rfl k) ?_
    show OwnEnds _ _ _ _ _ _ _ (T98.setTop (mkF m 46 #[.val (.int p0), .val (.int p1), .val (.int (7 : Int32)), .val (.ref w_ROM_DATA), .val (.int (0 : Int32)), .val (.ref r98), .unset, .unset] [(.int (0 : Int32))]))
    refine ogo (fun t k => XS.ifNo X98.here hx rfl (hb hby at_46) rfl ((if0 _ _).trans (teq (by decide : (0 : Int32) = (0 : Int32))).2) k) ?_
    show OwnEnds _ _ _ _ _ _ _ (T98.setTop (mkF m 49 #[.val (.int p0), .val (.int p1), .val (.int (7 : Int32)), .val (.ref w_ROM_DATA), .val (.int (0 : Int32)), .val (.ref r98), .unset, .unset] []))
    refine ogo (fun t k => XS.aload X98.here hx rfl (hb hby at_49) rfl rfl k) ?_
    show OwnEnds _ _ _ _ _ _ _ (T98.setTop (mkF m 51 #[.val (.int p0), .val (.int p1), .val (.int (7 : Int32)), .val (.ref w_ROM_DATA), .val (.int (0 : Int32)), .val (.ref r98), .unset, .unset] [(.ref r98)]))
    obtain ⟨ak100, cl100, Ar100, Aq100, As100, An100, Ah100, Ag100⟩ := id Vq98
    refine ogo (fun t k => X98.arraylength hx Ar100.1 (State.isArrayOf_alike hZ.alike Ar100.2.1) (g := (mkF m 51 #[.val (.int p0), .val (.int p1), .val (.int (7 : Int32)), .val (.ref w_ROM_DATA), .val (.int (0 : Int32)), .val (.ref r98), .unset, .unset] [(.ref r98)])) rfl rfl (hb hby at_51) t k) ?_
    rw [len_of As100 An100]
    show OwnEnds _ _ _ _ _ _ _ (T98.setTop (mkF m 52 #[.val (.int p0), .val (.int p1), .val (.int (7 : Int32)), .val (.ref w_ROM_DATA), .val (.int (0 : Int32)), .val (.ref r98), .unset, .unset] [(.int (0 : Int32))]))
    refine ogo (fun t k => XS.ifYes X98.here hx rfl (pc0 := 52) (pc' := 57) rfl (hb hby at_52) rfl ((if0 _ _).trans (teq (by decide : (0 : Int32) = (0 : Int32))).1) (by decide) (by decide) k) ?_
    show OwnEnds _ _ _ _ _ _ _ (T98.setTop (mkF m 57 #[.val (.int p0), .val (.int p1), .val (.int (7 : Int32)), .val (.ref w_ROM_DATA), .val (.int (0 : Int32)), .val (.ref r98), .unset, .unset] []))
    refine ogo (fun t k => XS.aloadN X98.here hx rfl (hb hby at_57) rfl rfl k) ?_
    show OwnEnds _ _ _ _ _ _ _ (T98.setTop (mkF m 58 #[.val (.int p0), .val (.int p1), .val (.int (7 : Int32)), .val (.ref w_ROM_DATA), .val (.int (0 : Int32)), .val (.ref r98), .unset, .unset] [(.ref w_ROM_DATA)]))
    obtain ⟨cq101, kq101, q101a, q101b, q101c⟩ := isOf hZ rfl (E_ROM_DATA.ext OLD99.2)
    obtain ⟨v101, _, ⟨T101, L101, k101, n101⟩, -, X101, ⟨Lc101, hQ101, l101, y101, z101⟩, st101⟩ := X98.virtualBack hx (y := (⟨"com/example/opaque_token/opaquetoken/token/ObjectType", "initialValue", "()[B"⟩ : MethodName)) (z := (⟨"com/example/opaque_token/opaquetoken/token/ObjectType", "initialValue", "()[B"⟩ : MethodName)) hown (mvT hZ (hw _ (List.mem_of_getElem? (i := 8) rfl))) (mvT hZ (hw _ (List.mem_of_getElem? (i := 9) rfl))) (notFace_of_selects (args := #[]) (mvT hZ (hw _ (List.mem_of_getElem? (i := 11) rfl)))) (mvT hZ (hw _ (List.mem_of_getElem? (i := 11) rfl))) (mvT hZ (hw _ (List.mem_of_getElem? (i := 10) rfl))) (by decide) (backOf (W := 0) (rm2 l Z a0 hw [] w_ROM_DATA w_COUNTER w_CLOCK_OFFSET T98.heap n0 Z99 OLD99 S_COUNTER S_CLOCK_OFFSET) hZ (hw _ (List.mem_of_getElem? (i := 12) rfl)) (hw _ (List.mem_of_getElem? (i := 6) rfl)) (by decide) (by decide)) q101a q101c (g := (mkF m 58 #[.val (.int p0), .val (.int p1), .val (.int (7 : Int32)), .val (.ref w_ROM_DATA), .val (.int (0 : Int32)), .val (.ref r98), .unset, .unset] [(.ref w_ROM_DATA)])) rfl (by rw [hml]; rfl) (Steps.refl _) (argsL := []) (rest := []) (lenOf pd____B rfl) rfl (by show 2 * 0 + _ ≤ _; exact Nat.le_of_eq rfl) (hb hby at_58) (fun _ _ => ⟨rfl, rfl, (by decide : 1 + 1 ≤ _), (by decide : 4 + 4 ≤ _)⟩)
    dsimp only [Pt.U, Pt.locs, Pt.cells, Pt.slots] at X101 l101 y101 z101 st101 hQ101
    subst l101 y101 z101
    obtain ⟨r101, rfl, Sq101, N101q, Kq101, Dq101⟩ := hQ101
    have N101 := Fr.app N98 N101q
    have ne_r98_r101 : r98 ≠ r101 := Nat.ne_of_lt (Nat.lt_of_lt_of_le (Vq98).lt Sq101)
    have q_r101 : n0 ≤ r101 := Nat.le_trans Z99 Sq101
    have sz_r101 : h0.size ≤ r101 := Nat.le_trans K99.1 Sq101
    have f102 := Vq98.keep Kq101 nin0
    have OLD103 := OLD99.keep Kq101 all0
    have K103 := K99.trans Kq101 all0
    have Z103 := Nat.le_trans Z99 Kq101.1
    have Vq101 : Av Z T101.heap r101 .byte (0 : Int32) [] (.int (0 : Int32)) := by
      rcases Dq101 with ⟨q | q, -⟩ | ⟨-, -, q⟩
      · exact absurd q (Fld.ne F_ordinal_ROM_DATA F_ordinal_COUNTER (by simp))
      · exact absurd q (Fld.ne F_ordinal_ROM_DATA F_ordinal_CLOCK_OFFSET (by simp))
      · exact q
    refine ogo (fun t k => st101.trans k) ?_
    show OwnEnds _ _ _ _ _ _ _ (T101.setTop (mkF m 61 #[.val (.int p0), .val (.int p1), .val (.int (7 : Int32)), .val (.ref w_ROM_DATA), .val (.int (0 : Int32)), .val (.ref r98), .unset, .unset] [(.ref r101)]))
    refine ogo (fun t k => XS.astore X101.here hx rfl (hb hby at_61) rfl rfl (l' := #[.val (.int p0), .val (.int p1), .val (.int (7 : Int32)), .val (.ref w_ROM_DATA), .val (.int (0 : Int32)), .val (.ref r98), .val (.ref r101), .unset]) rfl k) ?_
    show OwnEnds _ _ _ _ _ _ _ (T101.setTop (mkF m 63 #[.val (.int p0), .val (.int p1), .val (.int (7 : Int32)), .val (.ref w_ROM_DATA), .val (.int (0 : Int32)), .val (.ref r98), .val (.ref r101), .unset] []))
    refine ogo (fun t k => XS.aload X101.here hx rfl (hb hby at_63) rfl rfl k) ?_
    show OwnEnds _ _ _ _ _ _ _ (T101.setTop (mkF m 65 #[.val (.int p0), .val (.int p1), .val (.int (7 : Int32)), .val (.ref w_ROM_DATA), .val (.int (0 : Int32)), .val (.ref r98), .val (.ref r101), .unset] [(.ref r101)]))
    refine ogo (fun t k => XS.ifnullNo X101.here hx rfl (hb hby at_65) rfl k) ?_
    show OwnEnds _ _ _ _ _ _ _ (T101.setTop (mkF m 68 #[.val (.int p0), .val (.int p1), .val (.int (7 : Int32)), .val (.ref w_ROM_DATA), .val (.int (0 : Int32)), .val (.ref r98), .val (.ref r101), .unset] []))
    refine ogo (fun t k => XS.aload X101.here hx rfl (hb hby at_68) rfl rfl k) ?_
    show OwnEnds _ _ _ _ _ _ _ (T101.setTop (mkF m 70 #[.val (.int p0), .val (.int p1), .val (.int (7 : Int32)), .val (.ref w_ROM_DATA), .val (.int (0 : Int32)), .val (.ref r98), .val (.ref r101), .unset] [(.ref r101)]))
    obtain ⟨ak104, cl104, Ar104, Aq104, As104, An104, Ah104, Ag104⟩ := id Vq101
    refine ogo (fun t k => X101.arraylength hx Ar104.1 (State.isArrayOf_alike hZ.alike Ar104.2.1) (g := (mkF m 70 #[.val (.int p0), .val (.int p1), .val (.int (7 : Int32)), .val (.ref w_ROM_DATA), .val (.int (0 : Int32)), .val (.ref r98), .val (.ref r101), .unset] [(.ref r101)])) rfl rfl (hb hby at_70) t k) ?_
    rw [len_of As104 An104]
    show OwnEnds _ _ _ _ _ _ _ (T101.setTop (mkF m 71 #[.val (.int p0), .val (.int p1), .val (.int (7 : Int32)), .val (.ref w_ROM_DATA), .val (.int (0 : Int32)), .val (.ref r98), .val (.ref r101), .unset] [(.int (0 : Int32))]))
    refine ogo (fun t k => XS.ifNo X101.here hx rfl (hb hby at_71) rfl ((if0 _ _).trans (teq (by decide : (0 : Int32) = (0 : Int32))).2) k) ?_
    show OwnEnds _ _ _ _ _ _ _ (T101.setTop (mkF m 74 #[.val (.int p0), .val (.int p1), .val (.int (7 : Int32)), .val (.ref w_ROM_DATA), .val (.int (0 : Int32)), .val (.ref r98), .val (.ref r101), .unset] []))
    refine ogo (fun t k => XS.iconst X101.here hx rfl (hb hby at_74) k) ?_
    show OwnEnds _ _ _ _ _ _ _ (T101.setTop (mkF m 75 #[.val (.int p0), .val (.int p1), .val (.int (7 : Int32)), .val (.ref w_ROM_DATA), .val (.int (0 : Int32)), .val (.ref r98), .val (.ref r101), .unset] [(.int (1 : Int32))]))
    refine ogo (fun t k => XS.goto X101.here hx rfl (pc0 := 75) (pc' := 79) rfl (hb hby at_75) (by decide) (by decide) k) ?_
    show OwnEnds _ _ _ _ _ _ _ (T101.setTop (mkF m 79 #[.val (.int p0), .val (.int p1), .val (.int (7 : Int32)), .val (.ref w_ROM_DATA), .val (.int (0 : Int32)), .val (.ref r98), .val (.ref r101), .unset] [(.int (1 : Int32))]))
    refine endZ X101 hx hlk Bd.returns rfl (hb hby at_79) (by decide) (by decide) ?_
    show Q0 Z p0 p1 w_INPUT_DATA w_COUNTER w_CLOCK_OFFSET w_MODULUS w_OUTPUT_DATA w_RANDOM_FILL w_EXPONENT w_CONFIGURATION w_ROM_DATA h0 n0 _ T101.heap _
    exact ⟨rfl, N101⟩
  · show OwnEnds _ _ _ _ _ _ _ (s₁.setTop (mkF m 7 #[.val (.int p0), .val (.int p1), .unset, .unset, .unset, .unset, .unset, .unset] [(.int (8 : Int32))]))
    refine ogo (fun t k => XS.istoreN X0.here hx rfl (hb hby at_7) rfl (l' := #[.val (.int p0), .val (.int p1), .val (.int (8 : Int32)), .unset, .unset, .unset, .unset, .unset]) rfl k) ?_
    show OwnEnds _ _ _ _ _ _ _ (s₁.setTop (mkF m 8 #[.val (.int p0), .val (.int p1), .val (.int (8 : Int32)), .unset, .unset, .unset, .unset, .unset] []))
    refine ogo (fun t k => XS.iloadN X0.here hx rfl (hb hby at_8) rfl k) ?_
    show OwnEnds _ _ _ _ _ _ _ (s₁.setTop (mkF m 9 #[.val (.int p0), .val (.int p1), .val (.int (8 : Int32)), .unset, .unset, .unset, .unset, .unset] [(.int (8 : Int32))]))
    obtain ⟨v105, _, ⟨T105, L105, k105, n105⟩, -, X105, ⟨Lc105, hQ105, l105, y105, z105⟩, st105⟩ := Jvm.LawKit.callS X0 hx (y := (⟨"com/example/opaque_token/opaquetoken/token/ObjectTypeInitialValuePinLaw", "pick", "(I)Lcom/example/opaque_token/opaquetoken/token/ObjectType;"⟩ : MethodName)) hown (mvT hZ (hw _ (List.mem_of_getElem? (i := 1) rfl))) (mvT hZ (hw _ (List.mem_of_getElem? (i := 2) rfl))) (mvT hZ (hw _ (List.mem_of_getElem? (i := 3) rfl))) (mvT hZ (hw _ (List.mem_of_getElem? (i := 4) rfl))) (by decide) (backOf (W := 0) (rm1 l Z a0 hw [] (8 : Int32) w_INPUT_DATA w_OUTPUT_DATA w_CONFIGURATION w_EXPONENT w_MODULUS w_COUNTER w_CLOCK_OFFSET w_ROM_DATA w_RANDOM_FILL h0 n0 Z0 OLD S_INPUT_DATA S_OUTPUT_DATA S_CONFIGURATION S_EXPONENT S_MODULUS S_COUNTER S_CLOCK_OFFSET S_ROM_DATA S_RANDOM_FILL) hZ (hw _ (List.mem_of_getElem? (i := 4) rfl)) (hw _ (List.mem_of_getElem? (i := 3) rfl)) (by decide) (by decide)) (g := (mkF m 9 #[.val (.int p0), .val (.int p1), .val (.int (8 : Int32)), .unset, .unset, .unset, .unset, .unset] [(.int (8 : Int32))])) rfl (by rw [hml]; rfl) (argsL := [(.int (8 : Int32))]) (rest := []) (lenOf pd_e6b9a279 rfl) rfl (by show 2 * 0 + _ ≤ _; exact Nat.le_of_eq rfl) (hb hby at_9) (fun _ _ => ⟨rfl, e0, (by decide : 0 + 0 ≤ _), (by decide : 0 + 0 ≤ _)⟩)
    dsimp only [Pt.U, Pt.locs, Pt.cells, Pt.slots] at X105 l105 y105 z105 st105 hQ105
    subst l105 y105 z105
    obtain ⟨hv105, N105q, e105⟩ := hQ105
    obtain rfl : v105 = some (.ref w_RANDOM_FILL) := hv105.trans (by simp [own_pick])
    have N105 := Fr.app N0 N105q
    refine ogo (fun t k => st105 t k) ?_
    show OwnEnds _ _ _ _ _ _ _ (T105.setTop (mkF m 12 #[.val (.int p0), .val (.int p1), .val (.int (8 : Int32)), .unset, .unset, .unset, .unset, .unset] [(.ref w_RANDOM_FILL)]))
    refine ogo (fun t k => XS.astoreN X105.here hx rfl (hb hby at_12) rfl rfl (l' := #[.val (.int p0), .val (.int p1), .val (.int (8 : Int32)), .val (.ref w_RANDOM_FILL), .unset, .unset, .unset, .unset]) rfl k) ?_
    show OwnEnds _ _ _ _ _ _ _ (T105.setTop (mkF m 13 #[.val (.int p0), .val (.int p1), .val (.int (8 : Int32)), .val (.ref w_RANDOM_FILL), .unset, .unset, .unset, .unset] []))
    refine ogo (fun t k => XS.iloadN X105.here hx rfl (hb hby at_13) rfl k) ?_
    show OwnEnds _ _ _ _ _ _ _ (T105.setTop (mkF m 14 #[.val (.int p0), .val (.int p1), .val (.int (8 : Int32)), .val (.ref w_RANDOM_FILL), .unset, .unset, .unset, .unset] [(.int (8 : Int32))]))
    refine ogo (fun t k => XS.iconst X105.here hx rfl (hb hby at_14) k) ?_
    show OwnEnds _ _ _ _ _ _ _ (T105.setTop (mkF m 15 #[.val (.int p0), .val (.int p1), .val (.int (8 : Int32)), .val (.ref w_RANDOM_FILL), .unset, .unset, .unset, .unset] [(.int (5 : Int32)), (.int (8 : Int32))]))
    refine ogo (fun t k => XS.icmpNo X105.here hx rfl (hb hby at_15) rfl (feq (by decide : ¬ ((8 : Int32) = (5 : Int32)))).1 k) ?_
    show OwnEnds _ _ _ _ _ _ _ (T105.setTop (mkF m 18 #[.val (.int p0), .val (.int p1), .val (.int (8 : Int32)), .val (.ref w_RANDOM_FILL), .unset, .unset, .unset, .unset] []))
    refine ogo (fun t k => XS.iloadN X105.here hx rfl (hb hby at_18) rfl k) ?_
    show OwnEnds _ _ _ _ _ _ _ (T105.setTop (mkF m 19 #[.val (.int p0), .val (.int p1), .val (.int (8 : Int32)), .val (.ref w_RANDOM_FILL), .unset, .unset, .unset, .unset] [(.int (8 : Int32))]))
    refine ogo (fun t k => XS.bipush X105.here hx rfl (hb hby at_19) k) ?_
    show OwnEnds _ _ _ _ _ _ _ (T105.setTop (mkF m 21 #[.val (.int p0), .val (.int p1), .val (.int (8 : Int32)), .val (.ref w_RANDOM_FILL), .unset, .unset, .unset, .unset] [(.int (6 : Int32)), (.int (8 : Int32))]))
    refine ogo (fun t k => XS.icmpYes X105.here hx rfl (pc0 := 21) (pc' := 28) rfl (hb hby at_21) rfl (feq (by decide : ¬ ((8 : Int32) = (6 : Int32)))).2 (by decide) (by decide) k) ?_
    show OwnEnds _ _ _ _ _ _ _ (T105.setTop (mkF m 28 #[.val (.int p0), .val (.int p1), .val (.int (8 : Int32)), .val (.ref w_RANDOM_FILL), .unset, .unset, .unset, .unset] []))
    refine ogo (fun t k => XS.iconst X105.here hx rfl (hb hby at_28) k) ?_
    show OwnEnds _ _ _ _ _ _ _ (T105.setTop (mkF m 29 #[.val (.int p0), .val (.int p1), .val (.int (8 : Int32)), .val (.ref w_RANDOM_FILL), .unset, .unset, .unset, .unset] [(.int (0 : Int32))]))
    refine ogo (fun t k => XS.istore X105.here hx rfl (hb hby at_29) rfl (l' := #[.val (.int p0), .val (.int p1), .val (.int (8 : Int32)), .val (.ref w_RANDOM_FILL), .val (.int (0 : Int32)), .unset, .unset, .unset]) rfl k) ?_
    show OwnEnds _ _ _ _ _ _ _ (T105.setTop (mkF m 31 #[.val (.int p0), .val (.int p1), .val (.int (8 : Int32)), .val (.ref w_RANDOM_FILL), .val (.int (0 : Int32)), .unset, .unset, .unset] []))
    refine ogo (fun t k => XS.aloadN X105.here hx rfl (hb hby at_31) rfl rfl k) ?_
    show OwnEnds _ _ _ _ _ _ _ (T105.setTop (mkF m 32 #[.val (.int p0), .val (.int p1), .val (.int (8 : Int32)), .val (.ref w_RANDOM_FILL), .val (.int (0 : Int32)), .unset, .unset, .unset] [(.ref w_RANDOM_FILL)]))
    obtain ⟨cq106, kq106, q106a, q106b, q106c⟩ := isOf hZ e105 (E_RANDOM_FILL.ext OLD.2)
    obtain ⟨v106, _, ⟨T106, L106, k106, n106⟩, -, X106, ⟨Lc106, hQ106, l106, y106, z106⟩, st106⟩ := X105.virtualBack hx (y := (⟨"com/example/opaque_token/opaquetoken/token/ObjectType", "initialValue", "()[B"⟩ : MethodName)) (z := (⟨"com/example/opaque_token/opaquetoken/token/ObjectType", "initialValue", "()[B"⟩ : MethodName)) hown (mvT hZ (hw _ (List.mem_of_getElem? (i := 8) rfl))) (mvT hZ (hw _ (List.mem_of_getElem? (i := 9) rfl))) (notFace_of_selects (args := #[]) (mvT hZ (hw _ (List.mem_of_getElem? (i := 11) rfl)))) (mvT hZ (hw _ (List.mem_of_getElem? (i := 11) rfl))) (mvT hZ (hw _ (List.mem_of_getElem? (i := 10) rfl))) (by decide) (backOf (W := 0) (rm2 l Z a0 hw [] w_RANDOM_FILL w_COUNTER w_CLOCK_OFFSET h0 n0 Z0 OLD S_COUNTER S_CLOCK_OFFSET) hZ (hw _ (List.mem_of_getElem? (i := 12) rfl)) (hw _ (List.mem_of_getElem? (i := 6) rfl)) (by decide) (by decide)) q106a q106c (g := (mkF m 32 #[.val (.int p0), .val (.int p1), .val (.int (8 : Int32)), .val (.ref w_RANDOM_FILL), .val (.int (0 : Int32)), .unset, .unset, .unset] [(.ref w_RANDOM_FILL)])) rfl (by rw [hml]; rfl) (Steps.refl _) (argsL := []) (rest := []) (lenOf pd____B rfl) rfl (by show 2 * 0 + _ ≤ _; exact Nat.le_of_eq rfl) (hb hby at_32) (fun _ _ => ⟨rfl, e105, (by decide : 0 + 1 ≤ _), (by decide : 0 + 4 ≤ _)⟩)
    dsimp only [Pt.U, Pt.locs, Pt.cells, Pt.slots] at X106 l106 y106 z106 st106 hQ106
    subst l106 y106 z106
    obtain ⟨r106, rfl, Sq106, N106q, Kq106, Dq106⟩ := hQ106
    have N106 := Fr.app N105 N106q
    have q_r106 : n0 ≤ r106 := Nat.le_trans Z0 Sq106
    have sz_r106 : h0.size ≤ r106 := Nat.le_trans (Keep.refl h0 []).1 Sq106
    have OLD107 := OLD.keep Kq106 all0
    have K107 := (Keep.refl h0 []).trans Kq106 all0
    have Z107 := Nat.le_trans Z0 Kq106.1
    have Vq106 : Av Z T106.heap r106 .byte (0 : Int32) [] (.int (0 : Int32)) := by
      rcases Dq106 with ⟨q | q, -⟩ | ⟨-, -, q⟩
      · exact absurd q (Fld.ne F_ordinal_RANDOM_FILL F_ordinal_COUNTER (by simp))
      · exact absurd q (Fld.ne F_ordinal_RANDOM_FILL F_ordinal_CLOCK_OFFSET (by simp))
      · exact q
    refine ogo (fun t k => st106.trans k) ?_
    show OwnEnds _ _ _ _ _ _ _ (T106.setTop (mkF m 35 #[.val (.int p0), .val (.int p1), .val (.int (8 : Int32)), .val (.ref w_RANDOM_FILL), .val (.int (0 : Int32)), .unset, .unset, .unset] [(.ref r106)]))
    refine ogo (fun t k => XS.astore X106.here hx rfl (hb hby at_35) rfl rfl (l' := #[.val (.int p0), .val (.int p1), .val (.int (8 : Int32)), .val (.ref w_RANDOM_FILL), .val (.int (0 : Int32)), .val (.ref r106), .unset, .unset]) rfl k) ?_
    show OwnEnds _ _ _ _ _ _ _ (T106.setTop (mkF m 37 #[.val (.int p0), .val (.int p1), .val (.int (8 : Int32)), .val (.ref w_RANDOM_FILL), .val (.int (0 : Int32)), .val (.ref r106), .unset, .unset] []))
    refine ogo (fun t k => XS.aload X106.here hx rfl (hb hby at_37) rfl rfl k) ?_
    show OwnEnds _ _ _ _ _ _ _ (T106.setTop (mkF m 39 #[.val (.int p0), .val (.int p1), .val (.int (8 : Int32)), .val (.ref w_RANDOM_FILL), .val (.int (0 : Int32)), .val (.ref r106), .unset, .unset] [(.ref r106)]))
    refine ogo (fun t k => XS.ifnonnullYes X106.here hx rfl (pc0 := 39) (pc' := 44) rfl (hb hby at_39) rfl (by decide) (by decide) k) ?_
    show OwnEnds _ _ _ _ _ _ _ (T106.setTop (mkF m 44 #[.val (.int p0), .val (.int p1), .val (.int (8 : Int32)), .val (.ref w_RANDOM_FILL), .val (.int (0 : Int32)), .val (.ref r106), .unset, .unset] []))
    refine ogo (fun t k => XS.iload X106.here hx rfl (hb hby at_44) rfl k) ?_
    show OwnEnds _ _ _ _ _ _ _ (T106.setTop (mkF m 46 #[.val (.int p0), .val (.int p1), .val (.int (8 : Int32)), .val (.ref w_RANDOM_FILL), .val (.int (0 : Int32)), .val (.ref r106), .unset, .unset] [(.int (0 : Int32))]))
    refine ogo (fun t k => XS.ifNo X106.here hx rfl (hb hby at_46) rfl ((if0 _ _).trans (teq (by decide : (0 : Int32) = (0 : Int32))).2) k) ?_
    show OwnEnds _ _ _ _ _ _ _ (T106.setTop (mkF m 49 #[.val (.int p0), .val (.int p1), .val (.int (8 : Int32)), .val (.ref w_RANDOM_FILL), .val (.int (0 : Int32)), .val (.ref r106), .unset, .unset] []))
    refine ogo (fun t k => XS.aload X106.here hx rfl (hb hby at_49) rfl rfl k) ?_
    show OwnEnds _ _ _ _ _ _ _ (T106.setTop (mkF m 51 #[.val (.int p0), .val (.int p1), .val (.int (8 : Int32)), .val (.ref w_RANDOM_FILL), .val (.int (0 : Int32)), .val (.ref r106), .unset, .unset] [(.ref r106)]))
    obtain ⟨ak108, cl108, Ar108, Aq108, As108, An108, Ah108, Ag108⟩ := id Vq106
    refine ogo (fun t k => X106.arraylength hx Ar108.1 (State.isArrayOf_alike hZ.alike Ar108.2.1) (g := (mkF m 51 #[.val (.int p0), .val (.int p1), .val (.int (8 : Int32)), .val (.ref w_RANDOM_FILL), .val (.int (0 : Int32)), .val (.ref r106), .unset, .unset] [(.ref r106)])) rfl rfl (hb hby at_51) t k) ?_
    rw [len_of As108 An108]
    show OwnEnds _ _ _ _ _ _ _ (T106.setTop (mkF m 52 #[.val (.int p0), .val (.int p1), .val (.int (8 : Int32)), .val (.ref w_RANDOM_FILL), .val (.int (0 : Int32)), .val (.ref r106), .unset, .unset] [(.int (0 : Int32))]))
    refine ogo (fun t k => XS.ifYes X106.here hx rfl (pc0 := 52) (pc' := 57) rfl (hb hby at_52) rfl ((if0 _ _).trans (teq (by decide : (0 : Int32) = (0 : Int32))).1) (by decide) (by decide) k) ?_
    show OwnEnds _ _ _ _ _ _ _ (T106.setTop (mkF m 57 #[.val (.int p0), .val (.int p1), .val (.int (8 : Int32)), .val (.ref w_RANDOM_FILL), .val (.int (0 : Int32)), .val (.ref r106), .unset, .unset] []))
    refine ogo (fun t k => XS.aloadN X106.here hx rfl (hb hby at_57) rfl rfl k) ?_
    show OwnEnds _ _ _ _ _ _ _ (T106.setTop (mkF m 58 #[.val (.int p0), .val (.int p1), .val (.int (8 : Int32)), .val (.ref w_RANDOM_FILL), .val (.int (0 : Int32)), .val (.ref r106), .unset, .unset] [(.ref w_RANDOM_FILL)]))
    obtain ⟨cq109, kq109, q109a, q109b, q109c⟩ := isOf hZ rfl (E_RANDOM_FILL.ext OLD107.2)
    obtain ⟨v109, _, ⟨T109, L109, k109, n109⟩, -, X109, ⟨Lc109, hQ109, l109, y109, z109⟩, st109⟩ := X106.virtualBack hx (y := (⟨"com/example/opaque_token/opaquetoken/token/ObjectType", "initialValue", "()[B"⟩ : MethodName)) (z := (⟨"com/example/opaque_token/opaquetoken/token/ObjectType", "initialValue", "()[B"⟩ : MethodName)) hown (mvT hZ (hw _ (List.mem_of_getElem? (i := 8) rfl))) (mvT hZ (hw _ (List.mem_of_getElem? (i := 9) rfl))) (notFace_of_selects (args := #[]) (mvT hZ (hw _ (List.mem_of_getElem? (i := 11) rfl)))) (mvT hZ (hw _ (List.mem_of_getElem? (i := 11) rfl))) (mvT hZ (hw _ (List.mem_of_getElem? (i := 10) rfl))) (by decide) (backOf (W := 0) (rm2 l Z a0 hw [] w_RANDOM_FILL w_COUNTER w_CLOCK_OFFSET T106.heap n0 Z107 OLD107 S_COUNTER S_CLOCK_OFFSET) hZ (hw _ (List.mem_of_getElem? (i := 12) rfl)) (hw _ (List.mem_of_getElem? (i := 6) rfl)) (by decide) (by decide)) q109a q109c (g := (mkF m 58 #[.val (.int p0), .val (.int p1), .val (.int (8 : Int32)), .val (.ref w_RANDOM_FILL), .val (.int (0 : Int32)), .val (.ref r106), .unset, .unset] [(.ref w_RANDOM_FILL)])) rfl (by rw [hml]; rfl) (Steps.refl _) (argsL := []) (rest := []) (lenOf pd____B rfl) rfl (by show 2 * 0 + _ ≤ _; exact Nat.le_of_eq rfl) (hb hby at_58) (fun _ _ => ⟨rfl, rfl, (by decide : 1 + 1 ≤ _), (by decide : 4 + 4 ≤ _)⟩)
    dsimp only [Pt.U, Pt.locs, Pt.cells, Pt.slots] at X109 l109 y109 z109 st109 hQ109
    subst l109 y109 z109
    obtain ⟨r109, rfl, Sq109, N109q, Kq109, Dq109⟩ := hQ109
    have N109 := Fr.app N106 N109q
    have ne_r106_r109 : r106 ≠ r109 := Nat.ne_of_lt (Nat.lt_of_lt_of_le (Vq106).lt Sq109)
    have q_r109 : n0 ≤ r109 := Nat.le_trans Z107 Sq109
    have sz_r109 : h0.size ≤ r109 := Nat.le_trans K107.1 Sq109
    have f110 := Vq106.keep Kq109 nin0
    have OLD111 := OLD107.keep Kq109 all0
    have K111 := K107.trans Kq109 all0
    have Z111 := Nat.le_trans Z107 Kq109.1
    have Vq109 : Av Z T109.heap r109 .byte (0 : Int32) [] (.int (0 : Int32)) := by
      rcases Dq109 with ⟨q | q, -⟩ | ⟨-, -, q⟩
      · exact absurd q (Fld.ne F_ordinal_RANDOM_FILL F_ordinal_COUNTER (by simp))
      · exact absurd q (Fld.ne F_ordinal_RANDOM_FILL F_ordinal_CLOCK_OFFSET (by simp))
      · exact q
    refine ogo (fun t k => st109.trans k) ?_
    show OwnEnds _ _ _ _ _ _ _ (T109.setTop (mkF m 61 #[.val (.int p0), .val (.int p1), .val (.int (8 : Int32)), .val (.ref w_RANDOM_FILL), .val (.int (0 : Int32)), .val (.ref r106), .unset, .unset] [(.ref r109)]))
    refine ogo (fun t k => XS.astore X109.here hx rfl (hb hby at_61) rfl rfl (l' := #[.val (.int p0), .val (.int p1), .val (.int (8 : Int32)), .val (.ref w_RANDOM_FILL), .val (.int (0 : Int32)), .val (.ref r106), .val (.ref r109), .unset]) rfl k) ?_
    show OwnEnds _ _ _ _ _ _ _ (T109.setTop (mkF m 63 #[.val (.int p0), .val (.int p1), .val (.int (8 : Int32)), .val (.ref w_RANDOM_FILL), .val (.int (0 : Int32)), .val (.ref r106), .val (.ref r109), .unset] []))
    refine ogo (fun t k => XS.aload X109.here hx rfl (hb hby at_63) rfl rfl k) ?_
    show OwnEnds _ _ _ _ _ _ _ (T109.setTop (mkF m 65 #[.val (.int p0), .val (.int p1), .val (.int (8 : Int32)), .val (.ref w_RANDOM_FILL), .val (.int (0 : Int32)), .val (.ref r106), .val (.ref r109), .unset] [(.ref r109)]))
    refine ogo (fun t k => XS.ifnullNo X109.here hx rfl (hb hby at_65) rfl k) ?_
    show OwnEnds _ _ _ _ _ _ _ (T109.setTop (mkF m 68 #[.val (.int p0), .val (.int p1), .val (.int (8 : Int32)), .val (.ref w_RANDOM_FILL), .val (.int (0 : Int32)), .val (.ref r106), .val (.ref r109), .unset] []))
    refine ogo (fun t k => XS.aload X109.here hx rfl (hb hby at_68) rfl rfl k) ?_
    show OwnEnds _ _ _ _ _ _ _ (T109.setTop (mkF m 70 #[.val (.int p0), .val (.int p1), .val (.int (8 : Int32)), .val (.ref w_RANDOM_FILL), .val (.int (0 : Int32)), .val (.ref r106), .val (.ref r109), .unset] [(.ref r109)]))
    obtain ⟨ak112, cl112, Ar112, Aq112, As112, An112, Ah112, Ag112⟩ := id Vq109
    refine ogo (fun t k => X109.arraylength hx Ar112.1 (State.isArrayOf_alike hZ.alike Ar112.2.1) (g := (mkF m 70 #[.val (.int p0), .val (.int p1), .val (.int (8 : Int32)), .val (.ref w_RANDOM_FILL), .val (.int (0 : Int32)), .val (.ref r106), .val (.ref r109), .unset] [(.ref r109)])) rfl rfl (hb hby at_70) t k) ?_
    rw [len_of As112 An112]
    show OwnEnds _ _ _ _ _ _ _ (T109.setTop (mkF m 71 #[.val (.int p0), .val (.int p1), .val (.int (8 : Int32)), .val (.ref w_RANDOM_FILL), .val (.int (0 : Int32)), .val (.ref r106), .val (.ref r109), .unset] [(.int (0 : Int32))]))
    refine ogo (fun t k => XS.ifNo X109.here hx rfl (hb hby at_71) rfl ((if0 _ _).trans (teq (by decide : (0 : Int32) = (0 : Int32))).2) k) ?_
    show OwnEnds _ _ _ _ _ _ _ (T109.setTop (mkF m 74 #[.val (.int p0), .val (.int p1), .val (.int (8 : Int32)), .val (.ref w_RANDOM_FILL), .val (.int (0 : Int32)), .val (.ref r106), .val (.ref r109), .unset] []))
    refine ogo (fun t k => XS.iconst X109.here hx rfl (hb hby at_74) k) ?_
    show OwnEnds _ _ _ _ _ _ _ (T109.setTop (mkF m 75 #[.val (.int p0), .val (.int p1), .val (.int (8 : Int32)), .val (.ref w_RANDOM_FILL), .val (.int (0 : Int32)), .val (.ref r106), .val (.ref r109), .unset] [(.int (1 : Int32))]))
    refine ogo (fun t k => XS.goto X109.here hx rfl (pc0 := 75) (pc' := 79) rfl (hb hby at_75) (by decide) (by decide) k) ?_
    show OwnEnds _ _ _ _ _ _ _ (T109.setTop (mkF m 79 #[.val (.int p0), .val (.int p1), .val (.int (8 : Int32)), .val (.ref w_RANDOM_FILL), .val (.int (0 : Int32)), .val (.ref r106), .val (.ref r109), .unset] [(.int (1 : Int32))]))
    refine endZ X109 hx hlk Bd.returns rfl (hb hby at_79) (by decide) (by decide) ?_
    show Q0 Z p0 p1 w_INPUT_DATA w_COUNTER w_CLOCK_OFFSET w_MODULUS w_OUTPUT_DATA w_RANDOM_FILL w_EXPONENT w_CONFIGURATION w_ROM_DATA h0 n0 _ T109.heap _
    exact ⟨rfl, N109⟩
set_option maxRecDepth 65536 in
set_option maxHeartbeats 40000000 in
theorem comes_1 {Post : Tables → Env → Array Value → State → Outcome → State → Prop} (hpost : ∀ tb e args s v u, (limb_1_1.after args s (.returned v) u = true ∧ limb_1_2.after args s (.returned v) u = true ∧ True) → FrameEnd s (.returned v) u (Jvm.fieldLocs frame_1_writes args s ++ Jvm.arrayLocs frame_1_arrays args s ++ Jvm.staticLocs frame_1_statics s) 16 128 → Post tb e args s (.returned v) u) :
    ArmFor flags0 classFile x code maxLocals ret World_1 tables_1 room_1 Calls_1 rest_1 Pre_1 Post := by
  intro l hfl _ _ p e ha hc hk s m args below hf hA hF happ hP
  obtain ⟨hcalls, hrest, hpre⟩ := hP
  obtain ⟨-, -, -, hnamed, -, -, -, hat⟩ := (Spec.applies_iff hf).mp happ
  obtain ⟨hg, hn⟩ := and_e (Cond.before_iff.mp (show (Jvm.Cond.and given_1 narrow_1).before args s = true from hpre))
  obtain ⟨hcount, hg0⟩ := and_e hg
  obtain ⟨hk0, hg1⟩ := and_e hg0
  have hk1 := hg1
  obtain ⟨w0, w1, rfl⟩ : ∃ w0 w1 : Value, args = #[w0, w1] := by
    have hs : args.size = 2 := by simpa [Cond.value, given_1] using hcount
    obtain ⟨L⟩ := args
    match L, hs with
    | [w0, w1], _ => exact ⟨w0, w1, rfl⟩
  have hw := fun d (hd : d ∈ tables_1) => atoms_spec (ws := Jvm.Cond.code x code maxLocals ret :: tables_1) hat d (List.mem_cons_of_mem _ hd)
  have hfit : Fit s := fun {y c} hc i hi => by
    obtain ⟨ha, rfl⟩ := Array.getElem?_eq_some_iff.mp hc
    have q := List.all_eq_true.mp ((Array.all_eq_true_iff_forall_mem.mp hF) _ (Array.getElem_mem ha)) i (List.mem_range.mpr hi)
    simpa [Array.getElem?_eq_getElem hi] using q
  obtain ⟨i0, ei0⟩ := is_v hk0
  obtain rfl : w0 = (.int i0) := Option.some.inj ei0
  obtain ⟨i1, ei1⟩ := is_v hk1
  obtain rfl : w1 = (.int i1) := Option.some.inj ei1
  obtain ⟨u1a, u1b⟩ := and_e hn
  obtain ⟨u2a, u2b⟩ := and_e u1b
  obtain ⟨u3a, u3b⟩ := and_e u2b
  obtain ⟨u4a, u4b⟩ := and_e u3b
  obtain ⟨u5a, u5b⟩ := and_e u4b
  obtain ⟨u6a, u6b⟩ := and_e u5b
  obtain ⟨u7a, u7b⟩ := and_e u6b
  obtain ⟨u8a, u8b⟩ := and_e u7b
  obtain ⟨u9a, u9b⟩ := and_e u8b
  obtain ⟨u10a, u10b⟩ := and_e u9b
  obtain ⟨u11a, u11b⟩ := and_e u10b
  obtain ⟨u12a, u12b⟩ := and_e u11b
  obtain ⟨u13a, u13b⟩ := and_e u12b
  obtain ⟨u14a, u14b⟩ := and_e u13b
  obtain ⟨u15a, u15b⟩ := and_e u14b
  obtain ⟨u16a, u16b⟩ := and_e u15b
  obtain ⟨u17a, u17b⟩ := and_e u16b
  obtain ⟨w_INPUT_DATA, ev_INPUT_DATA⟩ := exa_v u1a
  have S_INPUT_DATA : Sta s s.heap "com/example/opaque_token/opaquetoken/token/ObjectType" "INPUT_DATA" "Lcom/example/opaque_token/opaquetoken/token/ObjectType;" (.ref w_INPUT_DATA) := Sta.start ev_INPUT_DATA (Or.inr ⟨(hw _ (List.mem_of_getElem? (i := 6) rfl)), (hw _ (List.mem_of_getElem? (i := 7) rfl))⟩)
  have E_INPUT_DATA : Exa s s.heap w_INPUT_DATA "com/example/opaque_token/opaquetoken/token/ObjectType" := Exa.start ev_INPUT_DATA u1a
  obtain ⟨w_COUNTER, ev_COUNTER⟩ := exa_v u2a
  have S_COUNTER : Sta s s.heap "com/example/opaque_token/opaquetoken/token/ObjectType" "COUNTER" "Lcom/example/opaque_token/opaquetoken/token/ObjectType;" (.ref w_COUNTER) := Sta.start ev_COUNTER (Or.inr ⟨(hw _ (List.mem_of_getElem? (i := 6) rfl)), (hw _ (List.mem_of_getElem? (i := 14) rfl))⟩)
  have E_COUNTER : Exa s s.heap w_COUNTER "com/example/opaque_token/opaquetoken/token/ObjectType" := Exa.start ev_COUNTER u2a
  obtain ⟨w_CLOCK_OFFSET, ev_CLOCK_OFFSET⟩ := exa_v u5a
  have S_CLOCK_OFFSET : Sta s s.heap "com/example/opaque_token/opaquetoken/token/ObjectType" "CLOCK_OFFSET" "Lcom/example/opaque_token/opaquetoken/token/ObjectType;" (.ref w_CLOCK_OFFSET) := Sta.start ev_CLOCK_OFFSET (Or.inr ⟨(hw _ (List.mem_of_getElem? (i := 6) rfl)), (hw _ (List.mem_of_getElem? (i := 16) rfl))⟩)
  have E_CLOCK_OFFSET : Exa s s.heap w_CLOCK_OFFSET "com/example/opaque_token/opaquetoken/token/ObjectType" := Exa.start ev_CLOCK_OFFSET u5a
  obtain ⟨w_MODULUS, ev_MODULUS⟩ := exa_v u7a
  have S_MODULUS : Sta s s.heap "com/example/opaque_token/opaquetoken/token/ObjectType" "MODULUS" "Lcom/example/opaque_token/opaquetoken/token/ObjectType;" (.ref w_MODULUS) := Sta.start ev_MODULUS (Or.inr ⟨(hw _ (List.mem_of_getElem? (i := 6) rfl)), (hw _ (List.mem_of_getElem? (i := 23) rfl))⟩)
  have E_MODULUS : Exa s s.heap w_MODULUS "com/example/opaque_token/opaquetoken/token/ObjectType" := Exa.start ev_MODULUS u7a
  obtain ⟨w_OUTPUT_DATA, ev_OUTPUT_DATA⟩ := exa_v u9a
  have S_OUTPUT_DATA : Sta s s.heap "com/example/opaque_token/opaquetoken/token/ObjectType" "OUTPUT_DATA" "Lcom/example/opaque_token/opaquetoken/token/ObjectType;" (.ref w_OUTPUT_DATA) := Sta.start ev_OUTPUT_DATA (Or.inr ⟨(hw _ (List.mem_of_getElem? (i := 6) rfl)), (hw _ (List.mem_of_getElem? (i := 25) rfl))⟩)
  have E_OUTPUT_DATA : Exa s s.heap w_OUTPUT_DATA "com/example/opaque_token/opaquetoken/token/ObjectType" := Exa.start ev_OUTPUT_DATA u9a
  obtain ⟨w_RANDOM_FILL, ev_RANDOM_FILL⟩ := exa_v u11a
  have S_RANDOM_FILL : Sta s s.heap "com/example/opaque_token/opaquetoken/token/ObjectType" "RANDOM_FILL" "Lcom/example/opaque_token/opaquetoken/token/ObjectType;" (.ref w_RANDOM_FILL) := Sta.start ev_RANDOM_FILL (Or.inr ⟨(hw _ (List.mem_of_getElem? (i := 6) rfl)), (hw _ (List.mem_of_getElem? (i := 28) rfl))⟩)
  have E_RANDOM_FILL : Exa s s.heap w_RANDOM_FILL "com/example/opaque_token/opaquetoken/token/ObjectType" := Exa.start ev_RANDOM_FILL u11a
  obtain ⟨w_EXPONENT, ev_EXPONENT⟩ := exa_v u13a
  have S_EXPONENT : Sta s s.heap "com/example/opaque_token/opaquetoken/token/ObjectType" "EXPONENT" "Lcom/example/opaque_token/opaquetoken/token/ObjectType;" (.ref w_EXPONENT) := Sta.start ev_EXPONENT (Or.inr ⟨(hw _ (List.mem_of_getElem? (i := 6) rfl)), (hw _ (List.mem_of_getElem? (i := 30) rfl))⟩)
  have E_EXPONENT : Exa s s.heap w_EXPONENT "com/example/opaque_token/opaquetoken/token/ObjectType" := Exa.start ev_EXPONENT u13a
  obtain ⟨w_CONFIGURATION, ev_CONFIGURATION⟩ := exa_v u15a
  have S_CONFIGURATION : Sta s s.heap "com/example/opaque_token/opaquetoken/token/ObjectType" "CONFIGURATION" "Lcom/example/opaque_token/opaquetoken/token/ObjectType;" (.ref w_CONFIGURATION) := Sta.start ev_CONFIGURATION (Or.inr ⟨(hw _ (List.mem_of_getElem? (i := 6) rfl)), (hw _ (List.mem_of_getElem? (i := 32) rfl))⟩)
  have E_CONFIGURATION : Exa s s.heap w_CONFIGURATION "com/example/opaque_token/opaquetoken/token/ObjectType" := Exa.start ev_CONFIGURATION u15a
  obtain ⟨w_ROM_DATA, ev_ROM_DATA⟩ := exa_v u17a
  have S_ROM_DATA : Sta s s.heap "com/example/opaque_token/opaquetoken/token/ObjectType" "ROM_DATA" "Lcom/example/opaque_token/opaquetoken/token/ObjectType;" (.ref w_ROM_DATA) := Sta.start ev_ROM_DATA (Or.inr ⟨(hw _ (List.mem_of_getElem? (i := 6) rfl)), (hw _ (List.mem_of_getElem? (i := 34) rfl))⟩)
  have E_ROM_DATA : Exa s s.heap w_ROM_DATA "com/example/opaque_token/opaquetoken/token/ObjectType" := Exa.start ev_ROM_DATA u17a
  have F_ordinal_INPUT_DATA : Fld s s.heap w_INPUT_DATA "java/lang/Enum" "ordinal" "I" (.int (0 : Int32)) := own_fld u3a ev_INPUT_DATA
  have F_ordinal_COUNTER : Fld s s.heap w_COUNTER "java/lang/Enum" "ordinal" "I" (.int (5 : Int32)) := own_fld u4a ev_COUNTER
  have F_ordinal_CLOCK_OFFSET : Fld s s.heap w_CLOCK_OFFSET "java/lang/Enum" "ordinal" "I" (.int (6 : Int32)) := own_fld u6a ev_CLOCK_OFFSET
  have F_ordinal_MODULUS : Fld s s.heap w_MODULUS "java/lang/Enum" "ordinal" "I" (.int (4 : Int32)) := own_fld u8a ev_MODULUS
  have F_ordinal_OUTPUT_DATA : Fld s s.heap w_OUTPUT_DATA "java/lang/Enum" "ordinal" "I" (.int (1 : Int32)) := own_fld u10a ev_OUTPUT_DATA
  have F_ordinal_RANDOM_FILL : Fld s s.heap w_RANDOM_FILL "java/lang/Enum" "ordinal" "I" (.int (8 : Int32)) := own_fld u12a ev_RANDOM_FILL
  have F_ordinal_EXPONENT : Fld s s.heap w_EXPONENT "java/lang/Enum" "ordinal" "I" (.int (3 : Int32)) := own_fld u14a ev_EXPONENT
  have F_ordinal_CONFIGURATION : Fld s s.heap w_CONFIGURATION "java/lang/Enum" "ordinal" "I" (.int (2 : Int32)) := own_fld u16a ev_CONFIGURATION
  have F_ordinal_ROM_DATA : Fld s s.heap w_ROM_DATA "java/lang/Enum" "ordinal" "I" (.int (7 : Int32)) := own_fld u17b ev_ROM_DATA
  obtain ⟨n, o, h1, h2, h3, _, L, rfl, ⟨rfl, N⟩, hq⟩ := rm0 l s _ hw tables_1 i0 i1 w_INPUT_DATA w_COUNTER w_CLOCK_OFFSET w_MODULUS w_OUTPUT_DATA w_RANDOM_FILL w_EXPONENT w_CONFIGURATION w_ROM_DATA s.heap s.heap.size (Nat.le_refl _) (Old.start s) S_INPUT_DATA E_INPUT_DATA F_ordinal_INPUT_DATA S_COUNTER E_COUNTER F_ordinal_COUNTER S_CLOCK_OFFSET E_CLOCK_OFFSET F_ordinal_CLOCK_OFFSET S_MODULUS E_MODULUS F_ordinal_MODULUS S_OUTPUT_DATA E_OUTPUT_DATA F_ordinal_OUTPUT_DATA S_RANDOM_FILL E_RANDOM_FILL F_ordinal_RANDOM_FILL S_EXPONENT E_EXPONENT F_ordinal_EXPONENT S_CONFIGURATION E_CONFIGURATION F_ordinal_CONFIGURATION S_ROM_DATA E_ROM_DATA F_ordinal_ROM_DATA p e ha hc hk s m _ below hf ((Spec.applies_iff_loose hf).mp happ).1 ⟨rfl, State.Warmed39.refl s, rfl⟩ trivial
  refine ⟨n, _, h1, h2, h3, hpost _ _ _ _ _ _ ⟨Cond.after_iff.mpr rfl, Cond.after_iff.mpr (eq_i res_at (Term.int_eval (1)) rfl), trivial⟩ ⟨hq.1, hq.2.1, (hq.2.2.sift fun y hy => Or.inr (N y hy)).mono (by decide) (by decide)⟩⟩
theorem main_1_1 : Claimed_1_1 := comes_1 fun _ _ _ _ _ _ h hF => ⟨h.1, hF⟩
theorem main_1_2 : Claimed_1_2 := comes_1 fun _ _ _ _ _ _ h hF => ⟨h.2.1, hF⟩
end Jvm.Pilot.@@N@@
namespace Jvm.Pilot.@@N@@
open Jvm Jvm.ClassFile Sem Op Lib Jvm.Free Jvm.Stand Jvm.Pilot.@@N@@.Jvm.D
/-! MADE BY PROGRAM (witnessworld.py) out of the Statement's table words and the real class files: 12 classes; the members and pool entries that the words name. The judged class is class 1, her method 3. -/
namespace start1
open Jvm.ClassFile
def u (s : String) : CpInfo := .utf8 (stringToUtf16 s)
/-- a pool by its gaps: so many unusable entries, then the entry; so many at the end -/
def gap : Nat → List CpInfo → List CpInfo
  | 0, r => r
  | n + 1, r => .unusable :: gap n r
def poolList (es : List (Nat × CpInfo)) (last : Nat) : List CpInfo := es.foldr (fun e r => gap e.1 (e.2 :: r)) (gap last [])
def pool (es : List (Nat × CpInfo)) (last : Nat) : Array CpInfo := ⟨poolList es last⟩
def fileOf (pool : Array CpInfo) (this : Nat) (attrs : Array Attribute := #[]) (ms : Array MethodInfo := #[]) (fl : Nat := 33) (sup : Nat := 0) (ifs : Array Nat := #[]) (fds : Array FieldInfo := #[]) : ClassFile where
  minorVersion := 0
  majorVersion := 65
  constantPool := pool
  accessFlags := fl
  thisClass := this
  superClass := sup
  interfaces := ifs
  fields := fds
  methods := ms
  attributes := attrs
def plain (name : String) (sup : Option ClassId) : Class where
  name := name
  kind := .ordinary
  loader := none
  accessFlags := 33
  super := sup
  interfaces := #[]
  cf := none
  fields := #[]
  methods := #[]
  instanceTypes := #[]
  staticTypes := #[]
  resolved := #[]
  callSites := []
  init := .initialized
  statics := none
  mirror := none

def pool0 : Array CpInfo := pool [(5, u "<init>"), (0, u "()V"), (1, .class_ 10), (1, u "java/lang/Object")] 113

def k0m0 : Method := { name := "<init>", desc := "()V", sig := { parameters := [], returnType := none }, accessFlags := 1, code := none }
/-- java/lang/Object -/
def k0 : Class := { plain "java/lang/Object" none with
  accessFlags := 33
  interfaces := #[]
  cf := some (fileOf pool0 8 #[] #[{ accessFlags := 1, nameIndex := 5, descriptorIndex := 6, attributes := #[] }] 33 0 #[] #[])
  fields := #[]
  methods := #[k0m0]
  instanceTypes := #[]
  staticTypes := #[]
  resolved := Array.replicate 124 none
  statics := none }

def pool1 : Array CpInfo := pool [(2, .class_ 4), (1, u "java/lang/Object"), (0, u "<init>"), (0, u "()V"), (0, .fieldref 8 9), (0, .class_ 10), (0, .nameAndType 11 12), (0, u "com/example/opaque_token/opaquetoken/token/ObjectType"), (0, u "INPUT_DATA"), (0, u "Lcom/example/opaque_token/opaquetoken/token/ObjectType;"), (0, .fieldref 8 14), (0, .nameAndType 15 12), (0, u "OUTPUT_DATA"), (0, .fieldref 8 17), (0, .nameAndType 18 12), (0, u "CONFIGURATION"), (0, .fieldref 8 20), (0, .nameAndType 21 12), (0, u "EXPONENT"), (0, .fieldref 8 23), (0, .nameAndType 24 12), (0, u "MODULUS"), (0, .fieldref 8 26), (0, .nameAndType 27 12), (0, u "COUNTER"), (0, .fieldref 8 29), (0, .nameAndType 30 12), (0, u "CLOCK_OFFSET"), (0, .fieldref 8 32), (0, .nameAndType 33 12), (0, u "ROM_DATA"), (0, .fieldref 8 35), (0, .nameAndType 36 12), (0, u "RANDOM_FILL"), (0, .integer 2147483647), (0, .methodref 39 40), (0, .class_ 41), (0, .nameAndType 42 43), (0, u "com/example/opaque_token/opaquetoken/token/ObjectTypeInitialValuePinLaw"), (0, u "pick"), (0, u "(I)Lcom/example/opaque_token/opaquetoken/token/ObjectType;"), (0, .methodref 8 45), (0, .nameAndType 46 47), (0, u "initialValue"), (0, u "()[B"), (0, .methodref 39 49), (0, .nameAndType 50 51), (0, u "fourZeros"), (0, u "([B)Z"), (3, u "law"), (0, u "(II)Z")] 4

def k1m0 : Method := { name := "<init>", desc := "()V", sig := { parameters := [], returnType := none }, accessFlags := 1, code := none }
def k1c1 : Code := { maxStack := 2, maxLocals := 1, code := method_2_code, exceptionTable := #[], attributes := #[] }
def k1m1 : Method := { name := "pick", desc := "(I)Lcom/example/opaque_token/opaquetoken/token/ObjectType;", sig := { parameters := [.int], returnType := some (.object "com/example/opaque_token/opaquetoken/token/ObjectType") }, accessFlags := 10, code := some k1c1 }
def k1c2 : Code := { maxStack := 2, maxLocals := 1, code := method_3_code, exceptionTable := #[], attributes := #[] }
def k1m2 : Method := { name := "fourZeros", desc := "([B)Z", sig := { parameters := [(.array .byte)], returnType := some .boolean }, accessFlags := 10, code := some k1c2 }
def k1c3 : Code := { maxStack := 4, maxLocals := 8, code := code, exceptionTable := #[], attributes := #[] }
def k1m3 : Method := { name := "law", desc := "(II)Z", sig := { parameters := [.int, .int], returnType := some .boolean }, accessFlags := 9, code := some k1c3 }
/-- com/example/opaque_token/opaquetoken/token/ObjectTypeInitialValuePinLaw -/
def k1 : Class := { plain "com/example/opaque_token/opaquetoken/token/ObjectTypeInitialValuePinLaw" (some 0) with
  accessFlags := 49
  interfaces := #[]
  cf := some (fileOf pool1 39 #[] #[{ accessFlags := 1, nameIndex := 5, descriptorIndex := 6, attributes := #[] }, { accessFlags := 10, nameIndex := 42, descriptorIndex := 43, attributes := #[] }, { accessFlags := 10, nameIndex := 50, descriptorIndex := 51, attributes := #[] }, { accessFlags := 9, nameIndex := 55, descriptorIndex := 56, attributes := #[] }] 49 2 #[] #[])
  fields := #[]
  methods := #[k1m0, k1m1, k1m2, k1m3]
  instanceTypes := #[]
  staticTypes := #[]
  resolved := Array.replicate 61 none
  statics := none }

def pool2 : Array CpInfo := pool [(1, .class_ 2), (0, u "java/lang/constant/Constable"), (0, .class_ 4), (0, u "java/lang/Object")] 6

/-- java/lang/constant/Constable -/
def k2 : Class := { plain "java/lang/constant/Constable" (some 0) with
  accessFlags := 1537
  interfaces := #[]
  cf := some (fileOf pool2 1 #[] #[] 1537 3 #[] #[])
  fields := #[]
  methods := #[]
  instanceTypes := #[]
  staticTypes := #[]
  resolved := Array.replicate 11 none
  statics := none }

def pool3 : Array CpInfo := pool [(1, .class_ 2), (0, u "java/lang/Comparable"), (0, .class_ 4), (0, u "java/lang/Object")] 7

/-- java/lang/Comparable -/
def k3 : Class := { plain "java/lang/Comparable" (some 0) with
  accessFlags := 1537
  interfaces := #[]
  cf := some (fileOf pool3 1 #[] #[] 1537 3 #[] #[])
  fields := #[]
  methods := #[]
  instanceTypes := #[]
  staticTypes := #[]
  resolved := Array.replicate 12 none
  statics := none }

def pool4 : Array CpInfo := pool [(1, .class_ 2), (0, u "java/io/Serializable"), (0, .class_ 4), (0, u "java/lang/Object")] 2

/-- java/io/Serializable -/
def k4 : Class := { plain "java/io/Serializable" (some 0) with
  accessFlags := 1537
  interfaces := #[]
  cf := some (fileOf pool4 1 #[] #[] 1537 3 #[] #[])
  fields := #[]
  methods := #[]
  instanceTypes := #[]
  staticTypes := #[]
  resolved := Array.replicate 7 none
  statics := none }

def pool5 : Array CpInfo := pool [(2, .class_ 4), (1, u "java/lang/Enum"), (0, u "name"), (0, u "Ljava/lang/String;"), (2, u "ordinal"), (0, u "I"), (1, .class_ 14), (1, u "java/lang/Object"), (4, u "hash"), (86, .class_ 108), (1, u "java/lang/Enum$EnumDesc"), (2, .class_ 112), (0, u "java/lang/constant/Constable"), (0, .class_ 114), (0, u "java/lang/Comparable"), (0, .class_ 116), (0, u "java/io/Serializable")] 87

/-- java/lang/Enum -/
def k5 : Class := { plain "java/lang/Enum" (some 0) with
  accessFlags := 1057
  interfaces := #[2, 3, 4]
  cf := some (fileOf pool5 2 #[.nestMembers #[106]] #[] 1057 12 #[111, 113, 115] #[{ accessFlags := 18, nameIndex := 5, descriptorIndex := 6, attributes := #[] }, { accessFlags := 18, nameIndex := 9, descriptorIndex := 10, attributes := #[] }, { accessFlags := 2, nameIndex := 19, descriptorIndex := 10, attributes := #[] }])
  fields := #[{ name := "name", type := (.object "java/lang/String"), accessFlags := 18, slot := 0, constantValue := 0 }, { name := "ordinal", type := .int, accessFlags := 18, slot := 1, constantValue := 0 }, { name := "hash", type := .int, accessFlags := 2, slot := 2, constantValue := 0 }]
  methods := #[]
  instanceTypes := #[(.object "java/lang/String"), .int, .int]
  staticTypes := #[]
  resolved := Array.replicate 204 none
  statics := none }

def pool6 : Array CpInfo := pool [(1, .class_ 2), (0, u "com/example/opaque_token/opaquetoken/token/ObjectType"), (2, u "INPUT_DATA"), (0, u "Lcom/example/opaque_token/opaquetoken/token/ObjectType;"), (2, u "OUTPUT_DATA"), (2, u "CONFIGURATION"), (2, u "EXPONENT"), (2, u "MODULUS"), (0, .fieldref 1 20), (0, .nameAndType 21 6), (0, u "COUNTER"), (0, .fieldref 1 23), (0, .nameAndType 24 6), (0, u "CLOCK_OFFSET"), (2, u "ROM_DATA"), (2, u "RANDOM_FILL"), (2, u "$VALUES"), (0, u "[Lcom/example/opaque_token/opaquetoken/token/ObjectType;"), (6, .class_ 43), (1, u "java/lang/Enum"), (8, u "word"), (0, u "Ljava/lang/String;"), (44, u "initialValue"), (0, u "()[B")] 9

def k6c0 : Code := { maxStack := 2, maxLocals := 2, code := prog_55_method_5_code, exceptionTable := #[], attributes := #[] }
def k6m0 : Method := { name := "initialValue", desc := "()[B", sig := { parameters := [], returnType := some (.array .byte) }, accessFlags := 0, code := some k6c0 }
/-- com/example/opaque_token/opaquetoken/token/ObjectType -/
def k6 : Class := { plain "com/example/opaque_token/opaquetoken/token/ObjectType" (some 5) with
  accessFlags := 16432
  interfaces := #[]
  cf := some (fileOf pool6 1 #[] #[{ accessFlags := 0, nameIndex := 98, descriptorIndex := 99, attributes := #[] }] 16432 41 #[] #[{ accessFlags := 16409, nameIndex := 5, descriptorIndex := 6, attributes := #[] }, { accessFlags := 16409, nameIndex := 9, descriptorIndex := 6, attributes := #[] }, { accessFlags := 16409, nameIndex := 12, descriptorIndex := 6, attributes := #[] }, { accessFlags := 16409, nameIndex := 15, descriptorIndex := 6, attributes := #[] }, { accessFlags := 16409, nameIndex := 18, descriptorIndex := 6, attributes := #[] }, { accessFlags := 16409, nameIndex := 21, descriptorIndex := 6, attributes := #[] }, { accessFlags := 16409, nameIndex := 24, descriptorIndex := 6, attributes := #[] }, { accessFlags := 16409, nameIndex := 27, descriptorIndex := 6, attributes := #[] }, { accessFlags := 16409, nameIndex := 30, descriptorIndex := 6, attributes := #[] }, { accessFlags := 18, nameIndex := 52, descriptorIndex := 53, attributes := #[] }, { accessFlags := 4122, nameIndex := 33, descriptorIndex := 34, attributes := #[] }])
  fields := #[{ name := "INPUT_DATA", type := (.object "com/example/opaque_token/opaquetoken/token/ObjectType"), accessFlags := 16409, slot := 0, constantValue := 0 }, { name := "OUTPUT_DATA", type := (.object "com/example/opaque_token/opaquetoken/token/ObjectType"), accessFlags := 16409, slot := 1, constantValue := 0 }, { name := "CONFIGURATION", type := (.object "com/example/opaque_token/opaquetoken/token/ObjectType"), accessFlags := 16409, slot := 2, constantValue := 0 }, { name := "EXPONENT", type := (.object "com/example/opaque_token/opaquetoken/token/ObjectType"), accessFlags := 16409, slot := 3, constantValue := 0 }, { name := "MODULUS", type := (.object "com/example/opaque_token/opaquetoken/token/ObjectType"), accessFlags := 16409, slot := 4, constantValue := 0 }, { name := "COUNTER", type := (.object "com/example/opaque_token/opaquetoken/token/ObjectType"), accessFlags := 16409, slot := 5, constantValue := 0 }, { name := "CLOCK_OFFSET", type := (.object "com/example/opaque_token/opaquetoken/token/ObjectType"), accessFlags := 16409, slot := 6, constantValue := 0 }, { name := "ROM_DATA", type := (.object "com/example/opaque_token/opaquetoken/token/ObjectType"), accessFlags := 16409, slot := 7, constantValue := 0 }, { name := "RANDOM_FILL", type := (.object "com/example/opaque_token/opaquetoken/token/ObjectType"), accessFlags := 16409, slot := 8, constantValue := 0 }, { name := "word", type := (.object "java/lang/String"), accessFlags := 18, slot := 3, constantValue := 0 }, { name := "$VALUES", type := (.array (.object "com/example/opaque_token/opaquetoken/token/ObjectType")), accessFlags := 4122, slot := 9, constantValue := 0 }]
  methods := #[k6m0]
  instanceTypes := #[(.object "java/lang/String"), .int, .int, (.object "java/lang/String")]
  staticTypes := #[(.object "com/example/opaque_token/opaquetoken/token/ObjectType"), (.object "com/example/opaque_token/opaquetoken/token/ObjectType"), (.object "com/example/opaque_token/opaquetoken/token/ObjectType"), (.object "com/example/opaque_token/opaquetoken/token/ObjectType"), (.object "com/example/opaque_token/opaquetoken/token/ObjectType"), (.object "com/example/opaque_token/opaquetoken/token/ObjectType"), (.object "com/example/opaque_token/opaquetoken/token/ObjectType"), (.object "com/example/opaque_token/opaquetoken/token/ObjectType"), (.object "com/example/opaque_token/opaquetoken/token/ObjectType"), (.array (.object "com/example/opaque_token/opaquetoken/token/ObjectType"))]
  resolved := Array.replicate 109 none
  statics := some 0 }

def pool7 : Array CpInfo := pool [(1, u "java/lang/Cloneable"), (0, .class_ 1), (0, u "java/lang/Object"), (0, .class_ 3)] 3

/-- java/lang/Cloneable -/
def k7 : Class := { plain "java/lang/Cloneable" (some 0) with
  accessFlags := 1537
  interfaces := #[]
  cf := some (fileOf pool7 2 #[] #[] 1537 4 #[] #[])
  fields := #[]
  methods := #[]
  instanceTypes := #[]
  staticTypes := #[]
  resolved := Array.replicate 8 none
  statics := none }

/-- the primitive byte -/
def k8 : Class := { plain "byte" none with kind := .primitive 'B', accessFlags := 0x411 }
/-- [B -/
def k9 : Class := { plain "[B" (some 0) with kind := .array 8 .byte, interfaces := #[7, 4], accessFlags := 1041 }

/-- the primitive int -/
def k10 : Class := { plain "int" none with kind := .primitive 'I', accessFlags := 0x411 }
/-- [I -/
def k11 : Class := { plain "[I" (some 0) with kind := .array 10 .int, interfaces := #[7, 4], accessFlags := 1041 }

def heap : Heap := #[{ cls := 6, slots := #[.ref 1, .ref 5, .ref 8, .ref 7, .ref 4, .ref 2, .ref 3, .ref 9, .ref 6, .null], vm := .statics 6 },
  { cls := 6, slots := #[.null, .int 0, .int 0, .null], vm := .none },
  { cls := 6, slots := #[.null, .int 5, .int 0, .null], vm := .none },
  { cls := 6, slots := #[.null, .int 6, .int 0, .null], vm := .none },
  { cls := 6, slots := #[.null, .int 4, .int 0, .null], vm := .none },
  { cls := 6, slots := #[.null, .int 1, .int 0, .null], vm := .none },
  { cls := 6, slots := #[.null, .int 8, .int 0, .null], vm := .none },
  { cls := 6, slots := #[.null, .int 3, .int 0, .null], vm := .none },
  { cls := 6, slots := #[.null, .int 2, .int 0, .null], vm := .none },
  { cls := 6, slots := #[.null, .int 7, .int 0, .null], vm := .none }]
def classes : Array Class := #[k0, k1, k2, k3, k4, k5, k6, k7, k8, k9, k10, k11]
def interned : List (Array UInt16 × Addr) := []
def slotsUsed : Nat := 46
def theMethod : MethodId := ⟨1, 3⟩
def args0 : Array Value := #[.int 5, .int 5]
def aboutOver (below : List Frame) : State where
  vm := { classes := classes, interned := interned.toArray }
  heap := heap
  slotsUsed := slotsUsed
  threads := #[{ frames := .invoking theMethod args0 :: below }]
def below0 : List Frame := [.native { method := ⟨0, 0⟩, args := #[] }]
def about1 : State := aboutOver below0
def p0 : Program := .bare "" "" ""
def e0 : Env := launch0.env 0 0 0
theorem w_frames : about1.frames = Frame.invoking theMethod args0 :: below0 := rfl
set_option maxRecDepth 65536 in
theorem w_args : argsFit about1.vm theMethod args0 = true := by decide +kernel
set_option maxRecDepth 65536 in
theorem w_heap : heapFits about1 = true := by decide +kernel
set_option maxRecDepth 65536 in
theorem w_runnable : about1.curStatus? = some .runnable := by decide +kernel
set_option maxRecDepth 65536 in
theorem w_alone : about1.alone = true := by decide +kernel
set_option maxRecDepth 65536 in
theorem w_named : about1.methodNamed? x = some theMethod := by decide +kernel
set_option maxRecDepth 65536 in
theorem w_hears : about1.hears theMethod below0 = true := by decide +kernel
set_option maxRecDepth 65536 in
theorem w_ripe : about1.ripe theMethod args0 below0 = true := by decide +kernel
theorem w_running : about1.status = .running := rfl
set_option maxRecDepth 65536 in
theorem w_room : about1.hasRoom e0.platform room_1 = true :=
  launch0.hasRoom_least _ room_1 (by decide +kernel) (by decide +kernel) (by decide +kernel) (by decide +kernel) (by decide +kernel) (by decide +kernel)
theorem allAtoms_all (ts : List Jvm.Cond) (a : Array Jvm.Value) (st : Jvm.State) : (allAtoms ts).before a st = ts.all (fun c => c.before a st) := by
  induction ts with
  | nil => rfl
  | cons c t ih =>
    show (Jvm.Cond.and c (allAtoms t)).before a st = _
    rw [Jvm.Cond.before_and, ih, List.all_cons]
def words1 : List Jvm.Cond := Jvm.Cond.code x code maxLocals ret :: tables_1
/-- a 'code' word, met by the world's own term for the bytes: nothing is compared byte by byte -/
theorem code_word {y : MethodName} {bytes : ByteArray} {mx : Nat} {rt : Option FieldType} {a : Array Value} {s : State} {m : MethodId} {meth : Method} {c : Code} (h1 : s.methodNamed? y = some m) (h2 : s.vm.method? m = some meth) (h3 : meth.code = some c) (h4 : c.code = bytes)
    (h5 : (c.maxLocals == mx && c.exceptionTable.isEmpty && decide (c.maxStack ≤ mostOperands) && decide (meth.sig.returnType = rt) && !meth.locks && decide (parseMethodDescriptor y.desc = some meth.sig)) = true) : (Jvm.Cond.code y bytes mx rt).before a s = true := by
  simp only [Bool.and_eq_true, beq_iff_eq, Bool.not_eq_true', decide_eq_true_eq] at h5
  obtain ⟨⟨⟨⟨⟨g1, g2⟩, g3⟩, g4⟩, g5⟩, g6⟩ := h5
  simp [Cond.before, Cond.holds, Cond.value, h1, h2, h3, h4, g1, g2, g3, g4, g5, g6]
def isCode : Jvm.Cond → Bool
  | .code _ _ _ _ => true
  | _ => false
theorem all_split {L : List Jvm.Cond} {P : Jvm.Cond → Bool} (h1 : L.all (fun c => isCode c || P c) = true) (h2 : ∀ c ∈ L.filter isCode, P c = true) : L.all P = true := by
  refine List.all_eq_true.mpr fun c hc => ?_
  have h := List.all_eq_true.mp h1 c hc
  rcases Bool.eq_false_or_eq_true (isCode c) with hi | hi
  · exact h2 c (List.mem_filter.mpr ⟨hc, hi⟩)
  · simpa [hi] using h
set_option maxRecDepth 65536 in
theorem w_c0 : (Jvm.Cond.code x code maxLocals ret).before args0 about1 = true := code_word (m := ⟨1, 3⟩) (meth := k1m3) (c := k1c3) (by decide +kernel) rfl rfl rfl (by decide +kernel)
set_option maxRecDepth 65536 in
theorem w_c1 : (Jvm.Cond.code ({ cls := "com/example/opaque_token/opaquetoken/token/ObjectTypeInitialValuePinLaw", name := "pick", desc := "(I)Lcom/example/opaque_token/opaquetoken/token/ObjectType;" } : Jvm.MethodName) method_2_code (1 : Nat) (Option.some (Jvm.ClassFile.FieldType.object "com/example/opaque_token/opaquetoken/token/ObjectType"))).before args0 about1 = true := code_word (m := ⟨1, 1⟩) (meth := k1m1) (c := k1c1) (by decide +kernel) rfl rfl rfl (by decide +kernel)
set_option maxRecDepth 65536 in
theorem w_c2 : (Jvm.Cond.code ({ cls := "com/example/opaque_token/opaquetoken/token/ObjectType", name := "initialValue", desc := "()[B" } : Jvm.MethodName) prog_55_method_5_code (2 : Nat) (Option.some (Jvm.ClassFile.FieldType.array Jvm.ClassFile.FieldType.byte))).before args0 about1 = true := code_word (m := ⟨6, 0⟩) (meth := k6m0) (c := k6c0) (by decide +kernel) rfl rfl rfl (by decide +kernel)
set_option maxRecDepth 65536 in
theorem w_c3 : (Jvm.Cond.code ({ cls := "com/example/opaque_token/opaquetoken/token/ObjectTypeInitialValuePinLaw", name := "fourZeros", desc := "([B)Z" } : Jvm.MethodName) method_3_code (1 : Nat) (Option.some Jvm.ClassFile.FieldType.boolean)).before args0 about1 = true := code_word (m := ⟨1, 2⟩) (meth := k1m2) (c := k1c2) (by decide +kernel) rfl rfl rfl (by decide +kernel)
def codes1 : List Jvm.Cond := [Jvm.Cond.code x code maxLocals ret, Jvm.Cond.code ({ cls := "com/example/opaque_token/opaquetoken/token/ObjectTypeInitialValuePinLaw", name := "pick", desc := "(I)Lcom/example/opaque_token/opaquetoken/token/ObjectType;" } : Jvm.MethodName) method_2_code (1 : Nat) (Option.some (Jvm.ClassFile.FieldType.object "com/example/opaque_token/opaquetoken/token/ObjectType")), Jvm.Cond.code ({ cls := "com/example/opaque_token/opaquetoken/token/ObjectType", name := "initialValue", desc := "()[B" } : Jvm.MethodName) prog_55_method_5_code (2 : Nat) (Option.some (Jvm.ClassFile.FieldType.array Jvm.ClassFile.FieldType.byte)), Jvm.Cond.code ({ cls := "com/example/opaque_token/opaquetoken/token/ObjectTypeInitialValuePinLaw", name := "fourZeros", desc := "([B)Z" } : Jvm.MethodName) method_3_code (1 : Nat) (Option.some Jvm.ClassFile.FieldType.boolean)]
set_option maxRecDepth 65536 in
theorem codes_eq : words1.filter isCode = codes1 := rfl
theorem w_codes : ∀ c ∈ words1.filter isCode, c.before args0 about1 = true := by
  rw [codes_eq]
  intro c hc
  simp only [codes1, List.mem_cons, List.not_mem_nil, or_false] at hc
  rcases hc with rfl | rfl | rfl | rfl
  · exact w_c0
  · exact w_c1
  · exact w_c2
  · exact w_c3
set_option maxRecDepth 65536 in
theorem w_t1 : (words1.take 24).all (fun c => isCode c || c.before args0 about1) = true := by decide +kernel
set_option maxRecDepth 65536 in
theorem w_t2 : (words1.drop 24).all (fun c => isCode c || c.before args0 about1) = true := by decide +kernel
theorem w_tables : (allAtoms (Jvm.Cond.code x code maxLocals ret :: tables_1)).before args0 about1 = true := by
  rw [allAtoms_all]
  show words1.all (fun c => c.before args0 about1) = true
  refine all_split ?_ w_codes
  rw [← List.take_append_drop 24 words1, List.all_append, w_t1, w_t2]
  rfl
set_option maxRecDepth 65536 in
theorem w_case : (Jvm.Cond.and given_1 narrow_1).before args0 about1 = true := by decide +kernel
theorem w_applies : (headSpec (Jvm.Cond.code x code maxLocals ret :: tables_1) room_1).applies x e0.platform about1 = true :=
  (Spec.applies_iff w_frames).mpr ⟨w_running, w_runnable, w_alone, w_named, w_hears, w_ripe, w_room, w_tables⟩
theorem atStart : AtStart classFile x code maxLocals ret World_1 tables_1 room_1 Calls_1 rest_1 Pre_1 launch0 p0 e0 about1 theMethod args0 below0 :=
  ⟨lists_1, trivial, launch0.admits_env _ _ _, launch0.least_env, fairChoices_fair.cas, fairChoices_fair.clock, w_frames, w_args, w_heap, w_applies, trivial, trivial, w_case⟩
end start1
theorem witness_1 : WitnessClaimed_1 := ⟨start1.p0, start1.e0, start1.about1, start1.theMethod, start1.args0, start1.below0, start1.atStart⟩
end Jvm.Pilot.@@N@@
