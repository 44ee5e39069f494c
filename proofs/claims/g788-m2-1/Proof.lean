import JvmDerived
import JvmDerived.Pilot.@@N@@Statement
import JvmDerived.Pilot.@@N@@Code
set_option linter.unusedVariables false
set_option linter.unusedSimpArgs false
@@BLOCK:NumsL.lean.txt@@
namespace Jvm.OwnW
open Sem ClassFile Op Lib Jvm.Stand Jvm.Free Jvm.LawKit Jvm.RoadKit
section Own
variable {p : Program} {l : Launch} {e : Env} {R : Room} {s : State} {m : MethodId} {args : Array Value} {below : List Frame} {meth : Method} {c : Code} {T : State} {locs : List Loc} {cells slots : Nat} {K N : Nat} {Q : Option Value → Heap → List Loc → Prop}
/-- from U the run comes to the method's end, and what it leaves there is Q -/
def OwnEnds (tb : Tables) (e : Env) (below : List Frame) (s : State) (K N : Nat) (Q : Option Value → Heap → List Loc → Prop) (U : State) : Prop :=
  ∃ s₂ o, Steps tb e below U s₂ ∧ s₂.status = .running ∧ Ended s₂ below o ∧ ∃ v L, o = .returned v ∧ Q v s₂.heap L ∧ FrameEnd s o s₂ L K N
theorem ogo {tb : Tables} {U U' : State} (st : ∀ t, Steps tb e below U' t → Steps tb e below U t) (h : OwnEnds tb e below s K N Q U') : OwnEnds tb e below s K N Q U := by
  obtain ⟨s₂, o, h1, h2⟩ := h
  exact ⟨s₂, o, st _ h1, h2⟩
theorem endR (X : Stand p l e R s m args below meth c T locs cells slots) (hx : p.tables.exec = Jvm.exec) (hlk : meth.locks = false) {pc : Nat} {Ls : Array Slot} {w : Value} {t : FieldType} {i : Instr} {rest : List Value} (hret : meth.sig.returnType = some t) (hn : narrow t w = w)
    (hi : (i = .ireturn ∧ (t = .int ∨ t = .boolean ∨ t = .byte ∨ t = .char ∨ t = .short) ∧ ∃ z, w = .int z) ∨ (i = .lreturn ∧ t = .long ∧ ∃ z, w = .long z) ∨ (i = .dreturn ∧ t = .double ∧ ∃ z, w = .double z) ∨ (i = .freturn ∧ t = .float ∧ ∃ z, w = .float z) ∨ (i = .areturn ∧ t.isReference = true ∧ w.isRef = true))
    (hd : decode c.code pc = .ok (i, 1)) (hK : cells ≤ K) (hN : slots ≤ N) (hQ : Q (some w) T.heap locs) : OwnEnds p.tables e below s K N Q (T.setTop (mkF m pc Ls (w :: rest))) := by
  obtain ⟨fs, hr, hrun, hended, hW, hsame⟩ := X.leave (v := some w) (fun h => by rw [hret] at h; cases h) hlk
  exact ⟨_, _, retOut X hx hret hn hi hd hr, hrun, hended, _, _, rfl, hQ, ⟨_, rfl⟩, hW, hsame.mono hK hN⟩
theorem endI (X : Stand p l e R s m args below meth c T locs cells slots) (hx : p.tables.exec = Jvm.exec) (hlk : meth.locks = false) {pc : Nat} {Ls : Array Slot} {z : Int32} {rest : List Value} (hret : meth.sig.returnType = some .int)
    (hd : decode c.code pc = .ok (.ireturn, 1)) (hK : cells ≤ K) (hN : slots ≤ N) (hQ : Q (some (.int z)) T.heap locs) : OwnEnds p.tables e below s K N Q (T.setTop (mkF m pc Ls (.int z :: rest))) :=
  endR X hx hlk hret rfl (Or.inl ⟨rfl, Or.inl rfl, z, rfl⟩) hd hK hN hQ
theorem endZ (X : Stand p l e R s m args below meth c T locs cells slots) (hx : p.tables.exec = Jvm.exec) (hlk : meth.locks = false) {pc : Nat} {Ls : Array Slot} {z : Int32} {rest : List Value} (hret : meth.sig.returnType = some .boolean) (hn : narrow .boolean (.int z) = .int z)
    (hd : decode c.code pc = .ok (.ireturn, 1)) (hK : cells ≤ K) (hN : slots ≤ N) (hQ : Q (some (.int z)) T.heap locs) : OwnEnds p.tables e below s K N Q (T.setTop (mkF m pc Ls (.int z :: rest))) :=
  endR X hx hlk hret hn (Or.inl ⟨rfl, Or.inr (Or.inl rfl), z, rfl⟩) hd hK hN hQ
theorem endJ (X : Stand p l e R s m args below meth c T locs cells slots) (hx : p.tables.exec = Jvm.exec) (hlk : meth.locks = false) {pc : Nat} {Ls : Array Slot} {z : Int64} {rest : List Value} (hret : meth.sig.returnType = some .long)
    (hd : decode c.code pc = .ok (.lreturn, 1)) (hK : cells ≤ K) (hN : slots ≤ N) (hQ : Q (some (.long z)) T.heap locs) : OwnEnds p.tables e below s K N Q (T.setTop (mkF m pc Ls (.long z :: rest))) :=
  endR X hx hlk hret rfl (Or.inr (Or.inl ⟨rfl, rfl, z, rfl⟩)) hd hK hN hQ
theorem endA (X : Stand p l e R s m args below meth c T locs cells slots) (hx : p.tables.exec = Jvm.exec) (hlk : meth.locks = false) {pc : Nat} {Ls : Array Slot} {w : Value} {t : FieldType} {rest : List Value} (hret : meth.sig.returnType = some t) (ht : t.isReference = true) (hw : w.isRef = true)
    (hd : decode c.code pc = .ok (.areturn, 1)) (hK : cells ≤ K) (hN : slots ≤ N) (hQ : Q (some w) T.heap locs) : OwnEnds p.tables e below s K N Q (T.setTop (mkF m pc Ls (w :: rest))) :=
  endR X hx hlk hret (by rcases ref_cases hw with rfl | ⟨a, rfl⟩ <;> cases t <;> simp_all [narrow, FieldType.isReference]) (Or.inr (Or.inr (Or.inr (Or.inr ⟨rfl, ht, hw⟩)))) hd hK hN hQ
theorem endV (X : Stand p l e R s m args below meth c T locs cells slots) (hx : p.tables.exec = Jvm.exec) (hlk : meth.locks = false) {pc : Nat} {Ls : Array Slot} (hret : meth.sig.returnType = none)
    (hd : decode c.code pc = .ok (.return_, 1)) (hK : cells ≤ K) (hN : slots ≤ N) (hQ : Q none T.heap locs) : OwnEnds p.tables e below s K N Q (T.setTop (mkF m pc Ls [])) := by
  obtain ⟨fs, hr, hrun, hended, hW, hsame⟩ := X.leave (v := none) (fun _ => rfl) hlk
  exact ⟨_, _, X.returnOut hx hret hd hr, hrun, hended, _, _, rfl, hQ, ⟨_, rfl⟩, hW, hsame.mono hK hN⟩
end Own
end Jvm.OwnW
namespace Jvm.Pilot.@@N@@
open Jvm Jvm.ClassFile Sem Op Lib Jvm.Free Jvm.Stand Jvm.LawKit Jvm.RoadKit Jvm.OwnW Bundle Jvm.Pilot.@@N@@.Jvm.D
theorem own_fld {args : Array Value} {s : State} {t : Term} {C n d : String} {k : Int32} {a : Addr} (h : (Cond.eq (.field t C n d) (.int k)).value args s none s [] = some true) (ev : t.eval args s none [] s = some (.ref a)) : Fld s s.heap a C n d (.int k) := by
  obtain ⟨x, y, e1, e2, -, -⟩ := cmp_v (Or.inl h)
  have e3 : y = .int k := (Option.some.inj (e2.symm.trans (Term.int_eval k)))
  subst e3
  have e4 : s.fieldOf? a C n d = some x := by simpa [Term.eval, ev] using e1
  cases x <;> simp [Cond.value, e1, e2] at h
  subst h
  exact Fld.start e4
theorem own_rng (x n : Int32) (hn : 0 < n.toInt) : 0 ≤ ((x &&& 2147483647) % n).toInt ∧ ((x &&& 2147483647) % n).toInt < n.toInt := by
  have e1 : (x &&& 2147483647).toInt = x.toInt % 2 ^ 31 := Jvm.Kit.i32_mask x 2147483647 (k := 31) (by decide) (by decide)
  have e2 := Jvm.Kit.i32_rem_nonneg (x := x &&& 2147483647) (y := n) (by omega)
  rw [e2]
  exact ⟨Int.emod_nonneg _ (by omega), Int.emod_lt_of_pos _ hn⟩
theorem own_case12 {k : Int32} (h : 0 ≤ k.toInt ∧ k.toInt < 12) : k = 0 ∨ k = 1 ∨ k = 2 ∨ k = 3 ∨ k = 4 ∨ k = 5 ∨ k = 6 ∨ k = 7 ∨ k = 8 ∨ k = 9 ∨ k = 10 ∨ k = 11 := by
  rcases (by omega : k.toInt = 0 ∨ k.toInt = 1 ∨ k.toInt = 2 ∨ k.toInt = 3 ∨ k.toInt = 4 ∨ k.toInt = 5 ∨ k.toInt = 6 ∨ k.toInt = 7 ∨ k.toInt = 8 ∨ k.toInt = 9 ∨ k.toInt = 10 ∨ k.toInt = 11) with q | q | q | q | q | q | q | q | q | q | q | q
  · exact Or.inl (Int32.toInt_inj.mp (q.trans (by decide)))
  · exact Or.inr (Or.inl (Int32.toInt_inj.mp (q.trans (by decide))))
  · exact Or.inr (Or.inr (Or.inl (Int32.toInt_inj.mp (q.trans (by decide)))))
  · exact Or.inr (Or.inr (Or.inr (Or.inl (Int32.toInt_inj.mp (q.trans (by decide))))))
  · exact Or.inr (Or.inr (Or.inr (Or.inr (Or.inl (Int32.toInt_inj.mp (q.trans (by decide)))))))
  · exact Or.inr (Or.inr (Or.inr (Or.inr (Or.inr (Or.inl (Int32.toInt_inj.mp (q.trans (by decide))))))))
  · exact Or.inr (Or.inr (Or.inr (Or.inr (Or.inr (Or.inr (Or.inl (Int32.toInt_inj.mp (q.trans (by decide)))))))))
  · exact Or.inr (Or.inr (Or.inr (Or.inr (Or.inr (Or.inr (Or.inr (Or.inl (Int32.toInt_inj.mp (q.trans (by decide))))))))))
  · exact Or.inr (Or.inr (Or.inr (Or.inr (Or.inr (Or.inr (Or.inr (Or.inr (Or.inl (Int32.toInt_inj.mp (q.trans (by decide)))))))))))
  · exact Or.inr (Or.inr (Or.inr (Or.inr (Or.inr (Or.inr (Or.inr (Or.inr (Or.inr (Or.inl (Int32.toInt_inj.mp (q.trans (by decide))))))))))))
  · exact Or.inr (Or.inr (Or.inr (Or.inr (Or.inr (Or.inr (Or.inr (Or.inr (Or.inr (Or.inr (Or.inl (Int32.toInt_inj.mp (q.trans (by decide)))))))))))))
  · exact Or.inr (Or.inr (Or.inr (Or.inr (Or.inr (Or.inr (Or.inr (Or.inr (Or.inr (Or.inr (Or.inr ((Int32.toInt_inj.mp (q.trans (by decide))))))))))))))

def own_pick (k : Int32) (w_N1 w_N2 w_N3 w_E1 w_E2 w_E3 w_S1 w_S2 w_S3 w_W1 w_W2 w_W3 : Addr) : Addr := if k = 0 then w_N1 else if k = 1 then w_N2 else if k = 2 then w_N3 else if k = 3 then w_E1 else if k = 4 then w_E2 else if k = 5 then w_E3 else if k = 6 then w_S1 else if k = 7 then w_S2 else if k = 8 then w_S3 else if k = 9 then w_W1 else if k = 10 then w_W2 else w_W3
theorem d1_0 : decode method_2_code 0 = .ok (.iload_n 0, 1) := by decide +kernel
theorem d1_1 : decode method_2_code 1 = .ok (.ifCond .ne 7, 3) := by decide +kernel
theorem d1_4 : decode method_2_code 4 = .ok (.getstatic 7, 3) := by decide +kernel
theorem d1_7 : decode method_2_code 7 = .ok (.areturn, 1) := by decide +kernel
theorem d1_8 : decode method_2_code 8 = .ok (.iload_n 0, 1) := by decide +kernel
theorem d1_9 : decode method_2_code 9 = .ok (.iconst 1, 1) := by decide +kernel
theorem d1_10 : decode method_2_code 10 = .ok (.if_icmp .ne 7, 3) := by decide +kernel
theorem d1_13 : decode method_2_code 13 = .ok (.getstatic 13, 3) := by decide +kernel
theorem d1_16 : decode method_2_code 16 = .ok (.areturn, 1) := by decide +kernel
theorem d1_17 : decode method_2_code 17 = .ok (.iload_n 0, 1) := by decide +kernel
theorem d1_18 : decode method_2_code 18 = .ok (.iconst 2, 1) := by decide +kernel
theorem d1_19 : decode method_2_code 19 = .ok (.if_icmp .ne 7, 3) := by decide +kernel
theorem d1_22 : decode method_2_code 22 = .ok (.getstatic 16, 3) := by decide +kernel
theorem d1_25 : decode method_2_code 25 = .ok (.areturn, 1) := by decide +kernel
theorem d1_26 : decode method_2_code 26 = .ok (.iload_n 0, 1) := by decide +kernel
theorem d1_27 : decode method_2_code 27 = .ok (.iconst 3, 1) := by decide +kernel
theorem d1_28 : decode method_2_code 28 = .ok (.if_icmp .ne 7, 3) := by decide +kernel
theorem d1_31 : decode method_2_code 31 = .ok (.getstatic 19, 3) := by decide +kernel
theorem d1_34 : decode method_2_code 34 = .ok (.areturn, 1) := by decide +kernel
theorem d1_35 : decode method_2_code 35 = .ok (.iload_n 0, 1) := by decide +kernel
theorem d1_36 : decode method_2_code 36 = .ok (.iconst 4, 1) := by decide +kernel
theorem d1_37 : decode method_2_code 37 = .ok (.if_icmp .ne 7, 3) := by decide +kernel
theorem d1_40 : decode method_2_code 40 = .ok (.getstatic 22, 3) := by decide +kernel
theorem d1_43 : decode method_2_code 43 = .ok (.areturn, 1) := by decide +kernel
theorem d1_44 : decode method_2_code 44 = .ok (.iload_n 0, 1) := by decide +kernel
theorem d1_45 : decode method_2_code 45 = .ok (.iconst 5, 1) := by decide +kernel
theorem d1_46 : decode method_2_code 46 = .ok (.if_icmp .ne 7, 3) := by decide +kernel
theorem d1_49 : decode method_2_code 49 = .ok (.getstatic 25, 3) := by decide +kernel
theorem d1_52 : decode method_2_code 52 = .ok (.areturn, 1) := by decide +kernel
theorem d1_53 : decode method_2_code 53 = .ok (.iload_n 0, 1) := by decide +kernel
theorem d1_54 : decode method_2_code 54 = .ok (.bipush 6, 2) := by decide +kernel
theorem d1_56 : decode method_2_code 56 = .ok (.if_icmp .ne 7, 3) := by decide +kernel
theorem d1_59 : decode method_2_code 59 = .ok (.getstatic 28, 3) := by decide +kernel
theorem d1_62 : decode method_2_code 62 = .ok (.areturn, 1) := by decide +kernel
theorem d1_63 : decode method_2_code 63 = .ok (.iload_n 0, 1) := by decide +kernel
theorem d1_64 : decode method_2_code 64 = .ok (.bipush 7, 2) := by decide +kernel
theorem d1_66 : decode method_2_code 66 = .ok (.if_icmp .ne 7, 3) := by decide +kernel
theorem d1_69 : decode method_2_code 69 = .ok (.getstatic 31, 3) := by decide +kernel
theorem d1_72 : decode method_2_code 72 = .ok (.areturn, 1) := by decide +kernel
theorem d1_73 : decode method_2_code 73 = .ok (.iload_n 0, 1) := by decide +kernel
theorem d1_74 : decode method_2_code 74 = .ok (.bipush 8, 2) := by decide +kernel
theorem d1_76 : decode method_2_code 76 = .ok (.if_icmp .ne 7, 3) := by decide +kernel
theorem d1_79 : decode method_2_code 79 = .ok (.getstatic 34, 3) := by decide +kernel
theorem d1_82 : decode method_2_code 82 = .ok (.areturn, 1) := by decide +kernel
theorem d1_83 : decode method_2_code 83 = .ok (.iload_n 0, 1) := by decide +kernel
theorem d1_84 : decode method_2_code 84 = .ok (.bipush 9, 2) := by decide +kernel
theorem d1_86 : decode method_2_code 86 = .ok (.if_icmp .ne 7, 3) := by decide +kernel
theorem d1_89 : decode method_2_code 89 = .ok (.getstatic 37, 3) := by decide +kernel
theorem d1_92 : decode method_2_code 92 = .ok (.areturn, 1) := by decide +kernel
theorem d1_93 : decode method_2_code 93 = .ok (.iload_n 0, 1) := by decide +kernel
theorem d1_94 : decode method_2_code 94 = .ok (.bipush 10, 2) := by decide +kernel
theorem d1_96 : decode method_2_code 96 = .ok (.if_icmp .ne 7, 3) := by decide +kernel
theorem d1_99 : decode method_2_code 99 = .ok (.getstatic 40, 3) := by decide +kernel
theorem d1_102 : decode method_2_code 102 = .ok (.areturn, 1) := by decide +kernel
theorem d1_103 : decode method_2_code 103 = .ok (.getstatic 43, 3) := by decide +kernel
theorem d1_106 : decode method_2_code 106 = .ok (.areturn, 1) := by decide +kernel
theorem pn_SegmentIsMiddlePinLaw : plainName "com/example/ramparts/ramparts/tile/SegmentIsMiddlePinLaw" = true := by first | (simp [plainName, overriddenIn]; done) | decide +kernel
theorem ef_1 (m : MethodId) (x0 : Int32) : entryFrame m #[(.int x0)] 1 = mkF m 0 #[.val (.int x0)] [] := by first | (simp [entryFrame, mkF, argsToLocals, Value.category]; done) | rfl
def Q1 (Z : State) (kk : Int32) (w_N1 w_N2 w_N3 w_E1 w_E2 w_E3 w_S1 w_S2 w_S3 w_W1 w_W2 w_W3 : Addr) (h0 : Heap) (n0 : Nat) (v : Option Value) (h : Heap) (L : List Loc) : Prop := v = some (.ref (own_pick kk w_N1 w_N2 w_N3 w_E1 w_E2 w_E3 w_S1 w_S2 w_S3 w_W1 w_W2 w_W3)) ∧ Fr n0 L ∧ h = h0
set_option maxRecDepth 65536 in
set_option maxHeartbeats 40000000 in
theorem rm1 (l : Launch) (Z : State) (a0 : Array Value) (hw : ∀ d ∈ tables_1, d.before a0 Z = true) (ws : List Jvm.Cond) (kk : Int32) (w_N1 w_N2 w_N3 w_E1 w_E2 w_E3 w_S1 w_S2 w_S3 w_W1 w_W2 w_W3 : Addr) (h0 : Heap) (n0 : Nat) (Z0 : n0 ≤ h0.size) (S_N1 : Sta Z h0 "com/example/ramparts/ramparts/tile/Segment" "N1" "Lcom/example/ramparts/ramparts/tile/Segment;" (.ref w_N1)) (S_N2 : Sta Z h0 "com/example/ramparts/ramparts/tile/Segment" "N2" "Lcom/example/ramparts/ramparts/tile/Segment;" (.ref w_N2)) (S_N3 : Sta Z h0 "com/example/ramparts/ramparts/tile/Segment" "N3" "Lcom/example/ramparts/ramparts/tile/Segment;" (.ref w_N3)) (S_E1 : Sta Z h0 "com/example/ramparts/ramparts/tile/Segment" "E1" "Lcom/example/ramparts/ramparts/tile/Segment;" (.ref w_E1)) (S_E2 : Sta Z h0 "com/example/ramparts/ramparts/tile/Segment" "E2" "Lcom/example/ramparts/ramparts/tile/Segment;" (.ref w_E2)) (S_E3 : Sta Z h0 "com/example/ramparts/ramparts/tile/Segment" "E3" "Lcom/example/ramparts/ramparts/tile/Segment;" (.ref w_E3)) (S_S1 : Sta Z h0 "com/example/ramparts/ramparts/tile/Segment" "S1" "Lcom/example/ramparts/ramparts/tile/Segment;" (.ref w_S1)) (S_S2 : Sta Z h0 "com/example/ramparts/ramparts/tile/Segment" "S2" "Lcom/example/ramparts/ramparts/tile/Segment;" (.ref w_S2)) (S_S3 : Sta Z h0 "com/example/ramparts/ramparts/tile/Segment" "S3" "Lcom/example/ramparts/ramparts/tile/Segment;" (.ref w_S3)) (S_W1 : Sta Z h0 "com/example/ramparts/ramparts/tile/Segment" "W1" "Lcom/example/ramparts/ramparts/tile/Segment;" (.ref w_W1)) (S_W2 : Sta Z h0 "com/example/ramparts/ramparts/tile/Segment" "W2" "Lcom/example/ramparts/ramparts/tile/Segment;" (.ref w_W2)) (S_W3 : Sta Z h0 "com/example/ramparts/ramparts/tile/Segment" "W3" "Lcom/example/ramparts/ramparts/tile/Segment;" (.ref w_W3)) :
    MetFree l (⟨"com/example/ramparts/ramparts/tile/SegmentIsMiddlePinLaw", "pick", "(I)Lcom/example/ramparts/ramparts/tile/Segment;"⟩ : MethodName) (head1 (Jvm.Cond.code (⟨"com/example/ramparts/ramparts/tile/SegmentIsMiddlePinLaw", "pick", "(I)Lcom/example/ramparts/ramparts/tile/Segment;"⟩ : MethodName) method_2_code 1 (some (.object "com/example/ramparts/ramparts/tile/Segment")) :: ws) ({ frames := 0, cells := 0, slots := 0, locals := 0 } : Room)) (fun a U => a = #[(.int kk)] ∧ Z.Warmed39 U.vm ∧ U.heap = h0) (fun _ _ _ _ _ => True) (fun _ U o U' => ∃ v L, o = .returned v ∧ Q1 Z kk w_N1 w_N2 w_N3 w_E1 w_E2 w_E3 w_S1 w_S2 w_S3 w_W1 w_W2 w_W3 h0 n0 v U'.heap L ∧ FrameEnd U o U' L ({ frames := 0, cells := 0, slots := 0, locals := 0 } : Room).cells ({ frames := 0, cells := 0, slots := 0, locals := 0 } : Room).slots) := by
  refine MetFree.of_bodySF (plainFor_of_name pn_SegmentIsMiddlePinLaw) hisR ?_
  intro p e s m args below meth c s₁ Bd hml0 hP hK
  obtain ⟨rfl, hZ, hh⟩ := hP
  have hx := Bd.exec
  have hby := Bd.bytes
  have hml : c.maxLocals = 1 := hml0
  have hown : s.vm.findClass "com/example/ramparts/ramparts/tile/SegmentIsMiddlePinLaw" = some m.cls := findClass_of_methodNamed Bd.named
  have hnm := (name_of_methodNamed Bd.named Bd.method).1
  have hlk : meth.locks = false := BodyLoose.notSynchronized Bd
  have X0 : Stand p l e ({ frames := 0, cells := 0, slots := 0, locals := 0 } : Room) s m #[(.int kk)] below meth c s₁ [] 0 0 := Stand.of_body Bd
  have e0 : s₁.heap = h0 := by rw [← hh, Bd.state]; rfl
  have N0 := Fr.nil n0
  refine ogo (U' := s₁.setTop (mkF m 0 #[.val (.int kk)] [])) (Q := Q1 Z kk w_N1 w_N2 w_N3 w_E1 w_E2 w_E3 w_S1 w_S2 w_S3 w_W1 w_W2 w_W3 h0 n0) (K := ({ frames := 0, cells := 0, slots := 0, locals := 0 } : Room).cells) (N := ({ frames := 0, cells := 0, slots := 0, locals := 0 } : Room).slots) (fun t k => castTop (ef_1 m kk) k) ?_
  show OwnEnds _ _ _ _ _ _ _ (s₁.setTop (mkF m 0 #[.val (.int kk)] []))
  refine ogo (fun t k => XS.iloadN X0.here hx rfl (hb hby d1_0) rfl k) ?_
  show OwnEnds _ _ _ _ _ _ _ (s₁.setTop (mkF m 1 #[.val (.int kk)] [(.int kk)]))
  by_cases hc1 : kk = (0 : Int32)
  · refine ogo (fun t k => XS.ifNo X0.here hx rfl (hb hby d1_1) rfl ((if0 _ _).trans (teq hc1).2) k) ?_
    show OwnEnds _ _ _ _ _ _ _ (s₁.setTop (mkF m 4 #[.val (.int kk)] []))
    obtain ⟨T2, X2, e2, st2⟩ := getS2 X0 hx hZ hown (host := "") (Or.inl (hw _ (List.mem_of_getElem? (i := 5) rfl))) Via.refl e0 S_N1 (g := (mkF m 4 #[.val (.int kk)] [])) rfl (hb hby d1_4)
    refine ogo st2 ?_
    show OwnEnds _ _ _ _ _ _ _ (T2.setTop (mkF m 7 #[.val (.int kk)] [(.ref w_N1)]))
    refine endA X2 hx hlk Bd.returns rfl rfl (hb hby d1_7) (by decide) (by decide) ?_
    show Q1 Z kk w_N1 w_N2 w_N3 w_E1 w_E2 w_E3 w_S1 w_S2 w_S3 w_W1 w_W2 w_W3 h0 n0 _ T2.heap _
    rw [e2]
    exact ⟨by simp [own_pick, hc1], N0, rfl⟩
  · refine ogo (fun t k => XS.ifYes X0.here hx rfl (pc0 := 1) (pc' := 8) rfl (hb hby d1_1) rfl ((if0 _ _).trans (feq hc1).2) (by decide) (by decide) k) ?_
    show OwnEnds _ _ _ _ _ _ _ (s₁.setTop (mkF m 8 #[.val (.int kk)] []))
    refine ogo (fun t k => XS.iloadN X0.here hx rfl (hb hby d1_8) rfl k) ?_
    show OwnEnds _ _ _ _ _ _ _ (s₁.setTop (mkF m 9 #[.val (.int kk)] [(.int kk)]))
    refine ogo (fun t k => XS.iconst X0.here hx rfl (hb hby d1_9) k) ?_
    show OwnEnds _ _ _ _ _ _ _ (s₁.setTop (mkF m 10 #[.val (.int kk)] [(.int (1 : Int32)), (.int kk)]))
    by_cases hc3 : kk = (1 : Int32)
    · refine ogo (fun t k => XS.icmpNo X0.here hx rfl (hb hby d1_10) rfl (teq hc3).2 k) ?_
      show OwnEnds _ _ _ _ _ _ _ (s₁.setTop (mkF m 13 #[.val (.int kk)] []))
      obtain ⟨T4, X4, e4, st4⟩ := getS2 X0 hx hZ hown (host := "") (Or.inl (hw _ (List.mem_of_getElem? (i := 8) rfl))) Via.refl e0 S_N2 (g := (mkF m 13 #[.val (.int kk)] [])) rfl (hb hby d1_13)
      refine ogo st4 ?_
      show OwnEnds _ _ _ _ _ _ _ (T4.setTop (mkF m 16 #[.val (.int kk)] [(.ref w_N2)]))
      refine endA X4 hx hlk Bd.returns rfl rfl (hb hby d1_16) (by decide) (by decide) ?_
      show Q1 Z kk w_N1 w_N2 w_N3 w_E1 w_E2 w_E3 w_S1 w_S2 w_S3 w_W1 w_W2 w_W3 h0 n0 _ T4.heap _
      rw [e4]
      exact ⟨by simp [own_pick, hc1, hc3], N0, rfl⟩
    · refine ogo (fun t k => XS.icmpYes X0.here hx rfl (pc0 := 10) (pc' := 17) rfl (hb hby d1_10) rfl (feq hc3).2 (by decide) (by decide) k) ?_
      show OwnEnds _ _ _ _ _ _ _ (s₁.setTop (mkF m 17 #[.val (.int kk)] []))
      refine ogo (fun t k => XS.iloadN X0.here hx rfl (hb hby d1_17) rfl k) ?_
      show OwnEnds _ _ _ _ _ _ _ (s₁.setTop (mkF m 18 #[.val (.int kk)] [(.int kk)]))
      refine ogo (fun t k => XS.iconst X0.here hx rfl (hb hby d1_18) k) ?_
      show OwnEnds _ _ _ _ _ _ _ (s₁.setTop (mkF m 19 #[.val (.int kk)] [(.int (2 : Int32)), (.int kk)]))
      by_cases hc5 : kk = (2 : Int32)
      · refine ogo (fun t k => XS.icmpNo X0.here hx rfl (hb hby d1_19) rfl (teq hc5).2 k) ?_
        show OwnEnds _ _ _ _ _ _ _ (s₁.setTop (mkF m 22 #[.val (.int kk)] []))
        obtain ⟨T6, X6, e6, st6⟩ := getS2 X0 hx hZ hown (host := "") (Or.inl (hw _ (List.mem_of_getElem? (i := 32) rfl))) Via.refl e0 S_N3 (g := (mkF m 22 #[.val (.int kk)] [])) rfl (hb hby d1_22)
        refine ogo st6 ?_
        show OwnEnds _ _ _ _ _ _ _ (T6.setTop (mkF m 25 #[.val (.int kk)] [(.ref w_N3)]))
        refine endA X6 hx hlk Bd.returns rfl rfl (hb hby d1_25) (by decide) (by decide) ?_
        show Q1 Z kk w_N1 w_N2 w_N3 w_E1 w_E2 w_E3 w_S1 w_S2 w_S3 w_W1 w_W2 w_W3 h0 n0 _ T6.heap _
        rw [e6]
        exact ⟨by simp [own_pick, hc1, hc3, hc5], N0, rfl⟩
      · refine ogo (fun t k => XS.icmpYes X0.here hx rfl (pc0 := 19) (pc' := 26) rfl (hb hby d1_19) rfl (feq hc5).2 (by decide) (by decide) k) ?_
        show OwnEnds _ _ _ _ _ _ _ (s₁.setTop (mkF m 26 #[.val (.int kk)] []))
        refine ogo (fun t k => XS.iloadN X0.here hx rfl (hb hby d1_26) rfl k) ?_
        show OwnEnds _ _ _ _ _ _ _ (s₁.setTop (mkF m 27 #[.val (.int kk)] [(.int kk)]))
        refine ogo (fun t k => XS.iconst X0.here hx rfl (hb hby d1_27) k) ?_
        show OwnEnds _ _ _ _ _ _ _ (s₁.setTop (mkF m 28 #[.val (.int kk)] [(.int (3 : Int32)), (.int kk)]))
        by_cases hc7 : kk = (3 : Int32)
        · refine ogo (fun t k => XS.icmpNo X0.here hx rfl (hb hby d1_28) rfl (teq hc7).2 k) ?_
          show OwnEnds _ _ _ _ _ _ _ (s₁.setTop (mkF m 31 #[.val (.int kk)] []))
          obtain ⟨T8, X8, e8, st8⟩ := getS2 X0 hx hZ hown (host := "") (Or.inl (hw _ (List.mem_of_getElem? (i := 30) rfl))) Via.refl e0 S_E1 (g := (mkF m 31 #[.val (.int kk)] [])) rfl (hb hby d1_31)
          refine ogo st8 ?_
          show OwnEnds _ _ _ _ _ _ _ (T8.setTop (mkF m 34 #[.val (.int kk)] [(.ref w_E1)]))
          refine endA X8 hx hlk Bd.returns rfl rfl (hb hby d1_34) (by decide) (by decide) ?_
          show Q1 Z kk w_N1 w_N2 w_N3 w_E1 w_E2 w_E3 w_S1 w_S2 w_S3 w_W1 w_W2 w_W3 h0 n0 _ T8.heap _
          rw [e8]
          exact ⟨by simp [own_pick, hc1, hc3, hc5, hc7], N0, rfl⟩
        · refine ogo (fun t k => XS.icmpYes X0.here hx rfl (pc0 := 28) (pc' := 35) rfl (hb hby d1_28) rfl (feq hc7).2 (by decide) (by decide) k) ?_
          show OwnEnds _ _ _ _ _ _ _ (s₁.setTop (mkF m 35 #[.val (.int kk)] []))
          refine ogo (fun t k => XS.iloadN X0.here hx rfl (hb hby d1_35) rfl k) ?_
          show OwnEnds _ _ _ _ _ _ _ (s₁.setTop (mkF m 36 #[.val (.int kk)] [(.int kk)]))
          refine ogo (fun t k => XS.iconst X0.here hx rfl (hb hby d1_36) k) ?_
          show OwnEnds _ _ _ _ _ _ _ (s₁.setTop (mkF m 37 #[.val (.int kk)] [(.int (4 : Int32)), (.int kk)]))
          by_cases hc9 : kk = (4 : Int32)
          · refine ogo (fun t k => XS.icmpNo X0.here hx rfl (hb hby d1_37) rfl (teq hc9).2 k) ?_
            show OwnEnds _ _ _ _ _ _ _ (s₁.setTop (mkF m 40 #[.val (.int kk)] []))
            obtain ⟨T10, X10, e10, st10⟩ := getS2 X0 hx hZ hown (host := "") (Or.inl (hw _ (List.mem_of_getElem? (i := 10) rfl))) Via.refl e0 S_E2 (g := (mkF m 40 #[.val (.int kk)] [])) rfl (hb hby d1_40)
            refine ogo st10 ?_
            show OwnEnds _ _ _ _ _ _ _ (T10.setTop (mkF m 43 #[.val (.int kk)] [(.ref w_E2)]))
            refine endA X10 hx hlk Bd.returns rfl rfl (hb hby d1_43) (by decide) (by decide) ?_
            show Q1 Z kk w_N1 w_N2 w_N3 w_E1 w_E2 w_E3 w_S1 w_S2 w_S3 w_W1 w_W2 w_W3 h0 n0 _ T10.heap _
            rw [e10]
            exact ⟨by simp [own_pick, hc1, hc3, hc5, hc7, hc9], N0, rfl⟩
          · refine ogo (fun t k => XS.icmpYes X0.here hx rfl (pc0 := 37) (pc' := 44) rfl (hb hby d1_37) rfl (feq hc9).2 (by decide) (by decide) k) ?_
            show OwnEnds _ _ _ _ _ _ _ (s₁.setTop (mkF m 44 #[.val (.int kk)] []))
            refine ogo (fun t k => XS.iloadN X0.here hx rfl (hb hby d1_44) rfl k) ?_
            show OwnEnds _ _ _ _ _ _ _ (s₁.setTop (mkF m 45 #[.val (.int kk)] [(.int kk)]))
            refine ogo (fun t k => XS.iconst X0.here hx rfl (hb hby d1_45) k) ?_
            show OwnEnds _ _ _ _ _ _ _ (s₁.setTop (mkF m 46 #[.val (.int kk)] [(.int (5 : Int32)), (.int kk)]))
            by_cases hc11 : kk = (5 : Int32)
            · refine ogo (fun t k => XS.icmpNo X0.here hx rfl (hb hby d1_46) rfl (teq hc11).2 k) ?_
              show OwnEnds _ _ _ _ _ _ _ (s₁.setTop (mkF m 49 #[.val (.int kk)] []))
              obtain ⟨T12, X12, e12, st12⟩ := getS2 X0 hx hZ hown (host := "") (Or.inl (hw _ (List.mem_of_getElem? (i := 42) rfl))) Via.refl e0 S_E3 (g := (mkF m 49 #[.val (.int kk)] [])) rfl (hb hby d1_49)
              refine ogo st12 ?_
              show OwnEnds _ _ _ _ _ _ _ (T12.setTop (mkF m 52 #[.val (.int kk)] [(.ref w_E3)]))
              refine endA X12 hx hlk Bd.returns rfl rfl (hb hby d1_52) (by decide) (by decide) ?_
              show Q1 Z kk w_N1 w_N2 w_N3 w_E1 w_E2 w_E3 w_S1 w_S2 w_S3 w_W1 w_W2 w_W3 h0 n0 _ T12.heap _
              rw [e12]
              exact ⟨by simp [own_pick, hc1, hc3, hc5, hc7, hc9, hc11], N0, rfl⟩
            · refine ogo (fun t k => XS.icmpYes X0.here hx rfl (pc0 := 46) (pc' := 53) rfl (hb hby d1_46) rfl (feq hc11).2 (by decide) (by decide) k) ?_
              show OwnEnds _ _ _ _ _ _ _ (s₁.setTop (mkF m 53 #[.val (.int kk)] []))
              refine ogo (fun t k => XS.iloadN X0.here hx rfl (hb hby d1_53) rfl k) ?_
              show OwnEnds _ _ _ _ _ _ _ (s₁.setTop (mkF m 54 #[.val (.int kk)] [(.int kk)]))
              refine ogo (fun t k => XS.bipush X0.here hx rfl (hb hby d1_54) k) ?_
              show OwnEnds _ _ _ _ _ _ _ (s₁.setTop (mkF m 56 #[.val (.int kk)] [(.int (6 : Int32)), (.int kk)]))
              by_cases hc13 : kk = (6 : Int32)
              · refine ogo (fun t k => XS.icmpNo X0.here hx rfl (hb hby d1_56) rfl (teq hc13).2 k) ?_
                show OwnEnds _ _ _ _ _ _ _ (s₁.setTop (mkF m 59 #[.val (.int kk)] []))
                obtain ⟨T14, X14, e14, st14⟩ := getS2 X0 hx hZ hown (host := "") (Or.inl (hw _ (List.mem_of_getElem? (i := 40) rfl))) Via.refl e0 S_S1 (g := (mkF m 59 #[.val (.int kk)] [])) rfl (hb hby d1_59)
                refine ogo st14 ?_
                show OwnEnds _ _ _ _ _ _ _ (T14.setTop (mkF m 62 #[.val (.int kk)] [(.ref w_S1)]))
                refine endA X14 hx hlk Bd.returns rfl rfl (hb hby d1_62) (by decide) (by decide) ?_
                show Q1 Z kk w_N1 w_N2 w_N3 w_E1 w_E2 w_E3 w_S1 w_S2 w_S3 w_W1 w_W2 w_W3 h0 n0 _ T14.heap _
                rw [e14]
                exact ⟨by simp [own_pick, hc1, hc3, hc5, hc7, hc9, hc11, hc13], N0, rfl⟩
              · refine ogo (fun t k => XS.icmpYes X0.here hx rfl (pc0 := 56) (pc' := 63) rfl (hb hby d1_56) rfl (feq hc13).2 (by decide) (by decide) k) ?_
                show OwnEnds _ _ _ _ _ _ _ (s₁.setTop (mkF m 63 #[.val (.int kk)] []))
                refine ogo (fun t k => XS.iloadN X0.here hx rfl (hb hby d1_63) rfl k) ?_
                show OwnEnds _ _ _ _ _ _ _ (s₁.setTop (mkF m 64 #[.val (.int kk)] [(.int kk)]))
                refine ogo (fun t k => XS.bipush X0.here hx rfl (hb hby d1_64) k) ?_
                show OwnEnds _ _ _ _ _ _ _ (s₁.setTop (mkF m 66 #[.val (.int kk)] [(.int (7 : Int32)), (.int kk)]))
                by_cases hc15 : kk = (7 : Int32)
                · refine ogo (fun t k => XS.icmpNo X0.here hx rfl (hb hby d1_66) rfl (teq hc15).2 k) ?_
                  show OwnEnds _ _ _ _ _ _ _ (s₁.setTop (mkF m 69 #[.val (.int kk)] []))
                  obtain ⟨T16, X16, e16, st16⟩ := getS2 X0 hx hZ hown (host := "") (Or.inl (hw _ (List.mem_of_getElem? (i := 12) rfl))) Via.refl e0 S_S2 (g := (mkF m 69 #[.val (.int kk)] [])) rfl (hb hby d1_69)
                  refine ogo st16 ?_
                  show OwnEnds _ _ _ _ _ _ _ (T16.setTop (mkF m 72 #[.val (.int kk)] [(.ref w_S2)]))
                  refine endA X16 hx hlk Bd.returns rfl rfl (hb hby d1_72) (by decide) (by decide) ?_
                  show Q1 Z kk w_N1 w_N2 w_N3 w_E1 w_E2 w_E3 w_S1 w_S2 w_S3 w_W1 w_W2 w_W3 h0 n0 _ T16.heap _
                  rw [e16]
                  exact ⟨by simp [own_pick, hc1, hc3, hc5, hc7, hc9, hc11, hc13, hc15], N0, rfl⟩
                · refine ogo (fun t k => XS.icmpYes X0.here hx rfl (pc0 := 66) (pc' := 73) rfl (hb hby d1_66) rfl (feq hc15).2 (by decide) (by decide) k) ?_
                  show OwnEnds _ _ _ _ _ _ _ (s₁.setTop (mkF m 73 #[.val (.int kk)] []))
                  refine ogo (fun t k => XS.iloadN X0.here hx rfl (hb hby d1_73) rfl k) ?_
                  show OwnEnds _ _ _ _ _ _ _ (s₁.setTop (mkF m 74 #[.val (.int kk)] [(.int kk)]))
                  refine ogo (fun t k => XS.bipush X0.here hx rfl (hb hby d1_74) k) ?_
                  show OwnEnds _ _ _ _ _ _ _ (s₁.setTop (mkF m 76 #[.val (.int kk)] [(.int (8 : Int32)), (.int kk)]))
                  by_cases hc17 : kk = (8 : Int32)
                  · refine ogo (fun t k => XS.icmpNo X0.here hx rfl (hb hby d1_76) rfl (teq hc17).2 k) ?_
                    show OwnEnds _ _ _ _ _ _ _ (s₁.setTop (mkF m 79 #[.val (.int kk)] []))
                    obtain ⟨T18, X18, e18, st18⟩ := getS2 X0 hx hZ hown (host := "") (Or.inl (hw _ (List.mem_of_getElem? (i := 36) rfl))) Via.refl e0 S_S3 (g := (mkF m 79 #[.val (.int kk)] [])) rfl (hb hby d1_79)
                    refine ogo st18 ?_
                    show OwnEnds _ _ _ _ _ _ _ (T18.setTop (mkF m 82 #[.val (.int kk)] [(.ref w_S3)]))
                    refine endA X18 hx hlk Bd.returns rfl rfl (hb hby d1_82) (by decide) (by decide) ?_
                    show Q1 Z kk w_N1 w_N2 w_N3 w_E1 w_E2 w_E3 w_S1 w_S2 w_S3 w_W1 w_W2 w_W3 h0 n0 _ T18.heap _
                    rw [e18]
                    exact ⟨by simp [own_pick, hc1, hc3, hc5, hc7, hc9, hc11, hc13, hc15, hc17], N0, rfl⟩
                  · refine ogo (fun t k => XS.icmpYes X0.here hx rfl (pc0 := 76) (pc' := 83) rfl (hb hby d1_76) rfl (feq hc17).2 (by decide) (by decide) k) ?_
                    show OwnEnds _ _ _ _ _ _ _ (s₁.setTop (mkF m 83 #[.val (.int kk)] []))
                    refine ogo (fun t k => XS.iloadN X0.here hx rfl (hb hby d1_83) rfl k) ?_
                    show OwnEnds _ _ _ _ _ _ _ (s₁.setTop (mkF m 84 #[.val (.int kk)] [(.int kk)]))
                    refine ogo (fun t k => XS.bipush X0.here hx rfl (hb hby d1_84) k) ?_
                    show OwnEnds _ _ _ _ _ _ _ (s₁.setTop (mkF m 86 #[.val (.int kk)] [(.int (9 : Int32)), (.int kk)]))
                    by_cases hc19 : kk = (9 : Int32)
                    · refine ogo (fun t k => XS.icmpNo X0.here hx rfl (hb hby d1_86) rfl (teq hc19).2 k) ?_
                      show OwnEnds _ _ _ _ _ _ _ (s₁.setTop (mkF m 89 #[.val (.int kk)] []))
                      obtain ⟨T20, X20, e20, st20⟩ := getS2 X0 hx hZ hown (host := "") (Or.inl (hw _ (List.mem_of_getElem? (i := 38) rfl))) Via.refl e0 S_W1 (g := (mkF m 89 #[.val (.int kk)] [])) rfl (hb hby d1_89)
                      refine ogo st20 ?_
                      show OwnEnds _ _ _ _ _ _ _ (T20.setTop (mkF m 92 #[.val (.int kk)] [(.ref w_W1)]))
                      refine endA X20 hx hlk Bd.returns rfl rfl (hb hby d1_92) (by decide) (by decide) ?_
                      show Q1 Z kk w_N1 w_N2 w_N3 w_E1 w_E2 w_E3 w_S1 w_S2 w_S3 w_W1 w_W2 w_W3 h0 n0 _ T20.heap _
                      rw [e20]
                      exact ⟨by simp [own_pick, hc1, hc3, hc5, hc7, hc9, hc11, hc13, hc15, hc17, hc19], N0, rfl⟩
                    · refine ogo (fun t k => XS.icmpYes X0.here hx rfl (pc0 := 86) (pc' := 93) rfl (hb hby d1_86) rfl (feq hc19).2 (by decide) (by decide) k) ?_
                      show OwnEnds _ _ _ _ _ _ _ (s₁.setTop (mkF m 93 #[.val (.int kk)] []))
                      refine ogo (fun t k => XS.iloadN X0.here hx rfl (hb hby d1_93) rfl k) ?_
                      show OwnEnds _ _ _ _ _ _ _ (s₁.setTop (mkF m 94 #[.val (.int kk)] [(.int kk)]))
                      refine ogo (fun t k => XS.bipush X0.here hx rfl (hb hby d1_94) k) ?_
                      show OwnEnds _ _ _ _ _ _ _ (s₁.setTop (mkF m 96 #[.val (.int kk)] [(.int (10 : Int32)), (.int kk)]))
                      by_cases hc21 : kk = (10 : Int32)
                      · refine ogo (fun t k => XS.icmpNo X0.here hx rfl (hb hby d1_96) rfl (teq hc21).2 k) ?_
                        show OwnEnds _ _ _ _ _ _ _ (s₁.setTop (mkF m 99 #[.val (.int kk)] []))
                        obtain ⟨T22, X22, e22, st22⟩ := getS2 X0 hx hZ hown (host := "") (Or.inl (hw _ (List.mem_of_getElem? (i := 14) rfl))) Via.refl e0 S_W2 (g := (mkF m 99 #[.val (.int kk)] [])) rfl (hb hby d1_99)
                        refine ogo st22 ?_
                        show OwnEnds _ _ _ _ _ _ _ (T22.setTop (mkF m 102 #[.val (.int kk)] [(.ref w_W2)]))
                        refine endA X22 hx hlk Bd.returns rfl rfl (hb hby d1_102) (by decide) (by decide) ?_
                        show Q1 Z kk w_N1 w_N2 w_N3 w_E1 w_E2 w_E3 w_S1 w_S2 w_S3 w_W1 w_W2 w_W3 h0 n0 _ T22.heap _
                        rw [e22]
                        exact ⟨by simp [own_pick, hc1, hc3, hc5, hc7, hc9, hc11, hc13, hc15, hc17, hc19, hc21], N0, rfl⟩
                      · refine ogo (fun t k => XS.icmpYes X0.here hx rfl (pc0 := 96) (pc' := 103) rfl (hb hby d1_96) rfl (feq hc21).2 (by decide) (by decide) k) ?_
                        show OwnEnds _ _ _ _ _ _ _ (s₁.setTop (mkF m 103 #[.val (.int kk)] []))
                        obtain ⟨T23, X23, e23, st23⟩ := getS2 X0 hx hZ hown (host := "") (Or.inl (hw _ (List.mem_of_getElem? (i := 34) rfl))) Via.refl e0 S_W3 (g := (mkF m 103 #[.val (.int kk)] [])) rfl (hb hby d1_103)
                        refine ogo st23 ?_
                        show OwnEnds _ _ _ _ _ _ _ (T23.setTop (mkF m 106 #[.val (.int kk)] [(.ref w_W3)]))
                        refine endA X23 hx hlk Bd.returns rfl rfl (hb hby d1_106) (by decide) (by decide) ?_
                        show Q1 Z kk w_N1 w_N2 w_N3 w_E1 w_E2 w_E3 w_S1 w_S2 w_S3 w_W1 w_W2 w_W3 h0 n0 _ T23.heap _
                        rw [e23]
                        exact ⟨by simp [own_pick, hc1, hc3, hc5, hc7, hc9, hc11, hc13, hc15, hc17, hc19, hc21], N0, rfl⟩
theorem d2_0 : decode jdk_37_method_2_code 0 = .ok (.aload_n 0, 1) := by decide +kernel
theorem d2_1 : decode jdk_37_method_2_code 1 = .ok (.getfield 7, 3) := by decide +kernel
theorem d2_4 : decode jdk_37_method_2_code 4 = .ok (.ireturn, 1) := by decide +kernel
theorem pn_Enum : plainName "java/lang/Enum" = true := by first | (simp [plainName, overriddenIn]; done) | decide +kernel
theorem ef_2 (m : MethodId) (x0 : Addr) : entryFrame m #[(.ref x0)] 1 = mkF m 0 #[.val (.ref x0)] [] := by first | (simp [entryFrame, mkF, argsToLocals, Value.category]; done) | rfl
def Q2 (Z : State) (a1 : Addr) (o1 : Int32) (h0 : Heap) (n0 : Nat) (v : Option Value) (h : Heap) (L : List Loc) : Prop := v = some (.int o1) ∧ Fr n0 L ∧ h = h0
set_option maxRecDepth 65536 in
set_option maxHeartbeats 40000000 in
theorem rm2 (l : Launch) (Z : State) (a0 : Array Value) (hw : ∀ d ∈ tables_1, d.before a0 Z = true) (ws : List Jvm.Cond) (a1 : Addr) (o1 : Int32) (h0 : Heap) (n0 : Nat) (Z0 : n0 ≤ h0.size) (F_o : Fld Z h0 a1 "java/lang/Enum" "ordinal" "I" (.int o1)) :
    MetFree l (⟨"java/lang/Enum", "ordinal", "()I"⟩ : MethodName) (head1 (Jvm.Cond.code (⟨"java/lang/Enum", "ordinal", "()I"⟩ : MethodName) jdk_37_method_2_code 1 (some .int) :: ws) ({ frames := 0, cells := 0, slots := 0, locals := 0 } : Room)) (fun a U => a = #[(.ref a1)] ∧ Z.Warmed39 U.vm ∧ U.heap = h0) (fun _ _ _ _ _ => True) (fun _ U o U' => ∃ v L, o = .returned v ∧ Q2 Z a1 o1 h0 n0 v U'.heap L ∧ FrameEnd U o U' L ({ frames := 0, cells := 0, slots := 0, locals := 0 } : Room).cells ({ frames := 0, cells := 0, slots := 0, locals := 0 } : Room).slots) := by
  refine MetFree.of_bodySF (plainFor_of_name pn_Enum) hisR ?_
  intro p e s m args below meth c s₁ Bd hml0 hP hK
  obtain ⟨rfl, hZ, hh⟩ := hP
  have hx := Bd.exec
  have hby := Bd.bytes
  have hml : c.maxLocals = 1 := hml0
  have hown : s.vm.findClass "java/lang/Enum" = some m.cls := findClass_of_methodNamed Bd.named
  have hnm := (name_of_methodNamed Bd.named Bd.method).1
  have hlk : meth.locks = false := BodyLoose.notSynchronized Bd
  have X0 : Stand p l e ({ frames := 0, cells := 0, slots := 0, locals := 0 } : Room) s m #[(.ref a1)] below meth c s₁ [] 0 0 := Stand.of_body Bd
  have e0 : s₁.heap = h0 := by rw [← hh, Bd.state]; rfl
  have N0 := Fr.nil n0
  refine ogo (U' := s₁.setTop (mkF m 0 #[.val (.ref a1)] [])) (Q := Q2 Z a1 o1 h0 n0) (K := ({ frames := 0, cells := 0, slots := 0, locals := 0 } : Room).cells) (N := ({ frames := 0, cells := 0, slots := 0, locals := 0 } : Room).slots) (fun t k => castTop (ef_2 m a1) k) ?_
  show OwnEnds _ _ _ _ _ _ _ (s₁.setTop (mkF m 0 #[.val (.ref a1)] []))
  refine ogo (fun t k => XS.aloadN X0.here hx rfl (hb hby d2_0) rfl rfl k) ?_
  show OwnEnds _ _ _ _ _ _ _ (s₁.setTop (mkF m 1 #[.val (.ref a1)] [(.ref a1)]))
  obtain ⟨T1, X1, e1, st1⟩ := getF X0 hx hZ hown (host := "") (Or.inl (hw _ (List.mem_of_getElem? (i := 28) rfl))) Via.refl e0 F_o (g := (mkF m 1 #[.val (.ref a1)] [(.ref a1)])) rfl rfl (hb hby d2_1)
  refine ogo st1 ?_
  show OwnEnds _ _ _ _ _ _ _ (T1.setTop (mkF m 4 #[.val (.ref a1)] [(.int o1)]))
  refine endI X1 hx hlk Bd.returns (hb hby d2_4) (by decide) (by decide) ?_
  show Q2 Z a1 o1 h0 n0 _ T1.heap _
  rw [e1]
  exact ⟨by simp [], N0, rfl⟩
theorem d3_0 : decode prog_36_method_4_code 0 = .ok (.aload_n 0, 1) := by decide +kernel
theorem d3_1 : decode prog_36_method_4_code 1 = .ok (.invokevirtual 59, 3) := by decide +kernel
theorem d3_4 : decode prog_36_method_4_code 4 = .ok (.iconst 3, 1) := by decide +kernel
theorem d3_5 : decode prog_36_method_4_code 5 = .ok (.irem, 1) := by decide +kernel
theorem d3_6 : decode prog_36_method_4_code 6 = .ok (.iconst 1, 1) := by decide +kernel
theorem d3_7 : decode prog_36_method_4_code 7 = .ok (.if_icmp .ne 7, 3) := by decide +kernel
theorem d3_10 : decode prog_36_method_4_code 10 = .ok (.iconst 1, 1) := by decide +kernel
theorem d3_11 : decode prog_36_method_4_code 11 = .ok (.goto 4, 3) := by decide +kernel
theorem d3_14 : decode prog_36_method_4_code 14 = .ok (.iconst 0, 1) := by decide +kernel
theorem d3_15 : decode prog_36_method_4_code 15 = .ok (.ireturn, 1) := by decide +kernel
theorem pn_Segment : plainName "com/example/ramparts/ramparts/tile/Segment" = true := by first | (simp [plainName, overriddenIn]; done) | decide +kernel
theorem pd___I : parseMethodDescriptor "()I" = some ⟨[], some .int⟩ := by decide +kernel
theorem ef_3 (m : MethodId) (x0 : Addr) : entryFrame m #[(.ref x0)] 1 = mkF m 0 #[.val (.ref x0)] [] := by first | (simp [entryFrame, mkF, argsToLocals, Value.category]; done) | rfl
def Q3 (Z : State) (a1 : Addr) (o1 : Int32) (h0 : Heap) (n0 : Nat) (v : Option Value) (h : Heap) (L : List Loc) : Prop := v = some (.int (if o1 % 3 = 1 then 1 else 0)) ∧ Fr n0 L ∧ h = h0
set_option maxRecDepth 65536 in
set_option maxHeartbeats 40000000 in
theorem rm3 (l : Launch) (Z : State) (a0 : Array Value) (hw : ∀ d ∈ tables_1, d.before a0 Z = true) (ws : List Jvm.Cond) (a1 : Addr) (o1 : Int32) (h0 : Heap) (n0 : Nat) (Z0 : n0 ≤ h0.size) (F_o : Fld Z h0 a1 "java/lang/Enum" "ordinal" "I" (.int o1)) (E_a : Exa Z h0 a1 "com/example/ramparts/ramparts/tile/Segment") :
    MetFree l (⟨"com/example/ramparts/ramparts/tile/Segment", "isMiddle", "()Z"⟩ : MethodName) (head1 (Jvm.Cond.code (⟨"com/example/ramparts/ramparts/tile/Segment", "isMiddle", "()Z"⟩ : MethodName) prog_36_method_4_code 1 (some .boolean) :: ws) ({ frames := 1, cells := 0, slots := 0, locals := 12 } : Room)) (fun a U => a = #[(.ref a1)] ∧ Z.Warmed39 U.vm ∧ U.heap = h0) (fun _ _ _ _ _ => True) (fun _ U o U' => ∃ v L, o = .returned v ∧ Q3 Z a1 o1 h0 n0 v U'.heap L ∧ FrameEnd U o U' L ({ frames := 1, cells := 0, slots := 0, locals := 12 } : Room).cells ({ frames := 1, cells := 0, slots := 0, locals := 12 } : Room).slots) := by
  refine MetFree.of_bodySF (plainFor_of_name pn_Segment) hisR ?_
  intro p e s m args below meth c s₁ Bd hml0 hP hK
  obtain ⟨rfl, hZ, hh⟩ := hP
  have hx := Bd.exec
  have hby := Bd.bytes
  have hml : c.maxLocals = 1 := hml0
  have hown : s.vm.findClass "com/example/ramparts/ramparts/tile/Segment" = some m.cls := findClass_of_methodNamed Bd.named
  have hnm := (name_of_methodNamed Bd.named Bd.method).1
  have hlk : meth.locks = false := BodyLoose.notSynchronized Bd
  have X0 : Stand p l e ({ frames := 1, cells := 0, slots := 0, locals := 12 } : Room) s m #[(.ref a1)] below meth c s₁ [] 0 0 := Stand.of_body Bd
  have e0 : s₁.heap = h0 := by rw [← hh, Bd.state]; rfl
  have N0 := Fr.nil n0
  refine ogo (U' := s₁.setTop (mkF m 0 #[.val (.ref a1)] [])) (Q := Q3 Z a1 o1 h0 n0) (K := ({ frames := 1, cells := 0, slots := 0, locals := 12 } : Room).cells) (N := ({ frames := 1, cells := 0, slots := 0, locals := 12 } : Room).slots) (fun t k => castTop (ef_3 m a1) k) ?_
  show OwnEnds _ _ _ _ _ _ _ (s₁.setTop (mkF m 0 #[.val (.ref a1)] []))
  refine ogo (fun t k => XS.aloadN X0.here hx rfl (hb hby d3_0) rfl rfl k) ?_
  show OwnEnds _ _ _ _ _ _ _ (s₁.setTop (mkF m 1 #[.val (.ref a1)] [(.ref a1)]))
  obtain ⟨cq1, kq1, q1a, q1b, q1c⟩ := isOf hZ e0 E_a
  obtain ⟨v1, _, ⟨T1, L1, k1, n1⟩, -, X1, ⟨Lc1, hQ1, l1, y1, z1⟩, st1⟩ := X0.virtualBackUp hx (x := (⟨"com/example/ramparts/ramparts/tile/Segment", "ordinal", "()I"⟩ : MethodName)) (y := (⟨"java/lang/Enum", "ordinal", "()I"⟩ : MethodName)) (owner := "java/lang/Enum") hown (mvT hZ (hw _ (List.mem_of_getElem? (i := 21) rfl))) (mvT hZ (hw _ (List.mem_of_getElem? (i := 22) rfl))) (mvT hZ (hw _ (List.mem_of_getElem? (i := 23) rfl))) (by decide) (mvT hZ (hw _ (List.mem_of_getElem? (i := 25) rfl))) (mvT hZ (hw _ (List.mem_of_getElem? (i := 24) rfl))) (backOf (W := 0) (rm2 l Z a0 hw [] a1 o1 h0 n0 Z0 F_o) hZ (hw _ (List.mem_of_getElem? (i := 27) rfl)) (hw _ (List.mem_of_getElem? (i := 26) rfl)) (by decide) (by decide)) q1a q1c (g := (mkF m 1 #[.val (.ref a1)] [(.ref a1)])) rfl (by rw [hml]; rfl) (Steps.refl _) (argsL := []) (rest := []) (lenOf pd___I rfl) rfl (by show 2 * 0 + _ ≤ _; exact Nat.le_of_eq rfl) (hb hby d3_1) (fun _ _ => ⟨rfl, e0, (by decide : 0 + 0 ≤ _), (by decide : 0 + 0 ≤ _)⟩)
  dsimp only [Pt.U, Pt.locs, Pt.cells, Pt.slots] at X1 l1 y1 z1 st1 hQ1
  subst l1 y1 z1
  obtain ⟨rfl, N1q, e1⟩ := hQ1
  have N1 := Fr.app N0 N1q
  refine ogo (fun t k => st1.trans k) ?_
  show OwnEnds _ _ _ _ _ _ _ (T1.setTop (mkF m 4 #[.val (.ref a1)] [(.int o1)]))
  refine ogo (fun t k => XS.iconst X1.here hx rfl (hb hby d3_4) k) ?_
  show OwnEnds _ _ _ _ _ _ _ (T1.setTop (mkF m 5 #[.val (.ref a1)] [(.int (3 : Int32)), (.int o1)]))
  refine ogo (fun t k => iremM (g := (mkF m 5 #[.val (.ref a1)] [(.int (3 : Int32)), (.int o1)])) X1 hx rfl (hb hby d3_5) rfl (by decide) k) ?_
  show OwnEnds _ _ _ _ _ _ _ (T1.setTop (mkF m 6 #[.val (.ref a1)] [(.int (o1 % (3 : Int32)))]))
  refine ogo (fun t k => XS.iconst X1.here hx rfl (hb hby d3_6) k) ?_
  show OwnEnds _ _ _ _ _ _ _ (T1.setTop (mkF m 7 #[.val (.ref a1)] [(.int (1 : Int32)), (.int (o1 % (3 : Int32)))]))
  by_cases hc2 : (o1 % (3 : Int32)) = (1 : Int32)
  · refine ogo (fun t k => XS.icmpNo X1.here hx rfl (hb hby d3_7) rfl (teq hc2).2 k) ?_
    show OwnEnds _ _ _ _ _ _ _ (T1.setTop (mkF m 10 #[.val (.ref a1)] []))
    refine ogo (fun t k => XS.iconst X1.here hx rfl (hb hby d3_10) k) ?_
    show OwnEnds _ _ _ _ _ _ _ (T1.setTop (mkF m 11 #[.val (.ref a1)] [(.int (1 : Int32))]))
    refine ogo (fun t k => XS.goto X1.here hx rfl (pc0 := 11) (pc' := 15) rfl (hb hby d3_11) (by decide) (by decide) k) ?_
    show OwnEnds _ _ _ _ _ _ _ (T1.setTop (mkF m 15 #[.val (.ref a1)] [(.int (1 : Int32))]))
    refine endZ X1 hx hlk Bd.returns rfl (hb hby d3_15) (by decide) (by decide) ?_
    show Q3 Z a1 o1 h0 n0 _ T1.heap _
    rw [e1]
    exact ⟨by simp [hc2], N1, rfl⟩
  · refine ogo (fun t k => XS.icmpYes X1.here hx rfl (pc0 := 7) (pc' := 14) rfl (hb hby d3_7) rfl (feq hc2).2 (by decide) (by decide) k) ?_
    show OwnEnds _ _ _ _ _ _ _ (T1.setTop (mkF m 14 #[.val (.ref a1)] []))
    refine ogo (fun t k => XS.iconst X1.here hx rfl (hb hby d3_14) k) ?_
    show OwnEnds _ _ _ _ _ _ _ (T1.setTop (mkF m 15 #[.val (.ref a1)] [(.int (0 : Int32))]))
    refine endZ X1 hx hlk Bd.returns rfl (hb hby d3_15) (by decide) (by decide) ?_
    show Q3 Z a1 o1 h0 n0 _ T1.heap _
    rw [e1]
    exact ⟨by simp [hc2], N1, rfl⟩
theorem pd__I_Lcom_example_ramparts_ramparts_tile_Segment_ : parseMethodDescriptor "(I)Lcom/example/ramparts/ramparts/tile/Segment;" = some ⟨[.int], some (.object "com/example/ramparts/ramparts/tile/Segment")⟩ := by decide +kernel
theorem pd___Z : parseMethodDescriptor "()Z" = some ⟨[], some .boolean⟩ := by decide +kernel
theorem ef_0 (m : MethodId) (x0 : Int32) : entryFrame m #[(.int x0)] maxLocals = mkF m 0 #[.val (.int x0), .unset, .unset, .unset] [] := by first | (simp [entryFrame, mkF, argsToLocals, Value.category, maxLocals]; done) | rfl
def Q0 (Z : State) (p0 : Int32) (w_N1 w_N2 w_E2 w_S2 w_W2 w_E1 w_N3 w_W3 w_S3 w_W1 w_S1 w_E3 : Addr) (h0 : Heap) (n0 : Nat) (v : Option Value) (h : Heap) (L : List Loc) : Prop := v = some (.int 1) ∧ Fr n0 L
set_option maxRecDepth 65536 in
set_option maxHeartbeats 40000000 in
theorem rm0 (l : Launch) (Z : State) (a0 : Array Value) (hw : ∀ d ∈ tables_1, d.before a0 Z = true) (ws : List Jvm.Cond) (p0 : Int32) (w_N1 w_N2 w_E2 w_S2 w_W2 w_E1 w_N3 w_W3 w_S3 w_W1 w_S1 w_E3 : Addr) (h0 : Heap) (n0 : Nat) (Z0 : n0 ≤ h0.size) (S_N1 : Sta Z h0 "com/example/ramparts/ramparts/tile/Segment" "N1" "Lcom/example/ramparts/ramparts/tile/Segment;" (.ref w_N1)) (E_N1 : Exa Z h0 w_N1 "com/example/ramparts/ramparts/tile/Segment") (F_ordinal_N1 : Fld Z h0 w_N1 "java/lang/Enum" "ordinal" "I" (.int (0 : Int32))) (S_N2 : Sta Z h0 "com/example/ramparts/ramparts/tile/Segment" "N2" "Lcom/example/ramparts/ramparts/tile/Segment;" (.ref w_N2)) (E_N2 : Exa Z h0 w_N2 "com/example/ramparts/ramparts/tile/Segment") (F_ordinal_N2 : Fld Z h0 w_N2 "java/lang/Enum" "ordinal" "I" (.int (1 : Int32))) (S_E2 : Sta Z h0 "com/example/ramparts/ramparts/tile/Segment" "E2" "Lcom/example/ramparts/ramparts/tile/Segment;" (.ref w_E2)) (E_E2 : Exa Z h0 w_E2 "com/example/ramparts/ramparts/tile/Segment") (F_ordinal_E2 : Fld Z h0 w_E2 "java/lang/Enum" "ordinal" "I" (.int (4 : Int32))) (S_S2 : Sta Z h0 "com/example/ramparts/ramparts/tile/Segment" "S2" "Lcom/example/ramparts/ramparts/tile/Segment;" (.ref w_S2)) (E_S2 : Exa Z h0 w_S2 "com/example/ramparts/ramparts/tile/Segment") (F_ordinal_S2 : Fld Z h0 w_S2 "java/lang/Enum" "ordinal" "I" (.int (7 : Int32))) (S_W2 : Sta Z h0 "com/example/ramparts/ramparts/tile/Segment" "W2" "Lcom/example/ramparts/ramparts/tile/Segment;" (.ref w_W2)) (E_W2 : Exa Z h0 w_W2 "com/example/ramparts/ramparts/tile/Segment") (F_ordinal_W2 : Fld Z h0 w_W2 "java/lang/Enum" "ordinal" "I" (.int (10 : Int32))) (S_E1 : Sta Z h0 "com/example/ramparts/ramparts/tile/Segment" "E1" "Lcom/example/ramparts/ramparts/tile/Segment;" (.ref w_E1)) (E_E1 : Exa Z h0 w_E1 "com/example/ramparts/ramparts/tile/Segment") (F_ordinal_E1 : Fld Z h0 w_E1 "java/lang/Enum" "ordinal" "I" (.int (3 : Int32))) (S_N3 : Sta Z h0 "com/example/ramparts/ramparts/tile/Segment" "N3" "Lcom/example/ramparts/ramparts/tile/Segment;" (.ref w_N3)) (E_N3 : Exa Z h0 w_N3 "com/example/ramparts/ramparts/tile/Segment") (F_ordinal_N3 : Fld Z h0 w_N3 "java/lang/Enum" "ordinal" "I" (.int (2 : Int32))) (S_W3 : Sta Z h0 "com/example/ramparts/ramparts/tile/Segment" "W3" "Lcom/example/ramparts/ramparts/tile/Segment;" (.ref w_W3)) (E_W3 : Exa Z h0 w_W3 "com/example/ramparts/ramparts/tile/Segment") (F_ordinal_W3 : Fld Z h0 w_W3 "java/lang/Enum" "ordinal" "I" (.int (11 : Int32))) (S_S3 : Sta Z h0 "com/example/ramparts/ramparts/tile/Segment" "S3" "Lcom/example/ramparts/ramparts/tile/Segment;" (.ref w_S3)) (E_S3 : Exa Z h0 w_S3 "com/example/ramparts/ramparts/tile/Segment") (F_ordinal_S3 : Fld Z h0 w_S3 "java/lang/Enum" "ordinal" "I" (.int (8 : Int32))) (S_W1 : Sta Z h0 "com/example/ramparts/ramparts/tile/Segment" "W1" "Lcom/example/ramparts/ramparts/tile/Segment;" (.ref w_W1)) (E_W1 : Exa Z h0 w_W1 "com/example/ramparts/ramparts/tile/Segment") (F_ordinal_W1 : Fld Z h0 w_W1 "java/lang/Enum" "ordinal" "I" (.int (9 : Int32))) (S_S1 : Sta Z h0 "com/example/ramparts/ramparts/tile/Segment" "S1" "Lcom/example/ramparts/ramparts/tile/Segment;" (.ref w_S1)) (E_S1 : Exa Z h0 w_S1 "com/example/ramparts/ramparts/tile/Segment") (F_ordinal_S1 : Fld Z h0 w_S1 "java/lang/Enum" "ordinal" "I" (.int (6 : Int32))) (S_E3 : Sta Z h0 "com/example/ramparts/ramparts/tile/Segment" "E3" "Lcom/example/ramparts/ramparts/tile/Segment;" (.ref w_E3)) (E_E3 : Exa Z h0 w_E3 "com/example/ramparts/ramparts/tile/Segment") (F_ordinal_E3 : Fld Z h0 w_E3 "java/lang/Enum" "ordinal" "I" (.int (5 : Int32))) :
    MetFree l x (head1 (Jvm.Cond.code x code maxLocals ret :: ws) room_1) (fun a U => a = #[(.int p0)] ∧ Z.Warmed39 U.vm ∧ U.heap = h0) (fun _ _ _ _ _ => True) (fun _ U o U' => ∃ v L, o = .returned v ∧ Q0 Z p0 w_N1 w_N2 w_E2 w_S2 w_W2 w_E1 w_N3 w_W3 w_S3 w_W1 w_S1 w_E3 h0 n0 v U'.heap L ∧ FrameEnd U o U' L 0 0) := by
  refine MetFree.of_bodySF (plainFor_of_name pn_SegmentIsMiddlePinLaw) hisR ?_
  intro p e s m args below meth c s₁ Bd hml0 hP hK
  obtain ⟨rfl, hZ, hh⟩ := hP
  have hx := Bd.exec
  have hby := Bd.bytes
  have hml : c.maxLocals = 4 := hml0
  have hown : s.vm.findClass "com/example/ramparts/ramparts/tile/SegmentIsMiddlePinLaw" = some m.cls := findClass_of_methodNamed Bd.named
  have hnm := (name_of_methodNamed Bd.named Bd.method).1
  have hlk : meth.locks = false := BodyLoose.notSynchronized Bd
  have X0 : Stand p l e room_1 s m #[(.int p0)] below meth c s₁ [] 0 0 := Stand.of_body Bd
  have e0 : s₁.heap = h0 := by rw [← hh, Bd.state]; rfl
  have N0 := Fr.nil n0
  refine ogo (U' := s₁.setTop (mkF m 0 #[.val (.int p0), .unset, .unset, .unset] [])) (Q := Q0 Z p0 w_N1 w_N2 w_E2 w_S2 w_W2 w_E1 w_N3 w_W3 w_S3 w_W1 w_S1 w_E3 h0 n0) (K := 0) (N := 0) (fun t k => castTop (ef_0 m p0) k) ?_
  show OwnEnds _ _ _ _ _ _ _ (s₁.setTop (mkF m 0 #[.val (.int p0), .unset, .unset, .unset] []))
  refine ogo (fun t k => XS.iloadN X0.here hx rfl (hb hby at_0) rfl k) ?_
  show OwnEnds _ _ _ _ _ _ _ (s₁.setTop (mkF m 1 #[.val (.int p0), .unset, .unset, .unset] [(.int p0)]))
  refine ogo (fun t k => X0.ldcInt hx hown (mvT hZ (hw _ (List.mem_of_getElem? (i := 0) rfl))) (g := (mkF m 1 #[.val (.int p0), .unset, .unset, .unset] [(.int p0)])) rfl (hb hby at_1) t k) ?_
  show OwnEnds _ _ _ _ _ _ _ (s₁.setTop (mkF m 3 #[.val (.int p0), .unset, .unset, .unset] [(.int (2147483647 : Int32)), (.int p0)]))
  refine ogo (fun t k => XS.iand X0.here hx rfl (hb hby at_3) rfl k) ?_
  show OwnEnds _ _ _ _ _ _ _ (s₁.setTop (mkF m 4 #[.val (.int p0), .unset, .unset, .unset] [(.int (p0 &&& (2147483647 : Int32)))]))
  refine ogo (fun t k => XS.bipush X0.here hx rfl (hb hby at_4) k) ?_
  show OwnEnds _ _ _ _ _ _ _ (s₁.setTop (mkF m 6 #[.val (.int p0), .unset, .unset, .unset] [(.int (12 : Int32)), (.int (p0 &&& (2147483647 : Int32)))]))
  refine ogo (fun t k => iremM (g := (mkF m 6 #[.val (.int p0), .unset, .unset, .unset] [(.int (12 : Int32)), (.int (p0 &&& (2147483647 : Int32)))])) X0 hx rfl (hb hby at_6) rfl (by decide) k) ?_
  generalize hk : ((p0 &&& (2147483647 : Int32)) % (12 : Int32)) = k
  rcases own_case12 (hk ▸ own_rng p0 12 (by decide)) with rfl | rfl | rfl | rfl | rfl | rfl | rfl | rfl | rfl | rfl | rfl | rfl
  · show OwnEnds _ _ _ _ _ _ _ (s₁.setTop (mkF m 7 #[.val (.int p0), .unset, .unset, .unset] [(.int (0 : Int32))]))
    refine ogo (fun t k => XS.istoreN X0.here hx rfl (hb hby at_7) rfl (l' := #[.val (.int p0), .val (.int (0 : Int32)), .unset, .unset]) rfl k) ?_
    show OwnEnds _ _ _ _ _ _ _ (s₁.setTop (mkF m 8 #[.val (.int p0), .val (.int (0 : Int32)), .unset, .unset] []))
    refine ogo (fun t k => XS.iloadN X0.here hx rfl (hb hby at_8) rfl k) ?_
    show OwnEnds _ _ _ _ _ _ _ (s₁.setTop (mkF m 9 #[.val (.int p0), .val (.int (0 : Int32)), .unset, .unset] [(.int (0 : Int32))]))
    obtain ⟨v1, _, ⟨T1, L1, k1, n1⟩, -, X1, ⟨Lc1, hQ1, l1, y1, z1⟩, st1⟩ := Jvm.LawKit.callS X0 hx (y := (⟨"com/example/ramparts/ramparts/tile/SegmentIsMiddlePinLaw", "pick", "(I)Lcom/example/ramparts/ramparts/tile/Segment;"⟩ : MethodName)) hown (mvT hZ (hw _ (List.mem_of_getElem? (i := 1) rfl))) (mvT hZ (hw _ (List.mem_of_getElem? (i := 2) rfl))) (mvT hZ (hw _ (List.mem_of_getElem? (i := 3) rfl))) (mvT hZ (hw _ (List.mem_of_getElem? (i := 4) rfl))) (by decide) (backOf (W := 0) (rm1 l Z a0 hw [] (0 : Int32) w_N1 w_N2 w_N3 w_E1 w_E2 w_E3 w_S1 w_S2 w_S3 w_W1 w_W2 w_W3 h0 n0 Z0 S_N1 S_N2 S_N3 S_E1 S_E2 S_E3 S_S1 S_S2 S_S3 S_W1 S_W2 S_W3) hZ (hw _ (List.mem_of_getElem? (i := 4) rfl)) (hw _ (List.mem_of_getElem? (i := 3) rfl)) (by decide) (by decide)) (g := (mkF m 9 #[.val (.int p0), .val (.int (0 : Int32)), .unset, .unset] [(.int (0 : Int32))])) rfl (by rw [hml]; rfl) (argsL := [(.int (0 : Int32))]) (rest := []) (lenOf pd__I_Lcom_example_ramparts_ramparts_tile_Segment_ rfl) rfl (by show 2 * 0 + _ ≤ _; exact Nat.le_of_eq rfl) (hb hby at_9) (fun _ _ => ⟨rfl, e0, (by decide : 0 + 0 ≤ _), (by decide : 0 + 0 ≤ _)⟩)
    dsimp only [Pt.U, Pt.locs, Pt.cells, Pt.slots] at X1 l1 y1 z1 st1 hQ1
    subst l1 y1 z1
    obtain ⟨hv1, N1q, e1⟩ := hQ1
    obtain rfl : v1 = some (.ref w_N1) := hv1.trans (by simp [own_pick])
    have N1 := Fr.app N0 N1q
    refine ogo (fun t k => st1 t k) ?_
    show OwnEnds _ _ _ _ _ _ _ (T1.setTop (mkF m 12 #[.val (.int p0), .val (.int (0 : Int32)), .unset, .unset] [(.ref w_N1)]))
    refine ogo (fun t k => XS.astoreN X1.here hx rfl (hb hby at_12) rfl rfl (l' := #[.val (.int p0), .val (.int (0 : Int32)), .val (.ref w_N1), .unset]) rfl k) ?_
    show OwnEnds _ _ _ _ _ _ _ (T1.setTop (mkF m 13 #[.val (.int p0), .val (.int (0 : Int32)), .val (.ref w_N1), .unset] []))
    refine ogo (fun t k => XS.aloadN X1.here hx rfl (hb hby at_13) rfl rfl k) ?_
    show OwnEnds _ _ _ _ _ _ _ (T1.setTop (mkF m 14 #[.val (.int p0), .val (.int (0 : Int32)), .val (.ref w_N1), .unset] [(.ref w_N1)]))
    obtain ⟨T2, X2, e2, st2⟩ := getS2 X1 hx hZ hown (host := "") (Or.inl (hw _ (List.mem_of_getElem? (i := 8) rfl))) Via.refl e1 S_N2 (g := (mkF m 14 #[.val (.int p0), .val (.int (0 : Int32)), .val (.ref w_N1), .unset] [(.ref w_N1)])) rfl (hb hby at_14)
    refine ogo st2 ?_
    show OwnEnds _ _ _ _ _ _ _ (T2.setTop (mkF m 17 #[.val (.int p0), .val (.int (0 : Int32)), .val (.ref w_N1), .unset] [(.ref w_N2), (.ref w_N1)]))
    refine ogo (fun t k => Jvm.RoadKit.acmp (g := (mkF m 17 #[.val (.int p0), .val (.int (0 : Int32)), .val (.ref w_N1), .unset] [(.ref w_N2), (.ref w_N1)])) X2 hx rfl rfl rfl (pc0 := 17) (pc' := 20) (same := false) rfl (hb hby at_17) rfl (decide_eq_false fun q => (Fld.ne F_ordinal_N1 F_ordinal_N2 (by simp)) (Value.ref.inj q)) (by decide) (by decide) k) ?_
    show OwnEnds _ _ _ _ _ _ _ (T2.setTop (mkF m 20 #[.val (.int p0), .val (.int (0 : Int32)), .val (.ref w_N1), .unset] []))
    refine ogo (fun t k => XS.aloadN X2.here hx rfl (hb hby at_20) rfl rfl k) ?_
    show OwnEnds _ _ _ _ _ _ _ (T2.setTop (mkF m 21 #[.val (.int p0), .val (.int (0 : Int32)), .val (.ref w_N1), .unset] [(.ref w_N1)]))
    obtain ⟨T3, X3, e3, st3⟩ := getS2 X2 hx hZ hown (host := "") (Or.inl (hw _ (List.mem_of_getElem? (i := 10) rfl))) Via.refl e2 S_E2 (g := (mkF m 21 #[.val (.int p0), .val (.int (0 : Int32)), .val (.ref w_N1), .unset] [(.ref w_N1)])) rfl (hb hby at_21)
    refine ogo st3 ?_
    show OwnEnds _ _ _ _ _ _ _ (T3.setTop (mkF m 24 #[.val (.int p0), .val (.int (0 : Int32)), .val (.ref w_N1), .unset] [(.ref w_E2), (.ref w_N1)]))
    refine ogo (fun t k => Jvm.RoadKit.acmp (g := (mkF m 24 #[.val (.int p0), .val (.int (0 : Int32)), .val (.ref w_N1), .unset] [(.ref w_E2), (.ref w_N1)])) X3 hx rfl rfl rfl (pc0 := 24) (pc' := 27) (same := false) rfl (hb hby at_24) rfl (decide_eq_false fun q => (Fld.ne F_ordinal_N1 F_ordinal_E2 (by simp)) (Value.ref.inj q)) (by decide) (by decide) k) ?_
    show OwnEnds _ _ _ _ _ _ _ (T3.setTop (mkF m 27 #[.val (.int p0), .val (.int (0 : Int32)), .val (.ref w_N1), .unset] []))
    refine ogo (fun t k => XS.aloadN X3.here hx rfl (hb hby at_27) rfl rfl k) ?_
    show OwnEnds _ _ _ _ _ _ _ (T3.setTop (mkF m 28 #[.val (.int p0), .val (.int (0 : Int32)), .val (.ref w_N1), .unset] [(.ref w_N1)]))
    obtain ⟨T4, X4, e4, st4⟩ := getS2 X3 hx hZ hown (host := "") (Or.inl (hw _ (List.mem_of_getElem? (i := 12) rfl))) Via.refl e3 S_S2 (g := (mkF m 28 #[.val (.int p0), .val (.int (0 : Int32)), .val (.ref w_N1), .unset] [(.ref w_N1)])) rfl (hb hby at_28)
    refine ogo st4 ?_
    show OwnEnds _ _ _ _ _ _ _ (T4.setTop (mkF m 31 #[.val (.int p0), .val (.int (0 : Int32)), .val (.ref w_N1), .unset] [(.ref w_S2), (.ref w_N1)]))
    refine ogo (fun t k => Jvm.RoadKit.acmp (g := (mkF m 31 #[.val (.int p0), .val (.int (0 : Int32)), .val (.ref w_N1), .unset] [(.ref w_S2), (.ref w_N1)])) X4 hx rfl rfl rfl (pc0 := 31) (pc' := 34) (same := false) rfl (hb hby at_31) rfl (decide_eq_false fun q => (Fld.ne F_ordinal_N1 F_ordinal_S2 (by simp)) (Value.ref.inj q)) (by decide) (by decide) k) ?_
    show OwnEnds _ _ _ _ _ _ _ (T4.setTop (mkF m 34 #[.val (.int p0), .val (.int (0 : Int32)), .val (.ref w_N1), .unset] []))
    refine ogo (fun t k => XS.aloadN X4.here hx rfl (hb hby at_34) rfl rfl k) ?_
    show OwnEnds _ _ _ _ _ _ _ (T4.setTop (mkF m 35 #[.val (.int p0), .val (.int (0 : Int32)), .val (.ref w_N1), .unset] [(.ref w_N1)]))
    obtain ⟨T5, X5, e5, st5⟩ := getS2 X4 hx hZ hown (host := "") (Or.inl (hw _ (List.mem_of_getElem? (i := 14) rfl))) Via.refl e4 S_W2 (g := (mkF m 35 #[.val (.int p0), .val (.int (0 : Int32)), .val (.ref w_N1), .unset] [(.ref w_N1)])) rfl (hb hby at_35)
    refine ogo st5 ?_
    show OwnEnds _ _ _ _ _ _ _ (T5.setTop (mkF m 38 #[.val (.int p0), .val (.int (0 : Int32)), .val (.ref w_N1), .unset] [(.ref w_W2), (.ref w_N1)]))
    refine ogo (fun t k => Jvm.RoadKit.acmp (g := (mkF m 38 #[.val (.int p0), .val (.int (0 : Int32)), .val (.ref w_N1), .unset] [(.ref w_W2), (.ref w_N1)])) X5 hx rfl rfl rfl (pc0 := 38) (pc' := 45) (same := false) rfl (hb hby at_38) rfl (decide_eq_false fun q => (Fld.ne F_ordinal_N1 F_ordinal_W2 (by simp)) (Value.ref.inj q)) (by decide) (by decide) k) ?_
    show OwnEnds _ _ _ _ _ _ _ (T5.setTop (mkF m 45 #[.val (.int p0), .val (.int (0 : Int32)), .val (.ref w_N1), .unset] []))
    refine ogo (fun t k => XS.iconst X5.here hx rfl (hb hby at_45) k) ?_
    show OwnEnds _ _ _ _ _ _ _ (T5.setTop (mkF m 46 #[.val (.int p0), .val (.int (0 : Int32)), .val (.ref w_N1), .unset] [(.int (0 : Int32))]))
    refine ogo (fun t k => XS.istoreN X5.here hx rfl (hb hby at_46) rfl (l' := #[.val (.int p0), .val (.int (0 : Int32)), .val (.ref w_N1), .val (.int (0 : Int32))]) rfl k) ?_
    show OwnEnds _ _ _ _ _ _ _ (T5.setTop (mkF m 47 #[.val (.int p0), .val (.int (0 : Int32)), .val (.ref w_N1), .val (.int (0 : Int32))] []))
    refine ogo (fun t k => XS.aloadN X5.here hx rfl (hb hby at_47) rfl rfl k) ?_
    show OwnEnds _ _ _ _ _ _ _ (T5.setTop (mkF m 48 #[.val (.int p0), .val (.int (0 : Int32)), .val (.ref w_N1), .val (.int (0 : Int32))] [(.ref w_N1)]))
    obtain ⟨cq6, kq6, q6a, q6b, q6c⟩ := isOf hZ e5 E_N1
    obtain ⟨v6, _, ⟨T6, L6, k6, n6⟩, -, X6, ⟨Lc6, hQ6, l6, y6, z6⟩, st6⟩ := X5.virtualBack hx (y := (⟨"com/example/ramparts/ramparts/tile/Segment", "isMiddle", "()Z"⟩ : MethodName)) (z := (⟨"com/example/ramparts/ramparts/tile/Segment", "isMiddle", "()Z"⟩ : MethodName)) hown (mvT hZ (hw _ (List.mem_of_getElem? (i := 16) rfl))) (mvT hZ (hw _ (List.mem_of_getElem? (i := 17) rfl))) (notFace_of_selects (args := #[]) (mvT hZ (hw _ (List.mem_of_getElem? (i := 19) rfl)))) (mvT hZ (hw _ (List.mem_of_getElem? (i := 19) rfl))) (mvT hZ (hw _ (List.mem_of_getElem? (i := 18) rfl))) (by decide) (backOf (W := 0) (rm3 l Z a0 hw [] w_N1 (0 : Int32) h0 n0 Z0 F_ordinal_N1 E_N1) hZ (hw _ (List.mem_of_getElem? (i := 20) rfl)) (hw _ (List.mem_of_getElem? (i := 6) rfl)) (by decide) (by decide)) q6a q6c (g := (mkF m 48 #[.val (.int p0), .val (.int (0 : Int32)), .val (.ref w_N1), .val (.int (0 : Int32))] [(.ref w_N1)])) rfl (by rw [hml]; rfl) (Steps.refl _) (argsL := []) (rest := []) (lenOf pd___Z rfl) rfl (by show 2 * 0 + _ ≤ _; exact Nat.le_of_eq rfl) (hb hby at_48) (fun _ _ => ⟨rfl, e5, (by decide : 0 + 0 ≤ _), (by decide : 0 + 0 ≤ _)⟩)
    dsimp only [Pt.U, Pt.locs, Pt.cells, Pt.slots] at X6 l6 y6 z6 st6 hQ6
    subst l6 y6 z6
    obtain ⟨hv6, N6q, e6⟩ := hQ6
    obtain rfl : v6 = some (.int (0 : Int32)) := hv6.trans (by decide)
    have N6 := Fr.app N1 N6q
    refine ogo (fun t k => st6.trans k) ?_
    show OwnEnds _ _ _ _ _ _ _ (T6.setTop (mkF m 51 #[.val (.int p0), .val (.int (0 : Int32)), .val (.ref w_N1), .val (.int (0 : Int32))] [(.int (0 : Int32))]))
    refine ogo (fun t k => XS.iloadN X6.here hx rfl (hb hby at_51) rfl k) ?_
    show OwnEnds _ _ _ _ _ _ _ (T6.setTop (mkF m 52 #[.val (.int p0), .val (.int (0 : Int32)), .val (.ref w_N1), .val (.int (0 : Int32))] [(.int (0 : Int32)), (.int (0 : Int32))]))
    refine ogo (fun t k => XS.icmpNo X6.here hx rfl (hb hby at_52) rfl (teq (by decide : (0 : Int32) = (0 : Int32))).2 k) ?_
    show OwnEnds _ _ _ _ _ _ _ (T6.setTop (mkF m 55 #[.val (.int p0), .val (.int (0 : Int32)), .val (.ref w_N1), .val (.int (0 : Int32))] []))
    refine ogo (fun t k => XS.iconst X6.here hx rfl (hb hby at_55) k) ?_
    show OwnEnds _ _ _ _ _ _ _ (T6.setTop (mkF m 56 #[.val (.int p0), .val (.int (0 : Int32)), .val (.ref w_N1), .val (.int (0 : Int32))] [(.int (1 : Int32))]))
    refine ogo (fun t k => XS.goto X6.here hx rfl (pc0 := 56) (pc' := 60) rfl (hb hby at_56) (by decide) (by decide) k) ?_
    show OwnEnds _ _ _ _ _ _ _ (T6.setTop (mkF m 60 #[.val (.int p0), .val (.int (0 : Int32)), .val (.ref w_N1), .val (.int (0 : Int32))] [(.int (1 : Int32))]))
    refine endZ X6 hx hlk Bd.returns rfl (hb hby at_60) (by decide) (by decide) ?_
    show Q0 Z p0 w_N1 w_N2 w_E2 w_S2 w_W2 w_E1 w_N3 w_W3 w_S3 w_W1 w_S1 w_E3 h0 n0 _ T6.heap _
    rw [e6]
    exact ⟨rfl, N6⟩
  · show OwnEnds _ _ _ _ _ _ _ (s₁.setTop (mkF m 7 #[.val (.int p0), .unset, .unset, .unset] [(.int (1 : Int32))]))
    refine ogo (fun t k => XS.istoreN X0.here hx rfl (hb hby at_7) rfl (l' := #[.val (.int p0), .val (.int (1 : Int32)), .unset, .unset]) rfl k) ?_
    show OwnEnds _ _ _ _ _ _ _ (s₁.setTop (mkF m 8 #[.val (.int p0), .val (.int (1 : Int32)), .unset, .unset] []))
    refine ogo (fun t k => XS.iloadN X0.here hx rfl (hb hby at_8) rfl k) ?_
    show OwnEnds _ _ _ _ _ _ _ (s₁.setTop (mkF m 9 #[.val (.int p0), .val (.int (1 : Int32)), .unset, .unset] [(.int (1 : Int32))]))
    obtain ⟨v7, _, ⟨T7, L7, k7, n7⟩, -, X7, ⟨Lc7, hQ7, l7, y7, z7⟩, st7⟩ := Jvm.LawKit.callS X0 hx (y := (⟨"com/example/ramparts/ramparts/tile/SegmentIsMiddlePinLaw", "pick", "(I)Lcom/example/ramparts/ramparts/tile/Segment;"⟩ : MethodName)) hown (mvT hZ (hw _ (List.mem_of_getElem? (i := 1) rfl))) (mvT hZ (hw _ (List.mem_of_getElem? (i := 2) rfl))) (mvT hZ (hw _ (List.mem_of_getElem? (i := 3) rfl))) (mvT hZ (hw _ (List.mem_of_getElem? (i := 4) rfl))) (by decide) (backOf (W := 0) (rm1 l Z a0 hw [] (1 : Int32) w_N1 w_N2 w_N3 w_E1 w_E2 w_E3 w_S1 w_S2 w_S3 w_W1 w_W2 w_W3 h0 n0 Z0 S_N1 S_N2 S_N3 S_E1 S_E2 S_E3 S_S1 S_S2 S_S3 S_W1 S_W2 S_W3) hZ (hw _ (List.mem_of_getElem? (i := 4) rfl)) (hw _ (List.mem_of_getElem? (i := 3) rfl)) (by decide) (by decide)) (g := (mkF m 9 #[.val (.int p0), .val (.int (1 : Int32)), .unset, .unset] [(.int (1 : Int32))])) rfl (by rw [hml]; rfl) (argsL := [(.int (1 : Int32))]) (rest := []) (lenOf pd__I_Lcom_example_ramparts_ramparts_tile_Segment_ rfl) rfl (by show 2 * 0 + _ ≤ _; exact Nat.le_of_eq rfl) (hb hby at_9) (fun _ _ => ⟨rfl, e0, (by decide : 0 + 0 ≤ _), (by decide : 0 + 0 ≤ _)⟩)
    dsimp only [Pt.U, Pt.locs, Pt.cells, Pt.slots] at X7 l7 y7 z7 st7 hQ7
    subst l7 y7 z7
    obtain ⟨hv7, N7q, e7⟩ := hQ7
    obtain rfl : v7 = some (.ref w_N2) := hv7.trans (by simp [own_pick])
    have N7 := Fr.app N0 N7q
    refine ogo (fun t k => st7 t k) ?_
    show OwnEnds _ _ _ _ _ _ _ (T7.setTop (mkF m 12 #[.val (.int p0), .val (.int (1 : Int32)), .unset, .unset] [(.ref w_N2)]))
    refine ogo (fun t k => XS.astoreN X7.here hx rfl (hb hby at_12) rfl rfl (l' := #[.val (.int p0), .val (.int (1 : Int32)), .val (.ref w_N2), .unset]) rfl k) ?_
    show OwnEnds _ _ _ _ _ _ _ (T7.setTop (mkF m 13 #[.val (.int p0), .val (.int (1 : Int32)), .val (.ref w_N2), .unset] []))
    refine ogo (fun t k => XS.aloadN X7.here hx rfl (hb hby at_13) rfl rfl k) ?_
    show OwnEnds _ _ _ _ _ _ _ (T7.setTop (mkF m 14 #[.val (.int p0), .val (.int (1 : Int32)), .val (.ref w_N2), .unset] [(.ref w_N2)]))
    obtain ⟨T8, X8, e8, st8⟩ := getS2 X7 hx hZ hown (host := "") (Or.inl (hw _ (List.mem_of_getElem? (i := 8) rfl))) Via.refl e7 S_N2 (g := (mkF m 14 #[.val (.int p0), .val (.int (1 : Int32)), .val (.ref w_N2), .unset] [(.ref w_N2)])) rfl (hb hby at_14)
    refine ogo st8 ?_
    show OwnEnds _ _ _ _ _ _ _ (T8.setTop (mkF m 17 #[.val (.int p0), .val (.int (1 : Int32)), .val (.ref w_N2), .unset] [(.ref w_N2), (.ref w_N2)]))
    refine ogo (fun t k => Jvm.RoadKit.acmp (g := (mkF m 17 #[.val (.int p0), .val (.int (1 : Int32)), .val (.ref w_N2), .unset] [(.ref w_N2), (.ref w_N2)])) X8 hx rfl rfl rfl (pc0 := 17) (pc' := 41) (same := true) rfl (hb hby at_17) rfl (decide_eq_true (congrArg Value.ref rfl)) (by decide) (by decide) k) ?_
    show OwnEnds _ _ _ _ _ _ _ (T8.setTop (mkF m 41 #[.val (.int p0), .val (.int (1 : Int32)), .val (.ref w_N2), .unset] []))
    refine ogo (fun t k => XS.iconst X8.here hx rfl (hb hby at_41) k) ?_
    show OwnEnds _ _ _ _ _ _ _ (T8.setTop (mkF m 42 #[.val (.int p0), .val (.int (1 : Int32)), .val (.ref w_N2), .unset] [(.int (1 : Int32))]))
    refine ogo (fun t k => XS.goto X8.here hx rfl (pc0 := 42) (pc' := 46) rfl (hb hby at_42) (by decide) (by decide) k) ?_
    show OwnEnds _ _ _ _ _ _ _ (T8.setTop (mkF m 46 #[.val (.int p0), .val (.int (1 : Int32)), .val (.ref w_N2), .unset] [(.int (1 : Int32))]))
    refine ogo (fun t k => XS.istoreN X8.here hx rfl (hb hby at_46) rfl (l' := #[.val (.int p0), .val (.int (1 : Int32)), .val (.ref w_N2), .val (.int (1 : Int32))]) rfl k) ?_
    show OwnEnds _ _ _ _ _ _ _ (T8.setTop (mkF m 47 #[.val (.int p0), .val (.int (1 : Int32)), .val (.ref w_N2), .val (.int (1 : Int32))] []))
    refine ogo (fun t k => XS.aloadN X8.here hx rfl (hb hby at_47) rfl rfl k) ?_
    show OwnEnds _ _ _ _ _ _ _ (T8.setTop (mkF m 48 #[.val (.int p0), .val (.int (1 : Int32)), .val (.ref w_N2), .val (.int (1 : Int32))] [(.ref w_N2)]))
    obtain ⟨cq9, kq9, q9a, q9b, q9c⟩ := isOf hZ e8 E_N2
    obtain ⟨v9, _, ⟨T9, L9, k9, n9⟩, -, X9, ⟨Lc9, hQ9, l9, y9, z9⟩, st9⟩ := X8.virtualBack hx (y := (⟨"com/example/ramparts/ramparts/tile/Segment", "isMiddle", "()Z"⟩ : MethodName)) (z := (⟨"com/example/ramparts/ramparts/tile/Segment", "isMiddle", "()Z"⟩ : MethodName)) hown (mvT hZ (hw _ (List.mem_of_getElem? (i := 16) rfl))) (mvT hZ (hw _ (List.mem_of_getElem? (i := 17) rfl))) (notFace_of_selects (args := #[]) (mvT hZ (hw _ (List.mem_of_getElem? (i := 19) rfl)))) (mvT hZ (hw _ (List.mem_of_getElem? (i := 19) rfl))) (mvT hZ (hw _ (List.mem_of_getElem? (i := 18) rfl))) (by decide) (backOf (W := 0) (rm3 l Z a0 hw [] w_N2 (1 : Int32) h0 n0 Z0 F_ordinal_N2 E_N2) hZ (hw _ (List.mem_of_getElem? (i := 20) rfl)) (hw _ (List.mem_of_getElem? (i := 6) rfl)) (by decide) (by decide)) q9a q9c (g := (mkF m 48 #[.val (.int p0), .val (.int (1 : Int32)), .val (.ref w_N2), .val (.int (1 : Int32))] [(.ref w_N2)])) rfl (by rw [hml]; rfl) (Steps.refl _) (argsL := []) (rest := []) (lenOf pd___Z rfl) rfl (by show 2 * 0 + _ ≤ _; exact Nat.le_of_eq rfl) (hb hby at_48) (fun _ _ => ⟨rfl, e8, (by decide : 0 + 0 ≤ _), (by decide : 0 + 0 ≤ _)⟩)
    dsimp only [Pt.U, Pt.locs, Pt.cells, Pt.slots] at X9 l9 y9 z9 st9 hQ9
    subst l9 y9 z9
    obtain ⟨hv9, N9q, e9⟩ := hQ9
    obtain rfl : v9 = some (.int (1 : Int32)) := hv9.trans (by decide)
    have N9 := Fr.app N7 N9q
    refine ogo (fun t k => st9.trans k) ?_
    show OwnEnds _ _ _ _ _ _ _ (T9.setTop (mkF m 51 #[.val (.int p0), .val (.int (1 : Int32)), .val (.ref w_N2), .val (.int (1 : Int32))] [(.int (1 : Int32))]))
    refine ogo (fun t k => XS.iloadN X9.here hx rfl (hb hby at_51) rfl k) ?_
    show OwnEnds _ _ _ _ _ _ _ (T9.setTop (mkF m 52 #[.val (.int p0), .val (.int (1 : Int32)), .val (.ref w_N2), .val (.int (1 : Int32))] [(.int (1 : Int32)), (.int (1 : Int32))]))
    refine ogo (fun t k => XS.icmpNo X9.here hx rfl (hb hby at_52) rfl (teq (by decide : (1 : Int32) = (1 : Int32))).2 k) ?_
    show OwnEnds _ _ _ _ _ _ _ (T9.setTop (mkF m 55 #[.val (.int p0), .val (.int (1 : Int32)), .val (.ref w_N2), .val (.int (1 : Int32))] []))
    refine ogo (fun t k => XS.iconst X9.here hx rfl (hb hby at_55) k) ?_
    show OwnEnds _ _ _ _ _ _ _ (T9.setTop (mkF m 56 #[.val (.int p0), .val (.int (1 : Int32)), .val (.ref w_N2), .val (.int (1 : Int32))] [(.int (1 : Int32))]))
    refine ogo (fun t k => XS.goto X9.here hx rfl (pc0 := 56) (pc' := 60) rfl (hb hby at_56) (by decide) (by decide) k) ?_
    show OwnEnds _ _ _ _ _ _ _ (T9.setTop (mkF m 60 #[.val (.int p0), .val (.int (1 : Int32)), .val (.ref w_N2), .val (.int (1 : Int32))] [(.int (1 : Int32))]))
    refine endZ X9 hx hlk Bd.returns rfl (hb hby at_60) (by decide) (by decide) ?_
    show Q0 Z p0 w_N1 w_N2 w_E2 w_S2 w_W2 w_E1 w_N3 w_W3 w_S3 w_W1 w_S1 w_E3 h0 n0 _ T9.heap _
    rw [e9]
    exact ⟨rfl, N9⟩
  · show OwnEnds _ _ _ _ _ _ _ (s₁.setTop (mkF m 7 #[.val (.int p0), .unset, .unset, .unset] [(.int (2 : Int32))]))
    refine ogo (fun t k => XS.istoreN X0.here hx rfl (hb hby at_7) rfl (l' := #[.val (.int p0), .val (.int (2 : Int32)), .unset, .unset]) rfl k) ?_
    show OwnEnds _ _ _ _ _ _ _ (s₁.setTop (mkF m 8 #[.val (.int p0), .val (.int (2 : Int32)), .unset, .unset] []))
    refine ogo (fun t k => XS.iloadN X0.here hx rfl (hb hby at_8) rfl k) ?_
    show OwnEnds _ _ _ _ _ _ _ (s₁.setTop (mkF m 9 #[.val (.int p0), .val (.int (2 : Int32)), .unset, .unset] [(.int (2 : Int32))]))
    obtain ⟨v10, _, ⟨T10, L10, k10, n10⟩, -, X10, ⟨Lc10, hQ10, l10, y10, z10⟩, st10⟩ := Jvm.LawKit.callS X0 hx (y := (⟨"com/example/ramparts/ramparts/tile/SegmentIsMiddlePinLaw", "pick", "(I)Lcom/example/ramparts/ramparts/tile/Segment;"⟩ : MethodName)) hown (mvT hZ (hw _ (List.mem_of_getElem? (i := 1) rfl))) (mvT hZ (hw _ (List.mem_of_getElem? (i := 2) rfl))) (mvT hZ (hw _ (List.mem_of_getElem? (i := 3) rfl))) (mvT hZ (hw _ (List.mem_of_getElem? (i := 4) rfl))) (by decide) (backOf (W := 0) (rm1 l Z a0 hw [] (2 : Int32) w_N1 w_N2 w_N3 w_E1 w_E2 w_E3 w_S1 w_S2 w_S3 w_W1 w_W2 w_W3 h0 n0 Z0 S_N1 S_N2 S_N3 S_E1 S_E2 S_E3 S_S1 S_S2 S_S3 S_W1 S_W2 S_W3) hZ (hw _ (List.mem_of_getElem? (i := 4) rfl)) (hw _ (List.mem_of_getElem? (i := 3) rfl)) (by decide) (by decide)) (g := (mkF m 9 #[.val (.int p0), .val (.int (2 : Int32)), .unset, .unset] [(.int (2 : Int32))])) rfl (by rw [hml]; rfl) (argsL := [(.int (2 : Int32))]) (rest := []) (lenOf pd__I_Lcom_example_ramparts_ramparts_tile_Segment_ rfl) rfl (by show 2 * 0 + _ ≤ _; exact Nat.le_of_eq rfl) (hb hby at_9) (fun _ _ => ⟨rfl, e0, (by decide : 0 + 0 ≤ _), (by decide : 0 + 0 ≤ _)⟩)
    dsimp only [Pt.U, Pt.locs, Pt.cells, Pt.slots] at X10 l10 y10 z10 st10 hQ10
    subst l10 y10 z10
    obtain ⟨hv10, N10q, e10⟩ := hQ10
    obtain rfl : v10 = some (.ref w_N3) := hv10.trans (by simp [own_pick])
    have N10 := Fr.app N0 N10q
    refine ogo (fun t k => st10 t k) ?_
    show OwnEnds _ _ _ _ _ _ _ (T10.setTop (mkF m 12 #[.val (.int p0), .val (.int (2 : Int32)), .unset, .unset] [(.ref w_N3)]))
    refine ogo (fun t k => XS.astoreN X10.here hx rfl (hb hby at_12) rfl rfl (l' := #[.val (.int p0), .val (.int (2 : Int32)), .val (.ref w_N3), .unset]) rfl k) ?_
    show OwnEnds _ _ _ _ _ _ _ (T10.setTop (mkF m 13 #[.val (.int p0), .val (.int (2 : Int32)), .val (.ref w_N3), .unset] []))
    refine ogo (fun t k => XS.aloadN X10.here hx rfl (hb hby at_13) rfl rfl k) ?_
    show OwnEnds _ _ _ _ _ _ _ (T10.setTop (mkF m 14 #[.val (.int p0), .val (.int (2 : Int32)), .val (.ref w_N3), .unset] [(.ref w_N3)]))
    obtain ⟨T11, X11, e11, st11⟩ := getS2 X10 hx hZ hown (host := "") (Or.inl (hw _ (List.mem_of_getElem? (i := 8) rfl))) Via.refl e10 S_N2 (g := (mkF m 14 #[.val (.int p0), .val (.int (2 : Int32)), .val (.ref w_N3), .unset] [(.ref w_N3)])) rfl (hb hby at_14)
    refine ogo st11 ?_
    show OwnEnds _ _ _ _ _ _ _ (T11.setTop (mkF m 17 #[.val (.int p0), .val (.int (2 : Int32)), .val (.ref w_N3), .unset] [(.ref w_N2), (.ref w_N3)]))
    refine ogo (fun t k => Jvm.RoadKit.acmp (g := (mkF m 17 #[.val (.int p0), .val (.int (2 : Int32)), .val (.ref w_N3), .unset] [(.ref w_N2), (.ref w_N3)])) X11 hx rfl rfl rfl (pc0 := 17) (pc' := 20) (same := false) rfl (hb hby at_17) rfl (decide_eq_false fun q => (Fld.ne F_ordinal_N3 F_ordinal_N2 (by simp)) (Value.ref.inj q)) (by decide) (by decide) k) ?_
    show OwnEnds _ _ _ _ _ _ _ (T11.setTop (mkF m 20 #[.val (.int p0), .val (.int (2 : Int32)), .val (.ref w_N3), .unset] []))
    refine ogo (fun t k => XS.aloadN X11.here hx rfl (hb hby at_20) rfl rfl k) ?_
    show OwnEnds _ _ _ _ _ _ _ (T11.setTop (mkF m 21 #[.val (.int p0), .val (.int (2 : Int32)), .val (.ref w_N3), .unset] [(.ref w_N3)]))
    obtain ⟨T12, X12, e12, st12⟩ := getS2 X11 hx hZ hown (host := "") (Or.inl (hw _ (List.mem_of_getElem? (i := 10) rfl))) Via.refl e11 S_E2 (g := (mkF m 21 #[.val (.int p0), .val (.int (2 : Int32)), .val (.ref w_N3), .unset] [(.ref w_N3)])) rfl (hb hby at_21)
    refine ogo st12 ?_
    show OwnEnds _ _ _ _ _ _ _ (T12.setTop (mkF m 24 #[.val (.int p0), .val (.int (2 : Int32)), .val (.ref w_N3), .unset] [(.ref w_E2), (.ref w_N3)]))
    refine ogo (fun t k => Jvm.RoadKit.acmp (g := (mkF m 24 #[.val (.int p0), .val (.int (2 : Int32)), .val (.ref w_N3), .unset] [(.ref w_E2), (.ref w_N3)])) X12 hx rfl rfl rfl (pc0 := 24) (pc' := 27) (same := false) rfl (hb hby at_24) rfl (decide_eq_false fun q => (Fld.ne F_ordinal_N3 F_ordinal_E2 (by simp)) (Value.ref.inj q)) (by decide) (by decide) k) ?_
    show OwnEnds _ _ _ _ _ _ _ (T12.setTop (mkF m 27 #[.val (.int p0), .val (.int (2 : Int32)), .val (.ref w_N3), .unset] []))
    refine ogo (fun t k => XS.aloadN X12.here hx rfl (hb hby at_27) rfl rfl k) ?_
    show OwnEnds _ _ _ _ _ _ _ (T12.setTop (mkF m 28 #[.val (.int p0), .val (.int (2 : Int32)), .val (.ref w_N3), .unset] [(.ref w_N3)]))
    obtain ⟨T13, X13, e13, st13⟩ := getS2 X12 hx hZ hown (host := "") (Or.inl (hw _ (List.mem_of_getElem? (i := 12) rfl))) Via.refl e12 S_S2 (g := (mkF m 28 #[.val (.int p0), .val (.int (2 : Int32)), .val (.ref w_N3), .unset] [(.ref w_N3)])) rfl (hb hby at_28)
    refine ogo st13 ?_
    show OwnEnds _ _ _ _ _ _ _ (T13.setTop (mkF m 31 #[.val (.int p0), .val (.int (2 : Int32)), .val (.ref w_N3), .unset] [(.ref w_S2), (.ref w_N3)]))
    refine ogo (fun t k => Jvm.RoadKit.acmp (g := (mkF m 31 #[.val (.int p0), .val (.int (2 : Int32)), .val (.ref w_N3), .unset] [(.ref w_S2), (.ref w_N3)])) X13 hx rfl rfl rfl (pc0 := 31) (pc' := 34) (same := false) rfl (hb hby at_31) rfl (decide_eq_false fun q => (Fld.ne F_ordinal_N3 F_ordinal_S2 (by simp)) (Value.ref.inj q)) (by decide) (by decide) k) ?_
    show OwnEnds _ _ _ _ _ _ _ (T13.setTop (mkF m 34 #[.val (.int p0), .val (.int (2 : Int32)), .val (.ref w_N3), .unset] []))
    refine ogo (fun t k => XS.aloadN X13.here hx rfl (hb hby at_34) rfl rfl k) ?_
    show OwnEnds _ _ _ _ _ _ _ (T13.setTop (mkF m 35 #[.val (.int p0), .val (.int (2 : Int32)), .val (.ref w_N3), .unset] [(.ref w_N3)]))
    obtain ⟨T14, X14, e14, st14⟩ := getS2 X13 hx hZ hown (host := "") (Or.inl (hw _ (List.mem_of_getElem? (i := 14) rfl))) Via.refl e13 S_W2 (g := (mkF m 35 #[.val (.int p0), .val (.int (2 : Int32)), .val (.ref w_N3), .unset] [(.ref w_N3)])) rfl (hb hby at_35)
    refine ogo st14 ?_
    show OwnEnds _ _ _ _ _ _ _ (T14.setTop (mkF m 38 #[.val (.int p0), .val (.int (2 : Int32)), .val (.ref w_N3), .unset] [(.ref w_W2), (.ref w_N3)]))
    refine ogo (fun t k => Jvm.RoadKit.acmp (g := (mkF m 38 #[.val (.int p0), .val (.int (2 : Int32)), .val (.ref w_N3), .unset] [(.ref w_W2), (.ref w_N3)])) X14 hx rfl rfl rfl (pc0 := 38) (pc' := 45) (same := false) rfl (hb hby at_38) rfl (decide_eq_false fun q => (Fld.ne F_ordinal_N3 F_ordinal_W2 (by simp)) (Value.ref.inj q)) (by decide) (by decide) k) ?_
    show OwnEnds _ _ _ _ _ _ _ (T14.setTop (mkF m 45 #[.val (.int p0), .val (.int (2 : Int32)), .val (.ref w_N3), .unset] []))
    refine ogo (fun t k => XS.iconst X14.here hx rfl (hb hby at_45) k) ?_
    show OwnEnds _ _ _ _ _ _ _ (T14.setTop (mkF m 46 #[.val (.int p0), .val (.int (2 : Int32)), .val (.ref w_N3), .unset] [(.int (0 : Int32))]))
    refine ogo (fun t k => XS.istoreN X14.here hx rfl (hb hby at_46) rfl (l' := #[.val (.int p0), .val (.int (2 : Int32)), .val (.ref w_N3), .val (.int (0 : Int32))]) rfl k) ?_
    show OwnEnds _ _ _ _ _ _ _ (T14.setTop (mkF m 47 #[.val (.int p0), .val (.int (2 : Int32)), .val (.ref w_N3), .val (.int (0 : Int32))] []))
    refine ogo (fun t k => XS.aloadN X14.here hx rfl (hb hby at_47) rfl rfl k) ?_
    show OwnEnds _ _ _ _ _ _ _ (T14.setTop (mkF m 48 #[.val (.int p0), .val (.int (2 : Int32)), .val (.ref w_N3), .val (.int (0 : Int32))] [(.ref w_N3)]))
    obtain ⟨cq15, kq15, q15a, q15b, q15c⟩ := isOf hZ e14 E_N3
    obtain ⟨v15, _, ⟨T15, L15, k15, n15⟩, -, X15, ⟨Lc15, hQ15, l15, y15, z15⟩, st15⟩ := X14.virtualBack hx (y := (⟨"com/example/ramparts/ramparts/tile/Segment", "isMiddle", "()Z"⟩ : MethodName)) (z := (⟨"com/example/ramparts/ramparts/tile/Segment", "isMiddle", "()Z"⟩ : MethodName)) hown (mvT hZ (hw _ (List.mem_of_getElem? (i := 16) rfl))) (mvT hZ (hw _ (List.mem_of_getElem? (i := 17) rfl))) (notFace_of_selects (args := #[]) (mvT hZ (hw _ (List.mem_of_getElem? (i := 19) rfl)))) (mvT hZ (hw _ (List.mem_of_getElem? (i := 19) rfl))) (mvT hZ (hw _ (List.mem_of_getElem? (i := 18) rfl))) (by decide) (backOf (W := 0) (rm3 l Z a0 hw [] w_N3 (2 : Int32) h0 n0 Z0 F_ordinal_N3 E_N3) hZ (hw _ (List.mem_of_getElem? (i := 20) rfl)) (hw _ (List.mem_of_getElem? (i := 6) rfl)) (by decide) (by decide)) q15a q15c (g := (mkF m 48 #[.val (.int p0), .val (.int (2 : Int32)), .val (.ref w_N3), .val (.int (0 : Int32))] [(.ref w_N3)])) rfl (by rw [hml]; rfl) (Steps.refl _) (argsL := []) (rest := []) (lenOf pd___Z rfl) rfl (by show 2 * 0 + _ ≤ _; exact Nat.le_of_eq rfl) (hb hby at_48) (fun _ _ => ⟨rfl, e14, (by decide : 0 + 0 ≤ _), (by decide : 0 + 0 ≤ _)⟩)
    dsimp only [Pt.U, Pt.locs, Pt.cells, Pt.slots] at X15 l15 y15 z15 st15 hQ15
    subst l15 y15 z15
    obtain ⟨hv15, N15q, e15⟩ := hQ15
    obtain rfl : v15 = some (.int (0 : Int32)) := hv15.trans (by decide)
    have N15 := Fr.app N10 N15q
    refine ogo (fun t k => st15.trans k) ?_
    show OwnEnds _ _ _ _ _ _ _ (T15.setTop (mkF m 51 #[.val (.int p0), .val (.int (2 : Int32)), .val (.ref w_N3), .val (.int (0 : Int32))] [(.int (0 : Int32))]))
    refine ogo (fun t k => XS.iloadN X15.here hx rfl (hb hby at_51) rfl k) ?_
    show OwnEnds _ _ _ _ _ _ _ (T15.setTop (mkF m 52 #[.val (.int p0), .val (.int (2 : Int32)), .val (.ref w_N3), .val (.int (0 : Int32))] [(.int (0 : Int32)), (.int (0 : Int32))]))
    refine ogo (fun t k => XS.icmpNo X15.here hx rfl (hb hby at_52) rfl (teq (by decide : (0 : Int32) = (0 : Int32))).2 k) ?_
    show OwnEnds _ _ _ _ _ _ _ (T15.setTop (mkF m 55 #[.val (.int p0), .val (.int (2 : Int32)), .val (.ref w_N3), .val (.int (0 : Int32))] []))
    refine ogo (fun t k => XS.iconst X15.here hx rfl (hb hby at_55) k) ?_
    show OwnEnds _ _ _ _ _ _ _ (T15.setTop (mkF m 56 #[.val (.int p0), .val (.int (2 : Int32)), .val (.ref w_N3), .val (.int (0 : Int32))] [(.int (1 : Int32))]))
    refine ogo (fun t k => XS.goto X15.here hx rfl (pc0 := 56) (pc' := 60) rfl (hb hby at_56) (by decide) (by decide) k) ?_
    show OwnEnds _ _ _ _ _ _ _ (T15.setTop (mkF m 60 #[.val (.int p0), .val (.int (2 : Int32)), .val (.ref w_N3), .val (.int (0 : Int32))] [(.int (1 : Int32))]))
    refine endZ X15 hx hlk Bd.returns rfl (hb hby at_60) (by decide) (by decide) ?_
    show Q0 Z p0 w_N1 w_N2 w_E2 w_S2 w_W2 w_E1 w_N3 w_W3 w_S3 w_W1 w_S1 w_E3 h0 n0 _ T15.heap _
    rw [e15]
    exact ⟨rfl, N15⟩
  · show OwnEnds _ _ _ _ _ _ _ (s₁.setTop (mkF m 7 #[.val (.int p0), .unset, .unset, .unset] [(.int (3 : Int32))]))
    refine ogo (fun t k => XS.istoreN X0.here hx rfl (hb hby at_7) rfl (l' := #[.val (.int p0), .val (.int (3 : Int32)), .unset, .unset]) rfl k) ?_
    show OwnEnds _ _ _ _ _ _ _ (s₁.setTop (mkF m 8 #[.val (.int p0), .val (.int (3 : Int32)), .unset, .unset] []))
    refine ogo (fun t k => XS.iloadN X0.here hx rfl (hb hby at_8) rfl k) ?_
    show OwnEnds _ _ _ _ _ _ _ (s₁.setTop (mkF m 9 #[.val (.int p0), .val (.int (3 : Int32)), .unset, .unset] [(.int (3 : Int32))]))
    obtain ⟨v16, _, ⟨T16, L16, k16, n16⟩, -, X16, ⟨Lc16, hQ16, l16, y16, z16⟩, st16⟩ := Jvm.LawKit.callS X0 hx (y := (⟨"com/example/ramparts/ramparts/tile/SegmentIsMiddlePinLaw", "pick", "(I)Lcom/example/ramparts/ramparts/tile/Segment;"⟩ : MethodName)) hown (mvT hZ (hw _ (List.mem_of_getElem? (i := 1) rfl))) (mvT hZ (hw _ (List.mem_of_getElem? (i := 2) rfl))) (mvT hZ (hw _ (List.mem_of_getElem? (i := 3) rfl))) (mvT hZ (hw _ (List.mem_of_getElem? (i := 4) rfl))) (by decide) (backOf (W := 0) (rm1 l Z a0 hw [] (3 : Int32) w_N1 w_N2 w_N3 w_E1 w_E2 w_E3 w_S1 w_S2 w_S3 w_W1 w_W2 w_W3 h0 n0 Z0 S_N1 S_N2 S_N3 S_E1 S_E2 S_E3 S_S1 S_S2 S_S3 S_W1 S_W2 S_W3) hZ (hw _ (List.mem_of_getElem? (i := 4) rfl)) (hw _ (List.mem_of_getElem? (i := 3) rfl)) (by decide) (by decide)) (g := (mkF m 9 #[.val (.int p0), .val (.int (3 : Int32)), .unset, .unset] [(.int (3 : Int32))])) rfl (by rw [hml]; rfl) (argsL := [(.int (3 : Int32))]) (rest := []) (lenOf pd__I_Lcom_example_ramparts_ramparts_tile_Segment_ rfl) rfl (by show 2 * 0 + _ ≤ _; exact Nat.le_of_eq rfl) (hb hby at_9) (fun _ _ => ⟨rfl, e0, (by decide : 0 + 0 ≤ _), (by decide : 0 + 0 ≤ _)⟩)
    dsimp only [Pt.U, Pt.locs, Pt.cells, Pt.slots] at X16 l16 y16 z16 st16 hQ16
    subst l16 y16 z16
    obtain ⟨hv16, N16q, e16⟩ := hQ16
    obtain rfl : v16 = some (.ref w_E1) := hv16.trans (by simp [own_pick])
    have N16 := Fr.app N0 N16q
    refine ogo (fun t k => st16 t k) ?_
    show OwnEnds _ _ _ _ _ _ _ (T16.setTop (mkF m 12 #[.val (.int p0), .val (.int (3 : Int32)), .unset, .unset] [(.ref w_E1)]))
    refine ogo (fun t k => XS.astoreN X16.here hx rfl (hb hby at_12) rfl rfl (l' := #[.val (.int p0), .val (.int (3 : Int32)), .val (.ref w_E1), .unset]) rfl k) ?_
    show OwnEnds _ _ _ _ _ _ _ (T16.setTop (mkF m 13 #[.val (.int p0), .val (.int (3 : Int32)), .val (.ref w_E1), .unset] []))
    refine ogo (fun t k => XS.aloadN X16.here hx rfl (hb hby at_13) rfl rfl k) ?_
    show OwnEnds _ _ _ _ _ _ _ (T16.setTop (mkF m 14 #[.val (.int p0), .val (.int (3 : Int32)), .val (.ref w_E1), .unset] [(.ref w_E1)]))
    obtain ⟨T17, X17, e17, st17⟩ := getS2 X16 hx hZ hown (host := "") (Or.inl (hw _ (List.mem_of_getElem? (i := 8) rfl))) Via.refl e16 S_N2 (g := (mkF m 14 #[.val (.int p0), .val (.int (3 : Int32)), .val (.ref w_E1), .unset] [(.ref w_E1)])) rfl (hb hby at_14)
    refine ogo st17 ?_
    show OwnEnds _ _ _ _ _ _ _ (T17.setTop (mkF m 17 #[.val (.int p0), .val (.int (3 : Int32)), .val (.ref w_E1), .unset] [(.ref w_N2), (.ref w_E1)]))
    refine ogo (fun t k => Jvm.RoadKit.acmp (g := (mkF m 17 #[.val (.int p0), .val (.int (3 : Int32)), .val (.ref w_E1), .unset] [(.ref w_N2), (.ref w_E1)])) X17 hx rfl rfl rfl (pc0 := 17) (pc' := 20) (same := false) rfl (hb hby at_17) rfl (decide_eq_false fun q => (Fld.ne F_ordinal_E1 F_ordinal_N2 (by simp)) (Value.ref.inj q)) (by decide) (by decide) k) ?_
    show OwnEnds _ _ _ _ _ _ _ (T17.setTop (mkF m 20 #[.val (.int p0), .val (.int (3 : Int32)), .val (.ref w_E1), .unset] []))
    refine ogo (fun t k => XS.aloadN X17.here hx rfl (hb hby at_20) rfl rfl k) ?_
    show OwnEnds _ _ _ _ _ _ _ (T17.setTop (mkF m 21 #[.val (.int p0), .val (.int (3 : Int32)), .val (.ref w_E1), .unset] [(.ref w_E1)]))
    obtain ⟨T18, X18, e18, st18⟩ := getS2 X17 hx hZ hown (host := "") (Or.inl (hw _ (List.mem_of_getElem? (i := 10) rfl))) Via.refl e17 S_E2 (g := (mkF m 21 #[.val (.int p0), .val (.int (3 : Int32)), .val (.ref w_E1), .unset] [(.ref w_E1)])) rfl (hb hby at_21)
    refine ogo st18 ?_
    show OwnEnds _ _ _ _ _ _ _ (T18.setTop (mkF m 24 #[.val (.int p0), .val (.int (3 : Int32)), .val (.ref w_E1), .unset] [(.ref w_E2), (.ref w_E1)]))
    refine ogo (fun t k => Jvm.RoadKit.acmp (g := (mkF m 24 #[.val (.int p0), .val (.int (3 : Int32)), .val (.ref w_E1), .unset] [(.ref w_E2), (.ref w_E1)])) X18 hx rfl rfl rfl (pc0 := 24) (pc' := 27) (same := false) rfl (hb hby at_24) rfl (decide_eq_false fun q => (Fld.ne F_ordinal_E1 F_ordinal_E2 (by simp)) (Value.ref.inj q)) (by decide) (by decide) k) ?_
    show OwnEnds _ _ _ _ _ _ _ (T18.setTop (mkF m 27 #[.val (.int p0), .val (.int (3 : Int32)), .val (.ref w_E1), .unset] []))
    refine ogo (fun t k => XS.aloadN X18.here hx rfl (hb hby at_27) rfl rfl k) ?_
    show OwnEnds _ _ _ _ _ _ _ (T18.setTop (mkF m 28 #[.val (.int p0), .val (.int (3 : Int32)), .val (.ref w_E1), .unset] [(.ref w_E1)]))
    obtain ⟨T19, X19, e19, st19⟩ := getS2 X18 hx hZ hown (host := "") (Or.inl (hw _ (List.mem_of_getElem? (i := 12) rfl))) Via.refl e18 S_S2 (g := (mkF m 28 #[.val (.int p0), .val (.int (3 : Int32)), .val (.ref w_E1), .unset] [(.ref w_E1)])) rfl (hb hby at_28)
    refine ogo st19 ?_
    show OwnEnds _ _ _ _ _ _ _ (T19.setTop (mkF m 31 #[.val (.int p0), .val (.int (3 : Int32)), .val (.ref w_E1), .unset] [(.ref w_S2), (.ref w_E1)]))
    refine ogo (fun t k => Jvm.RoadKit.acmp (g := (mkF m 31 #[.val (.int p0), .val (.int (3 : Int32)), .val (.ref w_E1), .unset] [(.ref w_S2), (.ref w_E1)])) X19 hx rfl rfl rfl (pc0 := 31) (pc' := 34) (same := false) rfl (hb hby at_31) rfl (decide_eq_false fun q => (Fld.ne F_ordinal_E1 F_ordinal_S2 (by simp)) (Value.ref.inj q)) (by decide) (by decide) k) ?_
    show OwnEnds _ _ _ _ _ _ _ (T19.setTop (mkF m 34 #[.val (.int p0), .val (.int (3 : Int32)), .val (.ref w_E1), .unset] []))
    refine ogo (fun t k => XS.aloadN X19.here hx rfl (hb hby at_34) rfl rfl k) ?_
    show OwnEnds _ _ _ _ _ _ _ (T19.setTop (mkF m 35 #[.val (.int p0), .val (.int (3 : Int32)), .val (.ref w_E1), .unset] [(.ref w_E1)]))
    obtain ⟨T20, X20, e20, st20⟩ := getS2 X19 hx hZ hown (host := "") (Or.inl (hw _ (List.mem_of_getElem? (i := 14) rfl))) Via.refl e19 S_W2 (g := (mkF m 35 #[.val (.int p0), .val (.int (3 : Int32)), .val (.ref w_E1), .unset] [(.ref w_E1)])) rfl (hb hby at_35)
    refine ogo st20 ?_
    show OwnEnds _ _ _ _ _ _ _ (T20.setTop (mkF m 38 #[.val (.int p0), .val (.int (3 : Int32)), .val (.ref w_E1), .unset] [(.ref w_W2), (.ref w_E1)]))
    refine ogo (fun t k => Jvm.RoadKit.acmp (g := (mkF m 38 #[.val (.int p0), .val (.int (3 : Int32)), .val (.ref w_E1), .unset] [(.ref w_W2), (.ref w_E1)])) X20 hx rfl rfl rfl (pc0 := 38) (pc' := 45) (same := false) rfl (hb hby at_38) rfl (decide_eq_false fun q => (Fld.ne F_ordinal_E1 F_ordinal_W2 (by simp)) (Value.ref.inj q)) (by decide) (by decide) k) ?_
    show OwnEnds _ _ _ _ _ _ _ (T20.setTop (mkF m 45 #[.val (.int p0), .val (.int (3 : Int32)), .val (.ref w_E1), .unset] []))
    refine ogo (fun t k => XS.iconst X20.here hx rfl (hb hby at_45) k) ?_
    show OwnEnds _ _ _ _ _ _ _ (T20.setTop (mkF m 46 #[.val (.int p0), .val (.int (3 : Int32)), .val (.ref w_E1), .unset] [(.int (0 : Int32))]))
    refine ogo (fun t k => XS.istoreN X20.here hx rfl (hb hby at_46) rfl (l' := #[.val (.int p0), .val (.int (3 : Int32)), .val (.ref w_E1), .val (.int (0 : Int32))]) rfl k) ?_
    show OwnEnds _ _ _ _ _ _ _ (T20.setTop (mkF m 47 #[.val (.int p0), .val (.int (3 : Int32)), .val (.ref w_E1), .val (.int (0 : Int32))] []))
    refine ogo (fun t k => XS.aloadN X20.here hx rfl (hb hby at_47) rfl rfl k) ?_
    show OwnEnds _ _ _ _ _ _ _ (T20.setTop (mkF m 48 #[.val (.int p0), .val (.int (3 : Int32)), .val (.ref w_E1), .val (.int (0 : Int32))] [(.ref w_E1)]))
    obtain ⟨cq21, kq21, q21a, q21b, q21c⟩ := isOf hZ e20 E_E1
    obtain ⟨v21, _, ⟨T21, L21, k21, n21⟩, -, X21, ⟨Lc21, hQ21, l21, y21, z21⟩, st21⟩ := X20.virtualBack hx (y := (⟨"com/example/ramparts/ramparts/tile/Segment", "isMiddle", "()Z"⟩ : MethodName)) (z := (⟨"com/example/ramparts/ramparts/tile/Segment", "isMiddle", "()Z"⟩ : MethodName)) hown (mvT hZ (hw _ (List.mem_of_getElem? (i := 16) rfl))) (mvT hZ (hw _ (List.mem_of_getElem? (i := 17) rfl))) (notFace_of_selects (args := #[]) (mvT hZ (hw _ (List.mem_of_getElem? (i := 19) rfl)))) (mvT hZ (hw _ (List.mem_of_getElem? (i := 19) rfl))) (mvT hZ (hw _ (List.mem_of_getElem? (i := 18) rfl))) (by decide) (backOf (W := 0) (rm3 l Z a0 hw [] w_E1 (3 : Int32) h0 n0 Z0 F_ordinal_E1 E_E1) hZ (hw _ (List.mem_of_getElem? (i := 20) rfl)) (hw _ (List.mem_of_getElem? (i := 6) rfl)) (by decide) (by decide)) q21a q21c (g := (mkF m 48 #[.val (.int p0), .val (.int (3 : Int32)), .val (.ref w_E1), .val (.int (0 : Int32))] [(.ref w_E1)])) rfl (by rw [hml]; rfl) (Steps.refl _) (argsL := []) (rest := []) (lenOf pd___Z rfl) rfl (by show 2 * 0 + _ ≤ _; exact Nat.le_of_eq rfl) (hb hby at_48) (fun _ _ => ⟨rfl, e20, (by decide : 0 + 0 ≤ _), (by decide : 0 + 0 ≤ _)⟩)
    dsimp only [Pt.U, Pt.locs, Pt.cells, Pt.slots] at X21 l21 y21 z21 st21 hQ21
    subst l21 y21 z21
    obtain ⟨hv21, N21q, e21⟩ := hQ21
    obtain rfl : v21 = some (.int (0 : Int32)) := hv21.trans (by decide)
    have N21 := Fr.app N16 N21q
    refine ogo (fun t k => st21.trans k) ?_
    show OwnEnds _ _ _ _ _ _ _ (T21.setTop (mkF m 51 #[.val (.int p0), .val (.int (3 : Int32)), .val (.ref w_E1), .val (.int (0 : Int32))] [(.int (0 : Int32))]))
    refine ogo (fun t k => XS.iloadN X21.here hx rfl (hb hby at_51) rfl k) ?_
    show OwnEnds _ _ _ _ _ _ _ (T21.setTop (mkF m 52 #[.val (.int p0), .val (.int (3 : Int32)), .val (.ref w_E1), .val (.int (0 : Int32))] [(.int (0 : Int32)), (.int (0 : Int32))]))
    refine ogo (fun t k => XS.icmpNo X21.here hx rfl (hb hby at_52) rfl (teq (by decide : (0 : Int32) = (0 : Int32))).2 k) ?_
    show OwnEnds _ _ _ _ _ _ _ (T21.setTop (mkF m 55 #[.val (.int p0), .val (.int (3 : Int32)), .val (.ref w_E1), .val (.int (0 : Int32))] []))
    refine ogo (fun t k => XS.iconst X21.here hx rfl (hb hby at_55) k) ?_
    show OwnEnds _ _ _ _ _ _ _ (T21.setTop (mkF m 56 #[.val (.int p0), .val (.int (3 : Int32)), .val (.ref w_E1), .val (.int (0 : Int32))] [(.int (1 : Int32))]))
    refine ogo (fun t k => XS.goto X21.here hx rfl (pc0 := 56) (pc' := 60) rfl (hb hby at_56) (by decide) (by decide) k) ?_
    show OwnEnds _ _ _ _ _ _ _ (T21.setTop (mkF m 60 #[.val (.int p0), .val (.int (3 : Int32)), .val (.ref w_E1), .val (.int (0 : Int32))] [(.int (1 : Int32))]))
    refine endZ X21 hx hlk Bd.returns rfl (hb hby at_60) (by decide) (by decide) ?_
    show Q0 Z p0 w_N1 w_N2 w_E2 w_S2 w_W2 w_E1 w_N3 w_W3 w_S3 w_W1 w_S1 w_E3 h0 n0 _ T21.heap _
    rw [e21]
    exact ⟨rfl, N21⟩
  · show OwnEnds _ _ _ _ _ _ _ (s₁.setTop (mkF m 7 #[.val (.int p0), .unset, .unset, .unset] [(.int (4 : Int32))]))
    refine ogo (fun t k => XS.istoreN X0.here hx rfl (hb hby at_7) rfl (l' := #[.val (.int p0), .val (.int (4 : Int32)), .unset, .unset]) rfl k) ?_
    show OwnEnds _ _ _ _ _ _ _ (s₁.setTop (mkF m 8 #[.val (.int p0), .val (.int (4 : Int32)), .unset, .unset] []))
    refine ogo (fun t k => XS.iloadN X0.here hx rfl (hb hby at_8) rfl k) ?_
    show OwnEnds _ _ _ _ _ _ _ (s₁.setTop (mkF m 9 #[.val (.int p0), .val (.int (4 : Int32)), .unset, .unset] [(.int (4 : Int32))]))
    obtain ⟨v22, _, ⟨T22, L22, k22, n22⟩, -, X22, ⟨Lc22, hQ22, l22, y22, z22⟩, st22⟩ := Jvm.LawKit.callS X0 hx (y := (⟨"com/example/ramparts/ramparts/tile/SegmentIsMiddlePinLaw", "pick", "(I)Lcom/example/ramparts/ramparts/tile/Segment;"⟩ : MethodName)) hown (mvT hZ (hw _ (List.mem_of_getElem? (i := 1) rfl))) (mvT hZ (hw _ (List.mem_of_getElem? (i := 2) rfl))) (mvT hZ (hw _ (List.mem_of_getElem? (i := 3) rfl))) (mvT hZ (hw _ (List.mem_of_getElem? (i := 4) rfl))) (by decide) (backOf (W := 0) (rm1 l Z a0 hw [] (4 : Int32) w_N1 w_N2 w_N3 w_E1 w_E2 w_E3 w_S1 w_S2 w_S3 w_W1 w_W2 w_W3 h0 n0 Z0 S_N1 S_N2 S_N3 S_E1 S_E2 S_E3 S_S1 S_S2 S_S3 S_W1 S_W2 S_W3) hZ (hw _ (List.mem_of_getElem? (i := 4) rfl)) (hw _ (List.mem_of_getElem? (i := 3) rfl)) (by decide) (by decide)) (g := (mkF m 9 #[.val (.int p0), .val (.int (4 : Int32)), .unset, .unset] [(.int (4 : Int32))])) rfl (by rw [hml]; rfl) (argsL := [(.int (4 : Int32))]) (rest := []) (lenOf pd__I_Lcom_example_ramparts_ramparts_tile_Segment_ rfl) rfl (by show 2 * 0 + _ ≤ _; exact Nat.le_of_eq rfl) (hb hby at_9) (fun _ _ => ⟨rfl, e0, (by decide : 0 + 0 ≤ _), (by decide : 0 + 0 ≤ _)⟩)
    dsimp only [Pt.U, Pt.locs, Pt.cells, Pt.slots] at X22 l22 y22 z22 st22 hQ22
    subst l22 y22 z22
    obtain ⟨hv22, N22q, e22⟩ := hQ22
    obtain rfl : v22 = some (.ref w_E2) := hv22.trans (by simp [own_pick])
    have N22 := Fr.app N0 N22q
    refine ogo (fun t k => st22 t k) ?_
    show OwnEnds _ _ _ _ _ _ _ (T22.setTop (mkF m 12 #[.val (.int p0), .val (.int (4 : Int32)), .unset, .unset] [(.ref w_E2)]))
    refine ogo (fun t k => XS.astoreN X22.here hx rfl (hb hby at_12) rfl rfl (l' := #[.val (.int p0), .val (.int (4 : Int32)), .val (.ref w_E2), .unset]) rfl k) ?_
    show OwnEnds _ _ _ _ _ _ _ (T22.setTop (mkF m 13 #[.val (.int p0), .val (.int (4 : Int32)), .val (.ref w_E2), .unset] []))
    refine ogo (fun t k => XS.aloadN X22.here hx rfl (hb hby at_13) rfl rfl k) ?_
    show OwnEnds _ _ _ _ _ _ _ (T22.setTop (mkF m 14 #[.val (.int p0), .val (.int (4 : Int32)), .val (.ref w_E2), .unset] [(.ref w_E2)]))
    obtain ⟨T23, X23, e23, st23⟩ := getS2 X22 hx hZ hown (host := "") (Or.inl (hw _ (List.mem_of_getElem? (i := 8) rfl))) Via.refl e22 S_N2 (g := (mkF m 14 #[.val (.int p0), .val (.int (4 : Int32)), .val (.ref w_E2), .unset] [(.ref w_E2)])) rfl (hb hby at_14)
    refine ogo st23 ?_
    show OwnEnds _ _ _ _ _ _ _ (T23.setTop (mkF m 17 #[.val (.int p0), .val (.int (4 : Int32)), .val (.ref w_E2), .unset] [(.ref w_N2), (.ref w_E2)]))
    refine ogo (fun t k => Jvm.RoadKit.acmp (g := (mkF m 17 #[.val (.int p0), .val (.int (4 : Int32)), .val (.ref w_E2), .unset] [(.ref w_N2), (.ref w_E2)])) X23 hx rfl rfl rfl (pc0 := 17) (pc' := 20) (same := false) rfl (hb hby at_17) rfl (decide_eq_false fun q => (Fld.ne F_ordinal_E2 F_ordinal_N2 (by simp)) (Value.ref.inj q)) (by decide) (by decide) k) ?_
    show OwnEnds _ _ _ _ _ _ _ (T23.setTop (mkF m 20 #[.val (.int p0), .val (.int (4 : Int32)), .val (.ref w_E2), .unset] []))
    refine ogo (fun t k => XS.aloadN X23.here hx rfl (hb hby at_20) rfl rfl k) ?_
    show OwnEnds _ _ _ _ _ _ _ (T23.setTop (mkF m 21 #[.val (.int p0), .val (.int (4 : Int32)), .val (.ref w_E2), .unset] [(.ref w_E2)]))
    obtain ⟨T24, X24, e24, st24⟩ := getS2 X23 hx hZ hown (host := "") (Or.inl (hw _ (List.mem_of_getElem? (i := 10) rfl))) Via.refl e23 S_E2 (g := (mkF m 21 #[.val (.int p0), .val (.int (4 : Int32)), .val (.ref w_E2), .unset] [(.ref w_E2)])) rfl (hb hby at_21)
    refine ogo st24 ?_
    show OwnEnds _ _ _ _ _ _ _ (T24.setTop (mkF m 24 #[.val (.int p0), .val (.int (4 : Int32)), .val (.ref w_E2), .unset] [(.ref w_E2), (.ref w_E2)]))
    refine ogo (fun t k => Jvm.RoadKit.acmp (g := (mkF m 24 #[.val (.int p0), .val (.int (4 : Int32)), .val (.ref w_E2), .unset] [(.ref w_E2), (.ref w_E2)])) X24 hx rfl rfl rfl (pc0 := 24) (pc' := 41) (same := true) rfl (hb hby at_24) rfl (decide_eq_true (congrArg Value.ref rfl)) (by decide) (by decide) k) ?_
    show OwnEnds _ _ _ _ _ _ _ (T24.setTop (mkF m 41 #[.val (.int p0), .val (.int (4 : Int32)), .val (.ref w_E2), .unset] []))
    refine ogo (fun t k => XS.iconst X24.here hx rfl (hb hby at_41) k) ?_
    show OwnEnds _ _ _ _ _ _ _ (T24.setTop (mkF m 42 #[.val (.int p0), .val (.int (4 : Int32)), .val (.ref w_E2), .unset] [(.int (1 : Int32))]))
    refine ogo (fun t k => XS.goto X24.here hx rfl (pc0 := 42) (pc' := 46) rfl (hb hby at_42) (by decide) (by decide) k) ?_
    show OwnEnds _ _ _ _ _ _ _ (T24.setTop (mkF m 46 #[.val (.int p0), .val (.int (4 : Int32)), .val (.ref w_E2), .unset] [(.int (1 : Int32))]))
    refine ogo (fun t k => XS.istoreN X24.here hx rfl (hb hby at_46) rfl (l' := #[.val (.int p0), .val (.int (4 : Int32)), .val (.ref w_E2), .val (.int (1 : Int32))]) rfl k) ?_
    show OwnEnds _ _ _ _ _ _ _ (T24.setTop (mkF m 47 #[.val (.int p0), .val (.int (4 : Int32)), .val (.ref w_E2), .val (.int (1 : Int32))] []))
    refine ogo (fun t k => XS.aloadN X24.here hx rfl (hb hby at_47) rfl rfl k) ?_
    show OwnEnds _ _ _ _ _ _ _ (T24.setTop (mkF m 48 #[.val (.int p0), .val (.int (4 : Int32)), .val (.ref w_E2), .val (.int (1 : Int32))] [(.ref w_E2)]))
    obtain ⟨cq25, kq25, q25a, q25b, q25c⟩ := isOf hZ e24 E_E2
    obtain ⟨v25, _, ⟨T25, L25, k25, n25⟩, -, X25, ⟨Lc25, hQ25, l25, y25, z25⟩, st25⟩ := X24.virtualBack hx (y := (⟨"com/example/ramparts/ramparts/tile/Segment", "isMiddle", "()Z"⟩ : MethodName)) (z := (⟨"com/example/ramparts/ramparts/tile/Segment", "isMiddle", "()Z"⟩ : MethodName)) hown (mvT hZ (hw _ (List.mem_of_getElem? (i := 16) rfl))) (mvT hZ (hw _ (List.mem_of_getElem? (i := 17) rfl))) (notFace_of_selects (args := #[]) (mvT hZ (hw _ (List.mem_of_getElem? (i := 19) rfl)))) (mvT hZ (hw _ (List.mem_of_getElem? (i := 19) rfl))) (mvT hZ (hw _ (List.mem_of_getElem? (i := 18) rfl))) (by decide) (backOf (W := 0) (rm3 l Z a0 hw [] w_E2 (4 : Int32) h0 n0 Z0 F_ordinal_E2 E_E2) hZ (hw _ (List.mem_of_getElem? (i := 20) rfl)) (hw _ (List.mem_of_getElem? (i := 6) rfl)) (by decide) (by decide)) q25a q25c (g := (mkF m 48 #[.val (.int p0), .val (.int (4 : Int32)), .val (.ref w_E2), .val (.int (1 : Int32))] [(.ref w_E2)])) rfl (by rw [hml]; rfl) (Steps.refl _) (argsL := []) (rest := []) (lenOf pd___Z rfl) rfl (by show 2 * 0 + _ ≤ _; exact Nat.le_of_eq rfl) (hb hby at_48) (fun _ _ => ⟨rfl, e24, (by decide : 0 + 0 ≤ _), (by decide : 0 + 0 ≤ _)⟩)
    dsimp only [Pt.U, Pt.locs, Pt.cells, Pt.slots] at X25 l25 y25 z25 st25 hQ25
    subst l25 y25 z25
    obtain ⟨hv25, N25q, e25⟩ := hQ25
    obtain rfl : v25 = some (.int (1 : Int32)) := hv25.trans (by decide)
    have N25 := Fr.app N22 N25q
    refine ogo (fun t k => st25.trans k) ?_
    show OwnEnds _ _ _ _ _ _ _ (T25.setTop (mkF m 51 #[.val (.int p0), .val (.int (4 : Int32)), .val (.ref w_E2), .val (.int (1 : Int32))] [(.int (1 : Int32))]))
    refine ogo (fun t k => XS.iloadN X25.here hx rfl (hb hby at_51) rfl k) ?_
    show OwnEnds _ _ _ _ _ _ _ (T25.setTop (mkF m 52 #[.val (.int p0), .val (.int (4 : Int32)), .val (.ref w_E2), .val (.int (1 : Int32))] [(.int (1 : Int32)), (.int (1 : Int32))]))
    refine ogo (fun t k => XS.icmpNo X25.here hx rfl (hb hby at_52) rfl (teq (by decide : (1 : Int32) = (1 : Int32))).2 k) ?_
    show OwnEnds _ _ _ _ _ _ _ (T25.setTop (mkF m 55 #[.val (.int p0), .val (.int (4 : Int32)), .val (.ref w_E2), .val (.int (1 : Int32))] []))
    refine ogo (fun t k => XS.iconst X25.here hx rfl (hb hby at_55) k) ?_
    show OwnEnds _ _ _ _ _ _ _ (T25.setTop (mkF m 56 #[.val (.int p0), .val (.int (4 : Int32)), .val (.ref w_E2), .val (.int (1 : Int32))] [(.int (1 : Int32))]))
    refine ogo (fun t k => XS.goto X25.here hx rfl (pc0 := 56) (pc' := 60) rfl (hb hby at_56) (by decide) (by decide) k) ?_
    show OwnEnds _ _ _ _ _ _ _ (T25.setTop (mkF m 60 #[.val (.int p0), .val (.int (4 : Int32)), .val (.ref w_E2), .val (.int (1 : Int32))] [(.int (1 : Int32))]))
    refine endZ X25 hx hlk Bd.returns rfl (hb hby at_60) (by decide) (by decide) ?_
    show Q0 Z p0 w_N1 w_N2 w_E2 w_S2 w_W2 w_E1 w_N3 w_W3 w_S3 w_W1 w_S1 w_E3 h0 n0 _ T25.heap _
    rw [e25]
    exact ⟨rfl, N25⟩
  · show OwnEnds _ _ _ _ _ _ _ (s₁.setTop (mkF m 7 #[.val (.int p0), .unset, .unset, .unset] [(.int (5 : Int32))]))
    refine ogo (fun t k => XS.istoreN X0.here hx rfl (hb hby at_7) rfl (l' := #[.val (.int p0), .val (.int (5 : Int32)), .unset, .unset]) rfl k) ?_
    show OwnEnds _ _ _ _ _ _ _ (s₁.setTop (mkF m 8 #[.val (.int p0), .val (.int (5 : Int32)), .unset, .unset] []))
    refine ogo (fun t k => XS.iloadN X0.here hx rfl (hb hby at_8) rfl k) ?_
    show OwnEnds _ _ _ _ _ _ _ (s₁.setTop (mkF m 9 #[.val (.int p0), .val (.int (5 : Int32)), .unset, .unset] [(.int (5 : Int32))]))
    obtain ⟨v26, _, ⟨T26, L26, k26, n26⟩, -, X26, ⟨Lc26, hQ26, l26, y26, z26⟩, st26⟩ := Jvm.LawKit.callS X0 hx (y := (⟨"com/example/ramparts/ramparts/tile/SegmentIsMiddlePinLaw", "pick", "(I)Lcom/example/ramparts/ramparts/tile/Segment;"⟩ : MethodName)) hown (mvT hZ (hw _ (List.mem_of_getElem? (i := 1) rfl))) (mvT hZ (hw _ (List.mem_of_getElem? (i := 2) rfl))) (mvT hZ (hw _ (List.mem_of_getElem? (i := 3) rfl))) (mvT hZ (hw _ (List.mem_of_getElem? (i := 4) rfl))) (by decide) (backOf (W := 0) (rm1 l Z a0 hw [] (5 : Int32) w_N1 w_N2 w_N3 w_E1 w_E2 w_E3 w_S1 w_S2 w_S3 w_W1 w_W2 w_W3 h0 n0 Z0 S_N1 S_N2 S_N3 S_E1 S_E2 S_E3 S_S1 S_S2 S_S3 S_W1 S_W2 S_W3) hZ (hw _ (List.mem_of_getElem? (i := 4) rfl)) (hw _ (List.mem_of_getElem? (i := 3) rfl)) (by decide) (by decide)) (g := (mkF m 9 #[.val (.int p0), .val (.int (5 : Int32)), .unset, .unset] [(.int (5 : Int32))])) rfl (by rw [hml]; rfl) (argsL := [(.int (5 : Int32))]) (rest := []) (lenOf pd__I_Lcom_example_ramparts_ramparts_tile_Segment_ rfl) rfl (by show 2 * 0 + _ ≤ _; exact Nat.le_of_eq rfl) (hb hby at_9) (fun _ _ => ⟨rfl, e0, (by decide : 0 + 0 ≤ _), (by decide : 0 + 0 ≤ _)⟩)
    dsimp only [Pt.U, Pt.locs, Pt.cells, Pt.slots] at X26 l26 y26 z26 st26 hQ26
    subst l26 y26 z26
    obtain ⟨hv26, N26q, e26⟩ := hQ26
    obtain rfl : v26 = some (.ref w_E3) := hv26.trans (by simp [own_pick])
    have N26 := Fr.app N0 N26q
    refine ogo (fun t k => st26 t k) ?_
    show OwnEnds _ _ _ _ _ _ _ (T26.setTop (mkF m 12 #[.val (.int p0), .val (.int (5 : Int32)), .unset, .unset] [(.ref w_E3)]))
    refine ogo (fun t k => XS.astoreN X26.here hx rfl (hb hby at_12) rfl rfl (l' := #[.val (.int p0), .val (.int (5 : Int32)), .val (.ref w_E3), .unset]) rfl k) ?_
    show OwnEnds _ _ _ _ _ _ _ (T26.setTop (mkF m 13 #[.val (.int p0), .val (.int (5 : Int32)), .val (.ref w_E3), .unset] []))
    refine ogo (fun t k => XS.aloadN X26.here hx rfl (hb hby at_13) rfl rfl k) ?_
    show OwnEnds _ _ _ _ _ _ _ (T26.setTop (mkF m 14 #[.val (.int p0), .val (.int (5 : Int32)), .val (.ref w_E3), .unset] [(.ref w_E3)]))
    obtain ⟨T27, X27, e27, st27⟩ := getS2 X26 hx hZ hown (host := "") (Or.inl (hw _ (List.mem_of_getElem? (i := 8) rfl))) Via.refl e26 S_N2 (g := (mkF m 14 #[.val (.int p0), .val (.int (5 : Int32)), .val (.ref w_E3), .unset] [(.ref w_E3)])) rfl (hb hby at_14)
    refine ogo st27 ?_
    show OwnEnds _ _ _ _ _ _ _ (T27.setTop (mkF m 17 #[.val (.int p0), .val (.int (5 : Int32)), .val (.ref w_E3), .unset] [(.ref w_N2), (.ref w_E3)]))
    refine ogo (fun t k => Jvm.RoadKit.acmp (g := (mkF m 17 #[.val (.int p0), .val (.int (5 : Int32)), .val (.ref w_E3), .unset] [(.ref w_N2), (.ref w_E3)])) X27 hx rfl rfl rfl (pc0 := 17) (pc' := 20) (same := false) rfl (hb hby at_17) rfl (decide_eq_false fun q => (Fld.ne F_ordinal_E3 F_ordinal_N2 (by simp)) (Value.ref.inj q)) (by decide) (by decide) k) ?_
    show OwnEnds _ _ _ _ _ _ _ (T27.setTop (mkF m 20 #[.val (.int p0), .val (.int (5 : Int32)), .val (.ref w_E3), .unset] []))
    refine ogo (fun t k => XS.aloadN X27.here hx rfl (hb hby at_20) rfl rfl k) ?_
    show OwnEnds _ _ _ _ _ _ _ (T27.setTop (mkF m 21 #[.val (.int p0), .val (.int (5 : Int32)), .val (.ref w_E3), .unset] [(.ref w_E3)]))
    obtain ⟨T28, X28, e28, st28⟩ := getS2 X27 hx hZ hown (host := "") (Or.inl (hw _ (List.mem_of_getElem? (i := 10) rfl))) Via.refl e27 S_E2 (g := (mkF m 21 #[.val (.int p0), .val (.int (5 : Int32)), .val (.ref w_E3), .unset] [(.ref w_E3)])) rfl (hb hby at_21)
    refine ogo st28 ?_
    show OwnEnds _ _ _ _ _ _ _ (T28.setTop (mkF m 24 #[.val (.int p0), .val (.int (5 : Int32)), .val (.ref w_E3), .unset] [(.ref w_E2), (.ref w_E3)]))
    refine ogo (fun t k => Jvm.RoadKit.acmp (g := (mkF m 24 #[.val (.int p0), .val (.int (5 : Int32)), .val (.ref w_E3), .unset] [(.ref w_E2), (.ref w_E3)])) X28 hx rfl rfl rfl (pc0 := 24) (pc' := 27) (same := false) rfl (hb hby at_24) rfl (decide_eq_false fun q => (Fld.ne F_ordinal_E3 F_ordinal_E2 (by simp)) (Value.ref.inj q)) (by decide) (by decide) k) ?_
    show OwnEnds _ _ _ _ _ _ _ (T28.setTop (mkF m 27 #[.val (.int p0), .val (.int (5 : Int32)), .val (.ref w_E3), .unset] []))
    refine ogo (fun t k => XS.aloadN X28.here hx rfl (hb hby at_27) rfl rfl k) ?_
    show OwnEnds _ _ _ _ _ _ _ (T28.setTop (mkF m 28 #[.val (.int p0), .val (.int (5 : Int32)), .val (.ref w_E3), .unset] [(.ref w_E3)]))
    obtain ⟨T29, X29, e29, st29⟩ := getS2 X28 hx hZ hown (host := "") (Or.inl (hw _ (List.mem_of_getElem? (i := 12) rfl))) Via.refl e28 S_S2 (g := (mkF m 28 #[.val (.int p0), .val (.int (5 : Int32)), .val (.ref w_E3), .unset] [(.ref w_E3)])) rfl (hb hby at_28)
    refine ogo st29 ?_
    show OwnEnds _ _ _ _ _ _ _ (T29.setTop (mkF m 31 #[.val (.int p0), .val (.int (5 : Int32)), .val (.ref w_E3), .unset] [(.ref w_S2), (.ref w_E3)]))
    refine ogo (fun t k => Jvm.RoadKit.acmp (g := (mkF m 31 #[.val (.int p0), .val (.int (5 : Int32)), .val (.ref w_E3), .unset] [(.ref w_S2), (.ref w_E3)])) X29 hx rfl rfl rfl (pc0 := 31) (pc' := 34) (same := false) rfl (hb hby at_31) rfl (decide_eq_false fun q => (Fld.ne F_ordinal_E3 F_ordinal_S2 (by simp)) (Value.ref.inj q)) (by decide) (by decide) k) ?_
    show OwnEnds _ _ _ _ _ _ _ (T29.setTop (mkF m 34 #[.val (.int p0), .val (.int (5 : Int32)), .val (.ref w_E3), .unset] []))
    refine ogo (fun t k => XS.aloadN X29.here hx rfl (hb hby at_34) rfl rfl k) ?_
    show OwnEnds _ _ _ _ _ _ _ (T29.setTop (mkF m 35 #[.val (.int p0), .val (.int (5 : Int32)), .val (.ref w_E3), .unset] [(.ref w_E3)]))
    obtain ⟨T30, X30, e30, st30⟩ := getS2 X29 hx hZ hown (host := "") (Or.inl (hw _ (List.mem_of_getElem? (i := 14) rfl))) Via.refl e29 S_W2 (g := (mkF m 35 #[.val (.int p0), .val (.int (5 : Int32)), .val (.ref w_E3), .unset] [(.ref w_E3)])) rfl (hb hby at_35)
    refine ogo st30 ?_
    show OwnEnds _ _ _ _ _ _ _ (T30.setTop (mkF m 38 #[.val (.int p0), .val (.int (5 : Int32)), .val (.ref w_E3), .unset] [(.ref w_W2), (.ref w_E3)]))
    refine ogo (fun t k => Jvm.RoadKit.acmp (g := (mkF m 38 #[.val (.int p0), .val (.int (5 : Int32)), .val (.ref w_E3), .unset] [(.ref w_W2), (.ref w_E3)])) X30 hx rfl rfl rfl (pc0 := 38) (pc' := 45) (same := false) rfl (hb hby at_38) rfl (decide_eq_false fun q => (Fld.ne F_ordinal_E3 F_ordinal_W2 (by simp)) (Value.ref.inj q)) (by decide) (by decide) k) ?_
    show OwnEnds _ _ _ _ _ _ _ (T30.setTop (mkF m 45 #[.val (.int p0), .val (.int (5 : Int32)), .val (.ref w_E3), .unset] []))
    refine ogo (fun t k => XS.iconst X30.here hx rfl (hb hby at_45) k) ?_
    show OwnEnds _ _ _ _ _ _ _ (T30.setTop (mkF m 46 #[.val (.int p0), .val (.int (5 : Int32)), .val (.ref w_E3), .unset] [(.int (0 : Int32))]))
    refine ogo (fun t k => XS.istoreN X30.here hx rfl (hb hby at_46) rfl (l' := #[.val (.int p0), .val (.int (5 : Int32)), .val (.ref w_E3), .val (.int (0 : Int32))]) rfl k) ?_
    show OwnEnds _ _ _ _ _ _ _ (T30.setTop (mkF m 47 #[.val (.int p0), .val (.int (5 : Int32)), .val (.ref w_E3), .val (.int (0 : Int32))] []))
    refine ogo (fun t k => XS.aloadN X30.here hx rfl (hb hby at_47) rfl rfl k) ?_
    show OwnEnds _ _ _ _ _ _ _ (T30.setTop (mkF m 48 #[.val (.int p0), .val (.int (5 : Int32)), .val (.ref w_E3), .val (.int (0 : Int32))] [(.ref w_E3)]))
    obtain ⟨cq31, kq31, q31a, q31b, q31c⟩ := isOf hZ e30 E_E3
    obtain ⟨v31, _, ⟨T31, L31, k31, n31⟩, -, X31, ⟨Lc31, hQ31, l31, y31, z31⟩, st31⟩ := X30.virtualBack hx (y := (⟨"com/example/ramparts/ramparts/tile/Segment", "isMiddle", "()Z"⟩ : MethodName)) (z := (⟨"com/example/ramparts/ramparts/tile/Segment", "isMiddle", "()Z"⟩ : MethodName)) hown (mvT hZ (hw _ (List.mem_of_getElem? (i := 16) rfl))) (mvT hZ (hw _ (List.mem_of_getElem? (i := 17) rfl))) (notFace_of_selects (args := #[]) (mvT hZ (hw _ (List.mem_of_getElem? (i := 19) rfl)))) (mvT hZ (hw _ (List.mem_of_getElem? (i := 19) rfl))) (mvT hZ (hw _ (List.mem_of_getElem? (i := 18) rfl))) (by decide) (backOf (W := 0) (rm3 l Z a0 hw [] w_E3 (5 : Int32) h0 n0 Z0 F_ordinal_E3 E_E3) hZ (hw _ (List.mem_of_getElem? (i := 20) rfl)) (hw _ (List.mem_of_getElem? (i := 6) rfl)) (by decide) (by decide)) q31a q31c (g := (mkF m 48 #[.val (.int p0), .val (.int (5 : Int32)), .val (.ref w_E3), .val (.int (0 : Int32))] [(.ref w_E3)])) rfl (by rw [hml]; rfl) (Steps.refl _) (argsL := []) (rest := []) (lenOf pd___Z rfl) rfl (by show 2 * 0 + _ ≤ _; exact Nat.le_of_eq rfl) (hb hby at_48) (fun _ _ => ⟨rfl, e30, (by decide : 0 + 0 ≤ _), (by decide : 0 + 0 ≤ _)⟩)
    dsimp only [Pt.U, Pt.locs, Pt.cells, Pt.slots] at X31 l31 y31 z31 st31 hQ31
    subst l31 y31 z31
    obtain ⟨hv31, N31q, e31⟩ := hQ31
    obtain rfl : v31 = some (.int (0 : Int32)) := hv31.trans (by decide)
    have N31 := Fr.app N26 N31q
    refine ogo (fun t k => st31.trans k) ?_
    show OwnEnds _ _ _ _ _ _ _ (T31.setTop (mkF m 51 #[.val (.int p0), .val (.int (5 : Int32)), .val (.ref w_E3), .val (.int (0 : Int32))] [(.int (0 : Int32))]))
    refine ogo (fun t k => XS.iloadN X31.here hx rfl (hb hby at_51) rfl k) ?_
    show OwnEnds _ _ _ _ _ _ _ (T31.setTop (mkF m 52 #[.val (.int p0), .val (.int (5 : Int32)), .val (.ref w_E3), .val (.int (0 : Int32))] [(.int (0 : Int32)), (.int (0 : Int32))]))
    refine ogo (fun t k => XS.icmpNo X31.here hx rfl (hb hby at_52) rfl (teq (by decide : (0 : Int32) = (0 : Int32))).2 k) ?_
    show OwnEnds _ _ _ _ _ _ _ (T31.setTop (mkF m 55 #[.val (.int p0), .val (.int (5 : Int32)), .val (.ref w_E3), .val (.int (0 : Int32))] []))
    refine ogo (fun t k => XS.iconst X31.here hx rfl (hb hby at_55) k) ?_
    show OwnEnds _ _ _ _ _ _ _ (T31.setTop (mkF m 56 #[.val (.int p0), .val (.int (5 : Int32)), .val (.ref w_E3), .val (.int (0 : Int32))] [(.int (1 : Int32))]))
    refine ogo (fun t k => XS.goto X31.here hx rfl (pc0 := 56) (pc' := 60) rfl (hb hby at_56) (by decide) (by decide) k) ?_
    show OwnEnds _ _ _ _ _ _ _ (T31.setTop (mkF m 60 #[.val (.int p0), .val (.int (5 : Int32)), .val (.ref w_E3), .val (.int (0 : Int32))] [(.int (1 : Int32))]))
    refine endZ X31 hx hlk Bd.returns rfl (hb hby at_60) (by decide) (by decide) ?_
    show Q0 Z p0 w_N1 w_N2 w_E2 w_S2 w_W2 w_E1 w_N3 w_W3 w_S3 w_W1 w_S1 w_E3 h0 n0 _ T31.heap _
    rw [e31]
    exact ⟨rfl, N31⟩
  · show OwnEnds _ _ _ _ _ _ _ (s₁.setTop (mkF m 7 #[.val (.int p0), .unset, .unset, .unset] [(.int (6 : Int32))]))
    refine ogo (fun t k => XS.istoreN X0.here hx rfl (hb hby at_7) rfl (l' := #[.val (.int p0), .val (.int (6 : Int32)), .unset, .unset]) rfl k) ?_
    show OwnEnds _ _ _ _ _ _ _ (s₁.setTop (mkF m 8 #[.val (.int p0), .val (.int (6 : Int32)), .unset, .unset] []))
    refine ogo (fun t k => XS.iloadN X0.here hx rfl (hb hby at_8) rfl k) ?_
    show OwnEnds _ _ _ _ _ _ _ (s₁.setTop (mkF m 9 #[.val (.int p0), .val (.int (6 : Int32)), .unset, .unset] [(.int (6 : Int32))]))
    obtain ⟨v32, _, ⟨T32, L32, k32, n32⟩, -, X32, ⟨Lc32, hQ32, l32, y32, z32⟩, st32⟩ := Jvm.LawKit.callS X0 hx (y := (⟨"com/example/ramparts/ramparts/tile/SegmentIsMiddlePinLaw", "pick", "(I)Lcom/example/ramparts/ramparts/tile/Segment;"⟩ : MethodName)) hown (mvT hZ (hw _ (List.mem_of_getElem? (i := 1) rfl))) (mvT hZ (hw _ (List.mem_of_getElem? (i := 2) rfl))) (mvT hZ (hw _ (List.mem_of_getElem? (i := 3) rfl))) (mvT hZ (hw _ (List.mem_of_getElem? (i := 4) rfl))) (by decide) (backOf (W := 0) (rm1 l Z a0 hw [] (6 : Int32) w_N1 w_N2 w_N3 w_E1 w_E2 w_E3 w_S1 w_S2 w_S3 w_W1 w_W2 w_W3 h0 n0 Z0 S_N1 S_N2 S_N3 S_E1 S_E2 S_E3 S_S1 S_S2 S_S3 S_W1 S_W2 S_W3) hZ (hw _ (List.mem_of_getElem? (i := 4) rfl)) (hw _ (List.mem_of_getElem? (i := 3) rfl)) (by decide) (by decide)) (g := (mkF m 9 #[.val (.int p0), .val (.int (6 : Int32)), .unset, .unset] [(.int (6 : Int32))])) rfl (by rw [hml]; rfl) (argsL := [(.int (6 : Int32))]) (rest := []) (lenOf pd__I_Lcom_example_ramparts_ramparts_tile_Segment_ rfl) rfl (by show 2 * 0 + _ ≤ _; exact Nat.le_of_eq rfl) (hb hby at_9) (fun _ _ => ⟨rfl, e0, (by decide : 0 + 0 ≤ _), (by decide : 0 + 0 ≤ _)⟩)
    dsimp only [Pt.U, Pt.locs, Pt.cells, Pt.slots] at X32 l32 y32 z32 st32 hQ32
    subst l32 y32 z32
    obtain ⟨hv32, N32q, e32⟩ := hQ32
    obtain rfl : v32 = some (.ref w_S1) := hv32.trans (by simp [own_pick])
    have N32 := Fr.app N0 N32q
    refine ogo (fun t k => st32 t k) ?_
    show OwnEnds _ _ _ _ _ _ _ (T32.setTop (mkF m 12 #[.val (.int p0), .val (.int (6 : Int32)), .unset, .unset] [(.ref w_S1)]))
    refine ogo (fun t k => XS.astoreN X32.here hx rfl (hb hby at_12) rfl rfl (l' := #[.val (.int p0), .val (.int (6 : Int32)), .val (.ref w_S1), .unset]) rfl k) ?_
    show OwnEnds _ _ _ _ _ _ _ (T32.setTop (mkF m 13 #[.val (.int p0), .val (.int (6 : Int32)), .val (.ref w_S1), .unset] []))
    refine ogo (fun t k => XS.aloadN X32.here hx rfl (hb hby at_13) rfl rfl k) ?_
    show OwnEnds _ _ _ _ _ _ _ (T32.setTop (mkF m 14 #[.val (.int p0), .val (.int (6 : Int32)), .val (.ref w_S1), .unset] [(.ref w_S1)]))
    obtain ⟨T33, X33, e33, st33⟩ := getS2 X32 hx hZ hown (host := "") (Or.inl (hw _ (List.mem_of_getElem? (i := 8) rfl))) Via.refl e32 S_N2 (g := (mkF m 14 #[.val (.int p0), .val (.int (6 : Int32)), .val (.ref w_S1), .unset] [(.ref w_S1)])) rfl (hb hby at_14)
    refine ogo st33 ?_
    show OwnEnds _ _ _ _ _ _ _ (T33.setTop (mkF m 17 #[.val (.int p0), .val (.int (6 : Int32)), .val (.ref w_S1), .unset] [(.ref w_N2), (.ref w_S1)]))
    refine ogo (fun t k => Jvm.RoadKit.acmp (g := (mkF m 17 #[.val (.int p0), .val (.int (6 : Int32)), .val (.ref w_S1), .unset] [(.ref w_N2), (.ref w_S1)])) X33 hx rfl rfl rfl (pc0 := 17) (pc' := 20) (same := false) rfl (hb hby at_17) rfl (decide_eq_false fun q => (Fld.ne F_ordinal_S1 F_ordinal_N2 (by simp)) (Value.ref.inj q)) (by decide) (by decide) k) ?_
    show OwnEnds _ _ _ _ _ _ _ (T33.setTop (mkF m 20 #[.val (.int p0), .val (.int (6 : Int32)), .val (.ref w_S1), .unset] []))
    refine ogo (fun t k => XS.aloadN X33.here hx rfl (hb hby at_20) rfl rfl k) ?_
    show OwnEnds _ _ _ _ _ _ _ (T33.setTop (mkF m 21 #[.val (.int p0), .val (.int (6 : Int32)), .val (.ref w_S1), .unset] [(.ref w_S1)]))
    obtain ⟨T34, X34, e34, st34⟩ := getS2 X33 hx hZ hown (host := "") (Or.inl (hw _ (List.mem_of_getElem? (i := 10) rfl))) Via.refl e33 S_E2 (g := (mkF m 21 #[.val (.int p0), .val (.int (6 : Int32)), .val (.ref w_S1), .unset] [(.ref w_S1)])) rfl (hb hby at_21)
    refine ogo st34 ?_
    show OwnEnds _ _ _ _ _ _ _ (T34.setTop (mkF m 24 #[.val (.int p0), .val (.int (6 : Int32)), .val (.ref w_S1), .unset] [(.ref w_E2), (.ref w_S1)]))
    refine ogo (fun t k => Jvm.RoadKit.acmp (g := (mkF m 24 #[.val (.int p0), .val (.int (6 : Int32)), .val (.ref w_S1), .unset] [(.ref w_E2), (.ref w_S1)])) X34 hx rfl rfl rfl (pc0 := 24) (pc' := 27) (same := false) rfl (hb hby at_24) rfl (decide_eq_false fun q => (Fld.ne F_ordinal_S1 F_ordinal_E2 (by simp)) (Value.ref.inj q)) (by decide) (by decide) k) ?_
    show OwnEnds _ _ _ _ _ _ _ (T34.setTop (mkF m 27 #[.val (.int p0), .val (.int (6 : Int32)), .val (.ref w_S1), .unset] []))
    refine ogo (fun t k => XS.aloadN X34.here hx rfl (hb hby at_27) rfl rfl k) ?_
    show OwnEnds _ _ _ _ _ _ _ (T34.setTop (mkF m 28 #[.val (.int p0), .val (.int (6 : Int32)), .val (.ref w_S1), .unset] [(.ref w_S1)]))
    obtain ⟨T35, X35, e35, st35⟩ := getS2 X34 hx hZ hown (host := "") (Or.inl (hw _ (List.mem_of_getElem? (i := 12) rfl))) Via.refl e34 S_S2 (g := (mkF m 28 #[.val (.int p0), .val (.int (6 : Int32)), .val (.ref w_S1), .unset] [(.ref w_S1)])) rfl (hb hby at_28)
    refine ogo st35 ?_
    show OwnEnds _ _ _ _ _ _ _ (T35.setTop (mkF m 31 #[.val (.int p0), .val (.int (6 : Int32)), .val (.ref w_S1), .unset] [(.ref w_S2), (.ref w_S1)]))
    refine ogo (fun t k => Jvm.RoadKit.acmp (g := (mkF m 31 #[.val (.int p0), .val (.int (6 : Int32)), .val (.ref w_S1), .unset] [(.ref w_S2), (.ref w_S1)])) X35 hx rfl rfl rfl (pc0 := 31) (pc' := 34) (same := false) rfl (hb hby at_31) rfl (decide_eq_false fun q => (Fld.ne F_ordinal_S1 F_ordinal_S2 (by simp)) (Value.ref.inj q)) (by decide) (by decide) k) ?_
    show OwnEnds _ _ _ _ _ _ _ (T35.setTop (mkF m 34 #[.val (.int p0), .val (.int (6 : Int32)), .val (.ref w_S1), .unset] []))
    refine ogo (fun t k => XS.aloadN X35.here hx rfl (hb hby at_34) rfl rfl k) ?_
    show OwnEnds _ _ _ _ _ _ _ (T35.setTop (mkF m 35 #[.val (.int p0), .val (.int (6 : Int32)), .val (.ref w_S1), .unset] [(.ref w_S1)]))
    obtain ⟨T36, X36, e36, st36⟩ := getS2 X35 hx hZ hown (host := "") (Or.inl (hw _ (List.mem_of_getElem? (i := 14) rfl))) Via.refl e35 S_W2 (g := (mkF m 35 #[.val (.int p0), .val (.int (6 : Int32)), .val (.ref w_S1), .unset] [(.ref w_S1)])) rfl (hb hby at_35)
    refine ogo st36 ?_
    show OwnEnds _ _ _ _ _ _ _ (T36.setTop (mkF m 38 #[.val (.int p0), .val (.int (6 : Int32)), .val (.ref w_S1), .unset] [(.ref w_W2), (.ref w_S1)]))
    refine ogo (fun t k => Jvm.RoadKit.acmp (g := (mkF m 38 #[.val (.int p0), .val (.int (6 : Int32)), .val (.ref w_S1), .unset] [(.ref w_W2), (.ref w_S1)])) X36 hx rfl rfl rfl (pc0 := 38) (pc' := 45) (same := false) rfl (hb hby at_38) rfl (decide_eq_false fun q => (Fld.ne F_ordinal_S1 F_ordinal_W2 (by simp)) (Value.ref.inj q)) (by decide) (by decide) k) ?_
    show OwnEnds _ _ _ _ _ _ _ (T36.setTop (mkF m 45 #[.val (.int p0), .val (.int (6 : Int32)), .val (.ref w_S1), .unset] []))
    refine ogo (fun t k => XS.iconst X36.here hx rfl (hb hby at_45) k) ?_
    show OwnEnds _ _ _ _ _ _ _ (T36.setTop (mkF m 46 #[.val (.int p0), .val (.int (6 : Int32)), .val (.ref w_S1), .unset] [(.int (0 : Int32))]))
    refine ogo (fun t k => XS.istoreN X36.here hx rfl (hb hby at_46) rfl (l' := #[.val (.int p0), .val (.int (6 : Int32)), .val (.ref w_S1), .val (.int (0 : Int32))]) rfl k) ?_
    show OwnEnds _ _ _ _ _ _ _ (T36.setTop (mkF m 47 #[.val (.int p0), .val (.int (6 : Int32)), .val (.ref w_S1), .val (.int (0 : Int32))] []))
    refine ogo (fun t k => XS.aloadN X36.here hx rfl (hb hby at_47) rfl rfl k) ?_
    show OwnEnds _ _ _ _ _ _ _ (T36.setTop (mkF m 48 #[.val (.int p0), .val (.int (6 : Int32)), .val (.ref w_S1), .val (.int (0 : Int32))] [(.ref w_S1)]))
    obtain ⟨cq37, kq37, q37a, q37b, q37c⟩ := isOf hZ e36 E_S1
    obtain ⟨v37, _, ⟨T37, L37, k37, n37⟩, -, X37, ⟨Lc37, hQ37, l37, y37, z37⟩, st37⟩ := X36.virtualBack hx (y := (⟨"com/example/ramparts/ramparts/tile/Segment", "isMiddle", "()Z"⟩ : MethodName)) (z := (⟨"com/example/ramparts/ramparts/tile/Segment", "isMiddle", "()Z"⟩ : MethodName)) hown (mvT hZ (hw _ (List.mem_of_getElem? (i := 16) rfl))) (mvT hZ (hw _ (List.mem_of_getElem? (i := 17) rfl))) (notFace_of_selects (args := #[]) (mvT hZ (hw _ (List.mem_of_getElem? (i := 19) rfl)))) (mvT hZ (hw _ (List.mem_of_getElem? (i := 19) rfl))) (mvT hZ (hw _ (List.mem_of_getElem? (i := 18) rfl))) (by decide) (backOf (W := 0) (rm3 l Z a0 hw [] w_S1 (6 : Int32) h0 n0 Z0 F_ordinal_S1 E_S1) hZ (hw _ (List.mem_of_getElem? (i := 20) rfl)) (hw _ (List.mem_of_getElem? (i := 6) rfl)) (by decide) (by decide)) q37a q37c (g := (mkF m 48 #[.val (.int p0), .val (.int (6 : Int32)), .val (.ref w_S1), .val (.int (0 : Int32))] [(.ref w_S1)])) rfl (by rw [hml]; rfl) (Steps.refl _) (argsL := []) (rest := []) (lenOf pd___Z rfl) rfl (by show 2 * 0 + _ ≤ _; exact Nat.le_of_eq rfl) (hb hby at_48) (fun _ _ => ⟨rfl, e36, (by decide : 0 + 0 ≤ _), (by decide : 0 + 0 ≤ _)⟩)
    dsimp only [Pt.U, Pt.locs, Pt.cells, Pt.slots] at X37 l37 y37 z37 st37 hQ37
    subst l37 y37 z37
    obtain ⟨hv37, N37q, e37⟩ := hQ37
    obtain rfl : v37 = some (.int (0 : Int32)) := hv37.trans (by decide)
    have N37 := Fr.app N32 N37q
    refine ogo (fun t k => st37.trans k) ?_
    show OwnEnds _ _ _ _ _ _ _ (T37.setTop (mkF m 51 #[.val (.int p0), .val (.int (6 : Int32)), .val (.ref w_S1), .val (.int (0 : Int32))] [(.int (0 : Int32))]))
    refine ogo (fun t k => XS.iloadN X37.here hx rfl (hb hby at_51) rfl k) ?_
    show OwnEnds _ _ _ _ _ _ _ (T37.setTop (mkF m 52 #[.val (.int p0), .val (.int (6 : Int32)), .val (.ref w_S1), .val (.int (0 : Int32))] [(.int (0 : Int32)), (.int (0 : Int32))]))
    refine ogo (fun t k => XS.icmpNo X37.here hx rfl (hb hby at_52) rfl (teq (by decide : (0 : Int32) = (0 : Int32))).2 k) ?_
    show OwnEnds _ _ _ _ _ _ _ (T37.setTop (mkF m 55 #[.val (.int p0), .val (.int (6 : Int32)), .val (.ref w_S1), .val (.int (0 : Int32))] []))
    refine ogo (fun t k => XS.iconst X37.here hx rfl (hb hby at_55) k) ?_
    show OwnEnds _ _ _ _ _ _ _ (T37.setTop (mkF m 56 #[.val (.int p0), .val (.int (6 : Int32)), .val (.ref w_S1), .val (.int (0 : Int32))] [(.int (1 : Int32))]))
    refine ogo (fun t k => XS.goto X37.here hx rfl (pc0 := 56) (pc' := 60) rfl (hb hby at_56) (by decide) (by decide) k) ?_
    show OwnEnds _ _ _ _ _ _ _ (T37.setTop (mkF m 60 #[.val (.int p0), .val (.int (6 : Int32)), .val (.ref w_S1), .val (.int (0 : Int32))] [(.int (1 : Int32))]))
    refine endZ X37 hx hlk Bd.returns rfl (hb hby at_60) (by decide) (by decide) ?_
    show Q0 Z p0 w_N1 w_N2 w_E2 w_S2 w_W2 w_E1 w_N3 w_W3 w_S3 w_W1 w_S1 w_E3 h0 n0 _ T37.heap _
    rw [e37]
    exact ⟨rfl, N37⟩
  · show OwnEnds _ _ _ _ _ _ _ (s₁.setTop (mkF m 7 #[.val (.int p0), .unset, .unset, .unset] [(.int (7 : Int32))]))
    refine ogo (fun t k => XS.istoreN X0.here hx rfl (hb hby at_7) rfl (l' := #[.val (.int p0), .val (.int (7 : Int32)), .unset, .unset]) rfl k) ?_
    show OwnEnds _ _ _ _ _ _ _ (s₁.setTop (mkF m 8 #[.val (.int p0), .val (.int (7 : Int32)), .unset, .unset] []))
    refine ogo (fun t k => XS.iloadN X0.here hx rfl (hb hby at_8) rfl k) ?_
    show OwnEnds _ _ _ _ _ _ _ (s₁.setTop (mkF m 9 #[.val (.int p0), .val (.int (7 : Int32)), .unset, .unset] [(.int (7 : Int32))]))
    obtain ⟨v38, _, ⟨T38, L38, k38, n38⟩, -, X38, ⟨Lc38, hQ38, l38, y38, z38⟩, st38⟩ := Jvm.LawKit.callS X0 hx (y := (⟨"com/example/ramparts/ramparts/tile/SegmentIsMiddlePinLaw", "pick", "(I)Lcom/example/ramparts/ramparts/tile/Segment;"⟩ : MethodName)) hown (mvT hZ (hw _ (List.mem_of_getElem? (i := 1) rfl))) (mvT hZ (hw _ (List.mem_of_getElem? (i := 2) rfl))) (mvT hZ (hw _ (List.mem_of_getElem? (i := 3) rfl))) (mvT hZ (hw _ (List.mem_of_getElem? (i := 4) rfl))) (by decide) (backOf (W := 0) (rm1 l Z a0 hw [] (7 : Int32) w_N1 w_N2 w_N3 w_E1 w_E2 w_E3 w_S1 w_S2 w_S3 w_W1 w_W2 w_W3 h0 n0 Z0 S_N1 S_N2 S_N3 S_E1 S_E2 S_E3 S_S1 S_S2 S_S3 S_W1 S_W2 S_W3) hZ (hw _ (List.mem_of_getElem? (i := 4) rfl)) (hw _ (List.mem_of_getElem? (i := 3) rfl)) (by decide) (by decide)) (g := (mkF m 9 #[.val (.int p0), .val (.int (7 : Int32)), .unset, .unset] [(.int (7 : Int32))])) rfl (by rw [hml]; rfl) (argsL := [(.int (7 : Int32))]) (rest := []) (lenOf pd__I_Lcom_example_ramparts_ramparts_tile_Segment_ rfl) rfl (by show 2 * 0 + _ ≤ _; exact Nat.le_of_eq rfl) (hb hby at_9) (fun _ _ => ⟨rfl, e0, (by decide : 0 + 0 ≤ _), (by decide : 0 + 0 ≤ _)⟩)
    dsimp only [Pt.U, Pt.locs, Pt.cells, Pt.slots] at X38 l38 y38 z38 st38 hQ38
    subst l38 y38 z38
    obtain ⟨hv38, N38q, e38⟩ := hQ38
    obtain rfl : v38 = some (.ref w_S2) := hv38.trans (by simp [own_pick])
    have N38 := Fr.app N0 N38q
    refine ogo (fun t k => st38 t k) ?_
    show OwnEnds _ _ _ _ _ _ _ (T38.setTop (mkF m 12 #[.val (.int p0), .val (.int (7 : Int32)), .unset, .unset] [(.ref w_S2)]))
    refine ogo (fun t k => XS.astoreN X38.here hx rfl (hb hby at_12) rfl rfl (l' := #[.val (.int p0), .val (.int (7 : Int32)), .val (.ref w_S2), .unset]) rfl k) ?_
    show OwnEnds _ _ _ _ _ _ _ (T38.setTop (mkF m 13 #[.val (.int p0), .val (.int (7 : Int32)), .val (.ref w_S2), .unset] []))
    refine ogo (fun t k => XS.aloadN X38.here hx rfl (hb hby at_13) rfl rfl k) ?_
    show OwnEnds _ _ _ _ _ _ _ (T38.setTop (mkF m 14 #[.val (.int p0), .val (.int (7 : Int32)), .val (.ref w_S2), .unset] [(.ref w_S2)]))
    obtain ⟨T39, X39, e39, st39⟩ := getS2 X38 hx hZ hown (host := "") (Or.inl (hw _ (List.mem_of_getElem? (i := 8) rfl))) Via.refl e38 S_N2 (g := (mkF m 14 #[.val (.int p0), .val (.int (7 : Int32)), .val (.ref w_S2), .unset] [(.ref w_S2)])) rfl (hb hby at_14)
    refine ogo st39 ?_
    show OwnEnds _ _ _ _ _ _ _ (T39.setTop (mkF m 17 #[.val (.int p0), .val (.int (7 : Int32)), .val (.ref w_S2), .unset] [(.ref w_N2), (.ref w_S2)]))
    refine ogo (fun t k => Jvm.RoadKit.acmp (g := (mkF m 17 #[.val (.int p0), .val (.int (7 : Int32)), .val (.ref w_S2), .unset] [(.ref w_N2), (.ref w_S2)])) X39 hx rfl rfl rfl (pc0 := 17) (pc' := 20) (same := false) rfl (hb hby at_17) rfl (decide_eq_false fun q => (Fld.ne F_ordinal_S2 F_ordinal_N2 (by simp)) (Value.ref.inj q)) (by decide) (by decide) k) ?_
    show OwnEnds _ _ _ _ _ _ _ (T39.setTop (mkF m 20 #[.val (.int p0), .val (.int (7 : Int32)), .val (.ref w_S2), .unset] []))
    refine ogo (fun t k => XS.aloadN X39.here hx rfl (hb hby at_20) rfl rfl k) ?_
    show OwnEnds _ _ _ _ _ _ _ (T39.setTop (mkF m 21 #[.val (.int p0), .val (.int (7 : Int32)), .val (.ref w_S2), .unset] [(.ref w_S2)]))
    obtain ⟨T40, X40, e40, st40⟩ := getS2 X39 hx hZ hown (host := "") (Or.inl (hw _ (List.mem_of_getElem? (i := 10) rfl))) Via.refl e39 S_E2 (g := (mkF m 21 #[.val (.int p0), .val (.int (7 : Int32)), .val (.ref w_S2), .unset] [(.ref w_S2)])) rfl (hb hby at_21)
    refine ogo st40 ?_
    show OwnEnds _ _ _ _ _ _ _ (T40.setTop (mkF m 24 #[.val (.int p0), .val (.int (7 : Int32)), .val (.ref w_S2), .unset] [(.ref w_E2), (.ref w_S2)]))
    refine ogo (fun t k => Jvm.RoadKit.acmp (g := (mkF m 24 #[.val (.int p0), .val (.int (7 : Int32)), .val (.ref w_S2), .unset] [(.ref w_E2), (.ref w_S2)])) X40 hx rfl rfl rfl (pc0 := 24) (pc' := 27) (same := false) rfl (hb hby at_24) rfl (decide_eq_false fun q => (Fld.ne F_ordinal_S2 F_ordinal_E2 (by simp)) (Value.ref.inj q)) (by decide) (by decide) k) ?_
    show OwnEnds _ _ _ _ _ _ _ (T40.setTop (mkF m 27 #[.val (.int p0), .val (.int (7 : Int32)), .val (.ref w_S2), .unset] []))
    refine ogo (fun t k => XS.aloadN X40.here hx rfl (hb hby at_27) rfl rfl k) ?_
    show OwnEnds _ _ _ _ _ _ _ (T40.setTop (mkF m 28 #[.val (.int p0), .val (.int (7 : Int32)), .val (.ref w_S2), .unset] [(.ref w_S2)]))
    obtain ⟨T41, X41, e41, st41⟩ := getS2 X40 hx hZ hown (host := "") (Or.inl (hw _ (List.mem_of_getElem? (i := 12) rfl))) Via.refl e40 S_S2 (g := (mkF m 28 #[.val (.int p0), .val (.int (7 : Int32)), .val (.ref w_S2), .unset] [(.ref w_S2)])) rfl (hb hby at_28)
    refine ogo st41 ?_
    show OwnEnds _ _ _ _ _ _ _ (T41.setTop (mkF m 31 #[.val (.int p0), .val (.int (7 : Int32)), .val (.ref w_S2), .unset] [(.ref w_S2), (.ref w_S2)]))
    refine ogo (fun t k => Jvm.RoadKit.acmp (g := (mkF m 31 #[.val (.int p0), .val (.int (7 : Int32)), .val (.ref w_S2), .unset] [(.ref w_S2), (.ref w_S2)])) X41 hx rfl rfl rfl (pc0 := 31) (pc' := 41) (same := true) rfl (hb hby at_31) rfl (decide_eq_true (congrArg Value.ref rfl)) (by decide) (by decide) k) ?_
    show OwnEnds _ _ _ _ _ _ _ (T41.setTop (mkF m 41 #[.val (.int p0), .val (.int (7 : Int32)), .val (.ref w_S2), .unset] []))
    refine ogo (fun t k => XS.iconst X41.here hx rfl (hb hby at_41) k) ?_
    show OwnEnds _ _ _ _ _ _ _ (T41.setTop (mkF m 42 #[.val (.int p0), .val (.int (7 : Int32)), .val (.ref w_S2), .unset] [(.int (1 : Int32))]))
    refine ogo (fun t k => XS.goto X41.here hx rfl (pc0 := 42) (pc' := 46) rfl (hb hby at_42) (by decide) (by decide) k) ?_
    show OwnEnds _ _ _ _ _ _ _ (T41.setTop (mkF m 46 #[.val (.int p0), .val (.int (7 : Int32)), .val (.ref w_S2), .unset] [(.int (1 : Int32))]))
    refine ogo (fun t k => XS.istoreN X41.here hx rfl (hb hby at_46) rfl (l' := #[.val (.int p0), .val (.int (7 : Int32)), .val (.ref w_S2), .val (.int (1 : Int32))]) rfl k) ?_
    show OwnEnds _ _ _ _ _ _ _ (T41.setTop (mkF m 47 #[.val (.int p0), .val (.int (7 : Int32)), .val (.ref w_S2), .val (.int (1 : Int32))] []))
    refine ogo (fun t k => XS.aloadN X41.here hx rfl (hb hby at_47) rfl rfl k) ?_
    show OwnEnds _ _ _ _ _ _ _ (T41.setTop (mkF m 48 #[.val (.int p0), .val (.int (7 : Int32)), .val (.ref w_S2), .val (.int (1 : Int32))] [(.ref w_S2)]))
    obtain ⟨cq42, kq42, q42a, q42b, q42c⟩ := isOf hZ e41 E_S2
    obtain ⟨v42, _, ⟨T42, L42, k42, n42⟩, -, X42, ⟨Lc42, hQ42, l42, y42, z42⟩, st42⟩ := X41.virtualBack hx (y := (⟨"com/example/ramparts/ramparts/tile/Segment", "isMiddle", "()Z"⟩ : MethodName)) (z := (⟨"com/example/ramparts/ramparts/tile/Segment", "isMiddle", "()Z"⟩ : MethodName)) hown (mvT hZ (hw _ (List.mem_of_getElem? (i := 16) rfl))) (mvT hZ (hw _ (List.mem_of_getElem? (i := 17) rfl))) (notFace_of_selects (args := #[]) (mvT hZ (hw _ (List.mem_of_getElem? (i := 19) rfl)))) (mvT hZ (hw _ (List.mem_of_getElem? (i := 19) rfl))) (mvT hZ (hw _ (List.mem_of_getElem? (i := 18) rfl))) (by decide) (backOf (W := 0) (rm3 l Z a0 hw [] w_S2 (7 : Int32) h0 n0 Z0 F_ordinal_S2 E_S2) hZ (hw _ (List.mem_of_getElem? (i := 20) rfl)) (hw _ (List.mem_of_getElem? (i := 6) rfl)) (by decide) (by decide)) q42a q42c (g := (mkF m 48 #[.val (.int p0), .val (.int (7 : Int32)), .val (.ref w_S2), .val (.int (1 : Int32))] [(.ref w_S2)])) rfl (by rw [hml]; rfl) (Steps.refl _) (argsL := []) (rest := []) (lenOf pd___Z rfl) rfl (by show 2 * 0 + _ ≤ _; exact Nat.le_of_eq rfl) (hb hby at_48) (fun _ _ => ⟨rfl, e41, (by decide : 0 + 0 ≤ _), (by decide : 0 + 0 ≤ _)⟩)
    dsimp only [Pt.U, Pt.locs, Pt.cells, Pt.slots] at X42 l42 y42 z42 st42 hQ42
    subst l42 y42 z42
    obtain ⟨hv42, N42q, e42⟩ := hQ42
    obtain rfl : v42 = some (.int (1 : Int32)) := hv42.trans (by decide)
    have N42 := Fr.app N38 N42q
    refine ogo (fun t k => st42.trans k) ?_
    show OwnEnds _ _ _ _ _ _ _ (T42.setTop (mkF m 51 #[.val (.int p0), .val (.int (7 : Int32)), .val (.ref w_S2), .val (.int (1 : Int32))] [(.int (1 : Int32))]))
    refine ogo (fun t k => XS.iloadN X42.here hx rfl (hb hby at_51) rfl k) ?_
    show OwnEnds _ _ _ _ _ _ _ (T42.setTop (mkF m 52 #[.val (.int p0), .val (.int (7 : Int32)), .val (.ref w_S2), .val (.int (1 : Int32))] [(.int (1 : Int32)), (.int (1 : Int32))]))
    refine ogo (fun t k => XS.icmpNo X42.here hx rfl (hb hby at_52) rfl (teq (by decide : (1 : Int32) = (1 : Int32))).2 k) ?_
    show OwnEnds _ _ _ _ _ _ _ (T42.setTop (mkF m 55 #[.val (.int p0), .val (.int (7 : Int32)), .val (.ref w_S2), .val (.int (1 : Int32))] []))
    refine ogo (fun t k => XS.iconst X42.here hx rfl (hb hby at_55) k) ?_
    show OwnEnds _ _ _ _ _ _ _ (T42.setTop (mkF m 56 #[.val (.int p0), .val (.int (7 : Int32)), .val (.ref w_S2), .val (.int (1 : Int32))] [(.int (1 : Int32))]))
    refine ogo (fun t k => XS.goto X42.here hx rfl (pc0 := 56) (pc' := 60) rfl (hb hby at_56) (by decide) (by decide) k) ?_
    show OwnEnds _ _ _ _ _ _ _ (T42.setTop (mkF m 60 #[.val (.int p0), .val (.int (7 : Int32)), .val (.ref w_S2), .val (.int (1 : Int32))] [(.int (1 : Int32))]))
    refine endZ X42 hx hlk Bd.returns rfl (hb hby at_60) (by decide) (by decide) ?_
    show Q0 Z p0 w_N1 w_N2 w_E2 w_S2 w_W2 w_E1 w_N3 w_W3 w_S3 w_W1 w_S1 w_E3 h0 n0 _ T42.heap _
    rw [e42]
    exact ⟨rfl, N42⟩
  · show OwnEnds _ _ _ _ _ _ _ (s₁.setTop (mkF m 7 #[.val (.int p0), .unset, .unset, .unset] [(.int (8 : Int32))]))
    refine ogo (fun t k => XS.istoreN X0.here hx rfl (hb hby at_7) rfl (l' := #[.val (.int p0), .val (.int (8 : Int32)), .unset, .unset]) rfl k) ?_
    show OwnEnds _ _ _ _ _ _ _ (s₁.setTop (mkF m 8 #[.val (.int p0), .val (.int (8 : Int32)), .unset, .unset] []))
    refine ogo (fun t k => XS.iloadN X0.here hx rfl (hb hby at_8) rfl k) ?_
    show OwnEnds _ _ _ _ _ _ _ (s₁.setTop (mkF m 9 #[.val (.int p0), .val (.int (8 : Int32)), .unset, .unset] [(.int (8 : Int32))]))
    obtain ⟨v43, _, ⟨T43, L43, k43, n43⟩, -, X43, ⟨Lc43, hQ43, l43, y43, z43⟩, st43⟩ := Jvm.LawKit.callS X0 hx (y := (⟨"com/example/ramparts/ramparts/tile/SegmentIsMiddlePinLaw", "pick", "(I)Lcom/example/ramparts/ramparts/tile/Segment;"⟩ : MethodName)) hown (mvT hZ (hw _ (List.mem_of_getElem? (i := 1) rfl))) (mvT hZ (hw _ (List.mem_of_getElem? (i := 2) rfl))) (mvT hZ (hw _ (List.mem_of_getElem? (i := 3) rfl))) (mvT hZ (hw _ (List.mem_of_getElem? (i := 4) rfl))) (by decide) (backOf (W := 0) (rm1 l Z a0 hw [] (8 : Int32) w_N1 w_N2 w_N3 w_E1 w_E2 w_E3 w_S1 w_S2 w_S3 w_W1 w_W2 w_W3 h0 n0 Z0 S_N1 S_N2 S_N3 S_E1 S_E2 S_E3 S_S1 S_S2 S_S3 S_W1 S_W2 S_W3) hZ (hw _ (List.mem_of_getElem? (i := 4) rfl)) (hw _ (List.mem_of_getElem? (i := 3) rfl)) (by decide) (by decide)) (g := (mkF m 9 #[.val (.int p0), .val (.int (8 : Int32)), .unset, .unset] [(.int (8 : Int32))])) rfl (by rw [hml]; rfl) (argsL := [(.int (8 : Int32))]) (rest := []) (lenOf pd__I_Lcom_example_ramparts_ramparts_tile_Segment_ rfl) rfl (by show 2 * 0 + _ ≤ _; exact Nat.le_of_eq rfl) (hb hby at_9) (fun _ _ => ⟨rfl, e0, (by decide : 0 + 0 ≤ _), (by decide : 0 + 0 ≤ _)⟩)
    dsimp only [Pt.U, Pt.locs, Pt.cells, Pt.slots] at X43 l43 y43 z43 st43 hQ43
    subst l43 y43 z43
    obtain ⟨hv43, N43q, e43⟩ := hQ43
    obtain rfl : v43 = some (.ref w_S3) := hv43.trans (by simp [own_pick])
    have N43 := Fr.app N0 N43q
    refine ogo (fun t k => st43 t k) ?_
    show OwnEnds _ _ _ _ _ _ _ (T43.setTop (mkF m 12 #[.val (.int p0), .val (.int (8 : Int32)), .unset, .unset] [(.ref w_S3)]))
    refine ogo (fun t k => XS.astoreN X43.here hx rfl (hb hby at_12) rfl rfl (l' := #[.val (.int p0), .val (.int (8 : Int32)), .val (.ref w_S3), .unset]) rfl k) ?_
    show OwnEnds _ _ _ _ _ _ _ (T43.setTop (mkF m 13 #[.val (.int p0), .val (.int (8 : Int32)), .val (.ref w_S3), .unset] []))
    refine ogo (fun t k => XS.aloadN X43.here hx rfl (hb hby at_13) rfl rfl k) ?_
    show OwnEnds _ _ _ _ _ _ _ (T43.setTop (mkF m 14 #[.val (.int p0), .val (.int (8 : Int32)), .val (.ref w_S3), .unset] [(.ref w_S3)]))
    obtain ⟨T44, X44, e44, st44⟩ := getS2 X43 hx hZ hown (host := "") (Or.inl (hw _ (List.mem_of_getElem? (i := 8) rfl))) Via.refl e43 S_N2 (g := (mkF m 14 #[.val (.int p0), .val (.int (8 : Int32)), .val (.ref w_S3), .unset] [(.ref w_S3)])) rfl (hb hby at_14)
    refine ogo st44 ?_
    show OwnEnds _ _ _ _ _ _ _ (T44.setTop (mkF m 17 #[.val (.int p0), .val (.int (8 : Int32)), .val (.ref w_S3), .unset] [(.ref w_N2), (.ref w_S3)]))
    refine ogo (fun t k => Jvm.RoadKit.acmp (g := (mkF m 17 #[.val (.int p0), .val (.int (8 : Int32)), .val (.ref w_S3), .unset] [(.ref w_N2), (.ref w_S3)])) X44 hx rfl rfl rfl (pc0 := 17) (pc' := 20) (same := false) rfl (hb hby at_17) rfl (decide_eq_false fun q => (Fld.ne F_ordinal_S3 F_ordinal_N2 (by simp)) (Value.ref.inj q)) (by decide) (by decide) k) ?_
    show OwnEnds _ _ _ _ _ _ _ (T44.setTop (mkF m 20 #[.val (.int p0), .val (.int (8 : Int32)), .val (.ref w_S3), .unset] []))
    refine ogo (fun t k => XS.aloadN X44.here hx rfl (hb hby at_20) rfl rfl k) ?_
    show OwnEnds _ _ _ _ _ _ _ (T44.setTop (mkF m 21 #[.val (.int p0), .val (.int (8 : Int32)), .val (.ref w_S3), .unset] [(.ref w_S3)]))
    obtain ⟨T45, X45, e45, st45⟩ := getS2 X44 hx hZ hown (host := "") (Or.inl (hw _ (List.mem_of_getElem? (i := 10) rfl))) Via.refl e44 S_E2 (g := (mkF m 21 #[.val (.int p0), .val (.int (8 : Int32)), .val (.ref w_S3), .unset] [(.ref w_S3)])) rfl (hb hby at_21)
    refine ogo st45 ?_
    show OwnEnds _ _ _ _ _ _ _ (T45.setTop (mkF m 24 #[.val (.int p0), .val (.int (8 : Int32)), .val (.ref w_S3), .unset] [(.ref w_E2), (.ref w_S3)]))
    refine ogo (fun t k => Jvm.RoadKit.acmp (g := (mkF m 24 #[.val (.int p0), .val (.int (8 : Int32)), .val (.ref w_S3), .unset] [(.ref w_E2), (.ref w_S3)])) X45 hx rfl rfl rfl (pc0 := 24) (pc' := 27) (same := false) rfl (hb hby at_24) rfl (decide_eq_false fun q => (Fld.ne F_ordinal_S3 F_ordinal_E2 (by simp)) (Value.ref.inj q)) (by decide) (by decide) k) ?_
    show OwnEnds _ _ _ _ _ _ _ (T45.setTop (mkF m 27 #[.val (.int p0), .val (.int (8 : Int32)), .val (.ref w_S3), .unset] []))
    refine ogo (fun t k => XS.aloadN X45.here hx rfl (hb hby at_27) rfl rfl k) ?_
    show OwnEnds _ _ _ _ _ _ _ (T45.setTop (mkF m 28 #[.val (.int p0), .val (.int (8 : Int32)), .val (.ref w_S3), .unset] [(.ref w_S3)]))
    obtain ⟨T46, X46, e46, st46⟩ := getS2 X45 hx hZ hown (host := "") (Or.inl (hw _ (List.mem_of_getElem? (i := 12) rfl))) Via.refl e45 S_S2 (g := (mkF m 28 #[.val (.int p0), .val (.int (8 : Int32)), .val (.ref w_S3), .unset] [(.ref w_S3)])) rfl (hb hby at_28)
    refine ogo st46 ?_
    show OwnEnds _ _ _ _ _ _ _ (T46.setTop (mkF m 31 #[.val (.int p0), .val (.int (8 : Int32)), .val (.ref w_S3), .unset] [(.ref w_S2), (.ref w_S3)]))
    refine ogo (fun t k => Jvm.RoadKit.acmp (g := (mkF m 31 #[.val (.int p0), .val (.int (8 : Int32)), .val (.ref w_S3), .unset] [(.ref w_S2), (.ref w_S3)])) X46 hx rfl rfl rfl (pc0 := 31) (pc' := 34) (same := false) rfl (hb hby at_31) rfl (decide_eq_false fun q => (Fld.ne F_ordinal_S3 F_ordinal_S2 (by simp)) (Value.ref.inj q)) (by decide) (by decide) k) ?_
    show OwnEnds _ _ _ _ _ _ _ (T46.setTop (mkF m 34 #[.val (.int p0), .val (.int (8 : Int32)), .val (.ref w_S3), .unset] []))
    refine ogo (fun t k => XS.aloadN X46.here hx rfl (hb hby at_34) rfl rfl k) ?_
    show OwnEnds _ _ _ _ _ _ _ (T46.setTop (mkF m 35 #[.val (.int p0), .val (.int (8 : Int32)), .val (.ref w_S3), .unset] [(.ref w_S3)]))
    obtain ⟨T47, X47, e47, st47⟩ := getS2 X46 hx hZ hown (host := "") (Or.inl (hw _ (List.mem_of_getElem? (i := 14) rfl))) Via.refl e46 S_W2 (g := (mkF m 35 #[.val (.int p0), .val (.int (8 : Int32)), .val (.ref w_S3), .unset] [(.ref w_S3)])) rfl (hb hby at_35)
    refine ogo st47 ?_
    show OwnEnds _ _ _ _ _ _ _ (T47.setTop (mkF m 38 #[.val (.int p0), .val (.int (8 : Int32)), .val (.ref w_S3), .unset] [(.ref w_W2), (.ref w_S3)]))
    refine ogo (fun t k => Jvm.RoadKit.acmp (g := (mkF m 38 #[.val (.int p0), .val (.int (8 : Int32)), .val (.ref w_S3), .unset] [(.ref w_W2), (.ref w_S3)])) X47 hx rfl rfl rfl (pc0 := 38) (pc' := 45) (same := false) rfl (hb hby at_38) rfl (decide_eq_false fun q => (Fld.ne F_ordinal_S3 F_ordinal_W2 (by simp)) (Value.ref.inj q)) (by decide) (by decide) k) ?_
    show OwnEnds _ _ _ _ _ _ _ (T47.setTop (mkF m 45 #[.val (.int p0), .val (.int (8 : Int32)), .val (.ref w_S3), .unset] []))
    refine ogo (fun t k => XS.iconst X47.here hx rfl (hb hby at_45) k) ?_
    show OwnEnds _ _ _ _ _ _ _ (T47.setTop (mkF m 46 #[.val (.int p0), .val (.int (8 : Int32)), .val (.ref w_S3), .unset] [(.int (0 : Int32))]))
    refine ogo (fun t k => XS.istoreN X47.here hx rfl (hb hby at_46) rfl (l' := #[.val (.int p0), .val (.int (8 : Int32)), .val (.ref w_S3), .val (.int (0 : Int32))]) rfl k) ?_
    show OwnEnds _ _ _ _ _ _ _ (T47.setTop (mkF m 47 #[.val (.int p0), .val (.int (8 : Int32)), .val (.ref w_S3), .val (.int (0 : Int32))] []))
    refine ogo (fun t k => XS.aloadN X47.here hx rfl (hb hby at_47) rfl rfl k) ?_
    show OwnEnds _ _ _ _ _ _ _ (T47.setTop (mkF m 48 #[.val (.int p0), .val (.int (8 : Int32)), .val (.ref w_S3), .val (.int (0 : Int32))] [(.ref w_S3)]))
    obtain ⟨cq48, kq48, q48a, q48b, q48c⟩ := isOf hZ e47 E_S3
    obtain ⟨v48, _, ⟨T48, L48, k48, n48⟩, -, X48, ⟨Lc48, hQ48, l48, y48, z48⟩, st48⟩ := X47.virtualBack hx (y := (⟨"com/example/ramparts/ramparts/tile/Segment", "isMiddle", "()Z"⟩ : MethodName)) (z := (⟨"com/example/ramparts/ramparts/tile/Segment", "isMiddle", "()Z"⟩ : MethodName)) hown (mvT hZ (hw _ (List.mem_of_getElem? (i := 16) rfl))) (mvT hZ (hw _ (List.mem_of_getElem? (i := 17) rfl))) (notFace_of_selects (args := #[]) (mvT hZ (hw _ (List.mem_of_getElem? (i := 19) rfl)))) (mvT hZ (hw _ (List.mem_of_getElem? (i := 19) rfl))) (mvT hZ (hw _ (List.mem_of_getElem? (i := 18) rfl))) (by decide) (backOf (W := 0) (rm3 l Z a0 hw [] w_S3 (8 : Int32) h0 n0 Z0 F_ordinal_S3 E_S3) hZ (hw _ (List.mem_of_getElem? (i := 20) rfl)) (hw _ (List.mem_of_getElem? (i := 6) rfl)) (by decide) (by decide)) q48a q48c (g := (mkF m 48 #[.val (.int p0), .val (.int (8 : Int32)), .val (.ref w_S3), .val (.int (0 : Int32))] [(.ref w_S3)])) rfl (by rw [hml]; rfl) (Steps.refl _) (argsL := []) (rest := []) (lenOf pd___Z rfl) rfl (by show 2 * 0 + _ ≤ _; exact Nat.le_of_eq rfl) (hb hby at_48) (fun _ _ => ⟨rfl, e47, (by decide : 0 + 0 ≤ _), (by decide : 0 + 0 ≤ _)⟩)
    dsimp only [Pt.U, Pt.locs, Pt.cells, Pt.slots] at X48 l48 y48 z48 st48 hQ48
    subst l48 y48 z48
    obtain ⟨hv48, N48q, e48⟩ := hQ48
    obtain rfl : v48 = some (.int (0 : Int32)) := hv48.trans (by decide)
    have N48 := Fr.app N43 N48q
    refine ogo (fun t k => st48.trans k) ?_
    show OwnEnds _ _ _ _ _ _ _ (T48.setTop (mkF m 51 #[.val (.int p0), .val (.int (8 : Int32)), .val (.ref w_S3), .val (.int (0 : Int32))] [(.int (0 : Int32))]))
    refine ogo (fun t k => XS.iloadN X48.here hx rfl (hb hby at_51) rfl k) ?_
    show OwnEnds _ _ _ _ _ _ _ (T48.setTop (mkF m 52 #[.val (.int p0), .val (.int (8 : Int32)), .val (.ref w_S3), .val (.int (0 : Int32))] [(.int (0 : Int32)), (.int (0 : Int32))]))
    refine ogo (fun t k => XS.icmpNo X48.here hx rfl (hb hby at_52) rfl (teq (by decide : (0 : Int32) = (0 : Int32))).2 k) ?_
    show OwnEnds _ _ _ _ _ _ _ (T48.setTop (mkF m 55 #[.val (.int p0), .val (.int (8 : Int32)), .val (.ref w_S3), .val (.int (0 : Int32))] []))
    refine ogo (fun t k => XS.iconst X48.here hx rfl (hb hby at_55) k) ?_
    show OwnEnds _ _ _ _ _ _ _ (T48.setTop (mkF m 56 #[.val (.int p0), .val (.int (8 : Int32)), .val (.ref w_S3), .val (.int (0 : Int32))] [(.int (1 : Int32))]))
    refine ogo (fun t k => XS.goto X48.here hx rfl (pc0 := 56) (pc' := 60) rfl (hb hby at_56) (by decide) (by decide) k) ?_
    show OwnEnds _ _ _ _ _ _ _ (T48.setTop (mkF m 60 #[.val (.int p0), .val (.int (8 : Int32)), .val (.ref w_S3), .val (.int (0 : Int32))] [(.int (1 : Int32))]))
    refine endZ X48 hx hlk Bd.returns rfl (hb hby at_60) (by decide) (by decide) ?_
    show Q0 Z p0 w_N1 w_N2 w_E2 w_S2 w_W2 w_E1 w_N3 w_W3 w_S3 w_W1 w_S1 w_E3 h0 n0 _ T48.heap _
    rw [e48]
    exact ⟨rfl, N48⟩
  · show OwnEnds _ _ _ _ _ _ _ (s₁.setTop (mkF m 7 #[.val (.int p0), .unset, .unset, .unset] [(.int (9 : Int32))]))
    refine ogo (fun t k => XS.istoreN X0.here hx rfl (hb hby at_7) rfl (l' := #[.val (.int p0), .val (.int (9 : Int32)), .unset, .unset]) rfl k) ?_
    show OwnEnds _ _ _ _ _ _ _ (s₁.setTop (mkF m 8 #[.val (.int p0), .val (.int (9 : Int32)), .unset, .unset] []))
    refine ogo (fun t k => XS.iloadN X0.here hx rfl (hb hby at_8) rfl k) ?_
    show OwnEnds _ _ _ _ _ _ _ (s₁.setTop (mkF m 9 #[.val (.int p0), .val (.int (9 : Int32)), .unset, .unset] [(.int (9 : Int32))]))
    obtain ⟨v49, _, ⟨T49, L49, k49, n49⟩, -, X49, ⟨Lc49, hQ49, l49, y49, z49⟩, st49⟩ := Jvm.LawKit.callS X0 hx (y := (⟨"com/example/ramparts/ramparts/tile/SegmentIsMiddlePinLaw", "pick", "(I)Lcom/example/ramparts/ramparts/tile/Segment;"⟩ : MethodName)) hown (mvT hZ (hw _ (List.mem_of_getElem? (i := 1) rfl))) (mvT hZ (hw _ (List.mem_of_getElem? (i := 2) rfl))) (mvT hZ (hw _ (List.mem_of_getElem? (i := 3) rfl))) (mvT hZ (hw _ (List.mem_of_getElem? (i := 4) rfl))) (by decide) (backOf (W := 0) (rm1 l Z a0 hw [] (9 : Int32) w_N1 w_N2 w_N3 w_E1 w_E2 w_E3 w_S1 w_S2 w_S3 w_W1 w_W2 w_W3 h0 n0 Z0 S_N1 S_N2 S_N3 S_E1 S_E2 S_E3 S_S1 S_S2 S_S3 S_W1 S_W2 S_W3) hZ (hw _ (List.mem_of_getElem? (i := 4) rfl)) (hw _ (List.mem_of_getElem? (i := 3) rfl)) (by decide) (by decide)) (g := (mkF m 9 #[.val (.int p0), .val (.int (9 : Int32)), .unset, .unset] [(.int (9 : Int32))])) rfl (by rw [hml]; rfl) (argsL := [(.int (9 : Int32))]) (rest := []) (lenOf pd__I_Lcom_example_ramparts_ramparts_tile_Segment_ rfl) rfl (by show 2 * 0 + _ ≤ _; exact Nat.le_of_eq rfl) (hb hby at_9) (fun _ _ => ⟨rfl, e0, (by decide : 0 + 0 ≤ _), (by decide : 0 + 0 ≤ _)⟩)
    dsimp only [Pt.U, Pt.locs, Pt.cells, Pt.slots] at X49 l49 y49 z49 st49 hQ49
    subst l49 y49 z49
    obtain ⟨hv49, N49q, e49⟩ := hQ49
    obtain rfl : v49 = some (.ref w_W1) := hv49.trans (by simp [own_pick])
    have N49 := Fr.app N0 N49q
    refine ogo (fun t k => st49 t k) ?_
    show OwnEnds _ _ _ _ _ _ _ (T49.setTop (mkF m 12 #[.val (.int p0), .val (.int (9 : Int32)), .unset, .unset] [(.ref w_W1)]))
    refine ogo (fun t k => XS.astoreN X49.here hx rfl (hb hby at_12) rfl rfl (l' := #[.val (.int p0), .val (.int (9 : Int32)), .val (.ref w_W1), .unset]) rfl k) ?_
    show OwnEnds _ _ _ _ _ _ _ (T49.setTop (mkF m 13 #[.val (.int p0), .val (.int (9 : Int32)), .val (.ref w_W1), .unset] []))
    refine ogo (fun t k => XS.aloadN X49.here hx rfl (hb hby at_13) rfl rfl k) ?_
    show OwnEnds _ _ _ _ _ _ _ (T49.setTop (mkF m 14 #[.val (.int p0), .val (.int (9 : Int32)), .val (.ref w_W1), .unset] [(.ref w_W1)]))
    obtain ⟨T50, X50, e50, st50⟩ := getS2 X49 hx hZ hown (host := "") (Or.inl (hw _ (List.mem_of_getElem? (i := 8) rfl))) Via.refl e49 S_N2 (g := (mkF m 14 #[.val (.int p0), .val (.int (9 : Int32)), .val (.ref w_W1), .unset] [(.ref w_W1)])) rfl (hb hby at_14)
    refine ogo st50 ?_
    show OwnEnds _ _ _ _ _ _ _ (T50.setTop (mkF m 17 #[.val (.int p0), .val (.int (9 : Int32)), .val (.ref w_W1), .unset] [(.ref w_N2), (.ref w_W1)]))
    refine ogo (fun t k => Jvm.RoadKit.acmp (g := (mkF m 17 #[.val (.int p0), .val (.int (9 : Int32)), .val (.ref w_W1), .unset] [(.ref w_N2), (.ref w_W1)])) X50 hx rfl rfl rfl (pc0 := 17) (pc' := 20) (same := false) rfl (hb hby at_17) rfl (decide_eq_false fun q => (Fld.ne F_ordinal_W1 F_ordinal_N2 (by simp)) (Value.ref.inj q)) (by decide) (by decide) k) ?_
    show OwnEnds _ _ _ _ _ _ _ (T50.setTop (mkF m 20 #[.val (.int p0), .val (.int (9 : Int32)), .val (.ref w_W1), .unset] []))
    refine ogo (fun t k => XS.aloadN X50.here hx rfl (hb hby at_20) rfl rfl k) ?_
    show OwnEnds _ _ _ _ _ _ _ (T50.setTop (mkF m 21 #[.val (.int p0), .val (.int (9 : Int32)), .val (.ref w_W1), .unset] [(.ref w_W1)]))
    obtain ⟨T51, X51, e51, st51⟩ := getS2 X50 hx hZ hown (host := "") (Or.inl (hw _ (List.mem_of_getElem? (i := 10) rfl))) Via.refl e50 S_E2 (g := (mkF m 21 #[.val (.int p0), .val (.int (9 : Int32)), .val (.ref w_W1), .unset] [(.ref w_W1)])) rfl (hb hby at_21)
    refine ogo st51 ?_
    show OwnEnds _ _ _ _ _ _ _ (T51.setTop (mkF m 24 #[.val (.int p0), .val (.int (9 : Int32)), .val (.ref w_W1), .unset] [(.ref w_E2), (.ref w_W1)]))
    refine ogo (fun t k => Jvm.RoadKit.acmp (g := (mkF m 24 #[.val (.int p0), .val (.int (9 : Int32)), .val (.ref w_W1), .unset] [(.ref w_E2), (.ref w_W1)])) X51 hx rfl rfl rfl (pc0 := 24) (pc' := 27) (same := false) rfl (hb hby at_24) rfl (decide_eq_false fun q => (Fld.ne F_ordinal_W1 F_ordinal_E2 (by simp)) (Value.ref.inj q)) (by decide) (by decide) k) ?_
    show OwnEnds _ _ _ _ _ _ _ (T51.setTop (mkF m 27 #[.val (.int p0), .val (.int (9 : Int32)), .val (.ref w_W1), .unset] []))
    refine ogo (fun t k => XS.aloadN X51.here hx rfl (hb hby at_27) rfl rfl k) ?_
    show OwnEnds _ _ _ _ _ _ _ (T51.setTop (mkF m 28 #[.val (.int p0), .val (.int (9 : Int32)), .val (.ref w_W1), .unset] [(.ref w_W1)]))
    obtain ⟨T52, X52, e52, st52⟩ := getS2 X51 hx hZ hown (host := "") (Or.inl (hw _ (List.mem_of_getElem? (i := 12) rfl))) Via.refl e51 S_S2 (g := (mkF m 28 #[.val (.int p0), .val (.int (9 : Int32)), .val (.ref w_W1), .unset] [(.ref w_W1)])) rfl (hb hby at_28)
    refine ogo st52 ?_
    show OwnEnds _ _ _ _ _ _ _ (T52.setTop (mkF m 31 #[.val (.int p0), .val (.int (9 : Int32)), .val (.ref w_W1), .unset] [(.ref w_S2), (.ref w_W1)]))
    refine ogo (fun t k => Jvm.RoadKit.acmp (g := (mkF m 31 #[.val (.int p0), .val (.int (9 : Int32)), .val (.ref w_W1), .unset] [(.ref w_S2), (.ref w_W1)])) X52 hx rfl rfl rfl (pc0 := 31) (pc' := 34) (same := false) rfl (hb hby at_31) rfl (decide_eq_false fun q => (Fld.ne F_ordinal_W1 F_ordinal_S2 (by simp)) (Value.ref.inj q)) (by decide) (by decide) k) ?_
    show OwnEnds _ _ _ _ _ _ _ (T52.setTop (mkF m 34 #[.val (.int p0), .val (.int (9 : Int32)), .val (.ref w_W1), .unset] []))
    refine ogo (fun t k => XS.aloadN X52.here hx rfl (hb hby at_34) rfl rfl k) ?_
    show OwnEnds _ _ _ _ _ _ _ (T52.setTop (mkF m 35 #[.val (.int p0), .val (.int (9 : Int32)), .val (.ref w_W1), .unset] [(.ref w_W1)]))
    obtain ⟨T53, X53, e53, st53⟩ := getS2 X52 hx hZ hown (host := "") (Or.inl (hw _ (List.mem_of_getElem? (i := 14) rfl))) Via.refl e52 S_W2 (g := (mkF m 35 #[.val (.int p0), .val (.int (9 : Int32)), .val (.ref w_W1), .unset] [(.ref w_W1)])) rfl (hb hby at_35)
    refine ogo st53 ?_
    show OwnEnds _ _ _ _ _ _ _ (T53.setTop (mkF m 38 #[.val (.int p0), .val (.int (9 : Int32)), .val (.ref w_W1), .unset] [(.ref w_W2), (.ref w_W1)]))
    refine ogo (fun t k => Jvm.RoadKit.acmp (g := (mkF m 38 #[.val (.int p0), .val (.int (9 : Int32)), .val (.ref w_W1), .unset] [(.ref w_W2), (.ref w_W1)])) X53 hx rfl rfl rfl (pc0 := 38) (pc' := 45) (same := false) rfl (hb hby at_38) rfl (decide_eq_false fun q => (Fld.ne F_ordinal_W1 F_ordinal_W2 (by simp)) (Value.ref.inj q)) (by decide) (by decide) k) ?_
    show OwnEnds _ _ _ _ _ _ _ (T53.setTop (mkF m 45 #[.val (.int p0), .val (.int (9 : Int32)), .val (.ref w_W1), .unset] []))
    refine ogo (fun t k => XS.iconst X53.here hx rfl (hb hby at_45) k) ?_
    show OwnEnds _ _ _ _ _ _ _ (T53.setTop (mkF m 46 #[.val (.int p0), .val (.int (9 : Int32)), .val (.ref w_W1), .unset] [(.int (0 : Int32))]))
    refine ogo (fun t k => XS.istoreN X53.here hx rfl (hb hby at_46) rfl (l' := #[.val (.int p0), .val (.int (9 : Int32)), .val (.ref w_W1), .val (.int (0 : Int32))]) rfl k) ?_
    show OwnEnds _ _ _ _ _ _ _ (T53.setTop (mkF m 47 #[.val (.int p0), .val (.int (9 : Int32)), .val (.ref w_W1), .val (.int (0 : Int32))] []))
    refine ogo (fun t k => XS.aloadN X53.here hx rfl (hb hby at_47) rfl rfl k) ?_
    show OwnEnds _ _ _ _ _ _ _ (T53.setTop (mkF m 48 #[.val (.int p0), .val (.int (9 : Int32)), .val (.ref w_W1), .val (.int (0 : Int32))] [(.ref w_W1)]))
    obtain ⟨cq54, kq54, q54a, q54b, q54c⟩ := isOf hZ e53 E_W1
    obtain ⟨v54, _, ⟨T54, L54, k54, n54⟩, -, X54, ⟨Lc54, hQ54, l54, y54, z54⟩, st54⟩ := X53.virtualBack hx (y := (⟨"com/example/ramparts/ramparts/tile/Segment", "isMiddle", "()Z"⟩ : MethodName)) (z := (⟨"com/example/ramparts/ramparts/tile/Segment", "isMiddle", "()Z"⟩ : MethodName)) hown (mvT hZ (hw _ (List.mem_of_getElem? (i := 16) rfl))) (mvT hZ (hw _ (List.mem_of_getElem? (i := 17) rfl))) (notFace_of_selects (args := #[]) (mvT hZ (hw _ (List.mem_of_getElem? (i := 19) rfl)))) (mvT hZ (hw _ (List.mem_of_getElem? (i := 19) rfl))) (mvT hZ (hw _ (List.mem_of_getElem? (i := 18) rfl))) (by decide) (backOf (W := 0) (rm3 l Z a0 hw [] w_W1 (9 : Int32) h0 n0 Z0 F_ordinal_W1 E_W1) hZ (hw _ (List.mem_of_getElem? (i := 20) rfl)) (hw _ (List.mem_of_getElem? (i := 6) rfl)) (by decide) (by decide)) q54a q54c (g := (mkF m 48 #[.val (.int p0), .val (.int (9 : Int32)), .val (.ref w_W1), .val (.int (0 : Int32))] [(.ref w_W1)])) rfl (by rw [hml]; rfl) (Steps.refl _) (argsL := []) (rest := []) (lenOf pd___Z rfl) rfl (by show 2 * 0 + _ ≤ _; exact Nat.le_of_eq rfl) (hb hby at_48) (fun _ _ => ⟨rfl, e53, (by decide : 0 + 0 ≤ _), (by decide : 0 + 0 ≤ _)⟩)
    dsimp only [Pt.U, Pt.locs, Pt.cells, Pt.slots] at X54 l54 y54 z54 st54 hQ54
    subst l54 y54 z54
    obtain ⟨hv54, N54q, e54⟩ := hQ54
    obtain rfl : v54 = some (.int (0 : Int32)) := hv54.trans (by decide)
    have N54 := Fr.app N49 N54q
    refine ogo (fun t k => st54.trans k) ?_
    show OwnEnds _ _ _ _ _ _ _ (T54.setTop (mkF m 51 #[.val (.int p0), .val (.int (9 : Int32)), .val (.ref w_W1), .val (.int (0 : Int32))] [(.int (0 : Int32))]))
    refine ogo (fun t k => XS.iloadN X54.here hx rfl (hb hby at_51) rfl k) ?_
    show OwnEnds _ _ _ _ _ _ _ (T54.setTop (mkF m 52 #[.val (.int p0), .val (.int (9 : Int32)), .val (.ref w_W1), .val (.int (0 : Int32))] [(.int (0 : Int32)), (.int (0 : Int32))]))
    refine ogo (fun t k => XS.icmpNo X54.here hx rfl (hb hby at_52) rfl (teq (by decide : (0 : Int32) = (0 : Int32))).2 k) ?_
    show OwnEnds _ _ _ _ _ _ _ (T54.setTop (mkF m 55 #[.val (.int p0), .val (.int (9 : Int32)), .val (.ref w_W1), .val (.int (0 : Int32))] []))
    refine ogo (fun t k => XS.iconst X54.here hx rfl (hb hby at_55) k) ?_
    show OwnEnds _ _ _ _ _ _ _ (T54.setTop (mkF m 56 #[.val (.int p0), .val (.int (9 : Int32)), .val (.ref w_W1), .val (.int (0 : Int32))] [(.int (1 : Int32))]))
    refine ogo (fun t k => XS.goto X54.here hx rfl (pc0 := 56) (pc' := 60) rfl (hb hby at_56) (by decide) (by decide) k) ?_
    show OwnEnds _ _ _ _ _ _ _ (T54.setTop (mkF m 60 #[.val (.int p0), .val (.int (9 : Int32)), .val (.ref w_W1), .val (.int (0 : Int32))] [(.int (1 : Int32))]))
    refine endZ X54 hx hlk Bd.returns rfl (hb hby at_60) (by decide) (by decide) ?_
    show Q0 Z p0 w_N1 w_N2 w_E2 w_S2 w_W2 w_E1 w_N3 w_W3 w_S3 w_W1 w_S1 w_E3 h0 n0 _ T54.heap _
    rw [e54]
    exact ⟨rfl, N54⟩
  · show OwnEnds _ _ _ _ _ _ _ (s₁.setTop (mkF m 7 #[.val (.int p0), .unset, .unset, .unset] [(.int (10 : Int32))]))
    refine ogo (fun t k => XS.istoreN X0.here hx rfl (hb hby at_7) rfl (l' := #[.val (.int p0), .val (.int (10 : Int32)), .unset, .unset]) rfl k) ?_
    show OwnEnds _ _ _ _ _ _ _ (s₁.setTop (mkF m 8 #[.val (.int p0), .val (.int (10 : Int32)), .unset, .unset] []))
    refine ogo (fun t k => XS.iloadN X0.here hx rfl (hb hby at_8) rfl k) ?_
    show OwnEnds _ _ _ _ _ _ _ (s₁.setTop (mkF m 9 #[.val (.int p0), .val (.int (10 : Int32)), .unset, .unset] [(.int (10 : Int32))]))
    obtain ⟨v55, _, ⟨T55, L55, k55, n55⟩, -, X55, ⟨Lc55, hQ55, l55, y55, z55⟩, st55⟩ := Jvm.LawKit.callS X0 hx (y := (⟨"com/example/ramparts/ramparts/tile/SegmentIsMiddlePinLaw", "pick", "(I)Lcom/example/ramparts/ramparts/tile/Segment;"⟩ : MethodName)) hown (mvT hZ (hw _ (List.mem_of_getElem? (i := 1) rfl))) (mvT hZ (hw _ (List.mem_of_getElem? (i := 2) rfl))) (mvT hZ (hw _ (List.mem_of_getElem? (i := 3) rfl))) (mvT hZ (hw _ (List.mem_of_getElem? (i := 4) rfl))) (by decide) (backOf (W := 0) (rm1 l Z a0 hw [] (10 : Int32) w_N1 w_N2 w_N3 w_E1 w_E2 w_E3 w_S1 w_S2 w_S3 w_W1 w_W2 w_W3 h0 n0 Z0 S_N1 S_N2 S_N3 S_E1 S_E2 S_E3 S_S1 S_S2 S_S3 S_W1 S_W2 S_W3) hZ (hw _ (List.mem_of_getElem? (i := 4) rfl)) (hw _ (List.mem_of_getElem? (i := 3) rfl)) (by decide) (by decide)) (g := (mkF m 9 #[.val (.int p0), .val (.int (10 : Int32)), .unset, .unset] [(.int (10 : Int32))])) rfl (by rw [hml]; rfl) (argsL := [(.int (10 : Int32))]) (rest := []) (lenOf pd__I_Lcom_example_ramparts_ramparts_tile_Segment_ rfl) rfl (by show 2 * 0 + _ ≤ _; exact Nat.le_of_eq rfl) (hb hby at_9) (fun _ _ => ⟨rfl, e0, (by decide : 0 + 0 ≤ _), (by decide : 0 + 0 ≤ _)⟩)
    dsimp only [Pt.U, Pt.locs, Pt.cells, Pt.slots] at X55 l55 y55 z55 st55 hQ55
    subst l55 y55 z55
    obtain ⟨hv55, N55q, e55⟩ := hQ55
    obtain rfl : v55 = some (.ref w_W2) := hv55.trans (by simp [own_pick])
    have N55 := Fr.app N0 N55q
    refine ogo (fun t k => st55 t k) ?_
    show OwnEnds _ _ _ _ _ _ _ (T55.setTop (mkF m 12 #[.val (.int p0), .val (.int (10 : Int32)), .unset, .unset] [(.ref w_W2)]))
    refine ogo (fun t k => XS.astoreN X55.here hx rfl (hb hby at_12) rfl rfl (l' := #[.val (.int p0), .val (.int (10 : Int32)), .val (.ref w_W2), .unset]) rfl k) ?_
    show OwnEnds _ _ _ _ _ _ _ (T55.setTop (mkF m 13 #[.val (.int p0), .val (.int (10 : Int32)), .val (.ref w_W2), .unset] []))
    refine ogo (fun t k => XS.aloadN X55.here hx rfl (hb hby at_13) rfl rfl k) ?_
    show OwnEnds _ _ _ _ _ _ _ (T55.setTop (mkF m 14 #[.val (.int p0), .val (.int (10 : Int32)), .val (.ref w_W2), .unset] [(.ref w_W2)]))
    obtain ⟨T56, X56, e56, st56⟩ := getS2 X55 hx hZ hown (host := "") (Or.inl (hw _ (List.mem_of_getElem? (i := 8) rfl))) Via.refl e55 S_N2 (g := (mkF m 14 #[.val (.int p0), .val (.int (10 : Int32)), .val (.ref w_W2), .unset] [(.ref w_W2)])) rfl (hb hby at_14)
    refine ogo st56 ?_
    show OwnEnds _ _ _ _ _ _ _ (T56.setTop (mkF m 17 #[.val (.int p0), .val (.int (10 : Int32)), .val (.ref w_W2), .unset] [(.ref w_N2), (.ref w_W2)]))
    refine ogo (fun t k => Jvm.RoadKit.acmp (g := (mkF m 17 #[.val (.int p0), .val (.int (10 : Int32)), .val (.ref w_W2), .unset] [(.ref w_N2), (.ref w_W2)])) X56 hx rfl rfl rfl (pc0 := 17) (pc' := 20) (same := false) rfl (hb hby at_17) rfl (decide_eq_false fun q => (Fld.ne F_ordinal_W2 F_ordinal_N2 (by simp)) (Value.ref.inj q)) (by decide) (by decide) k) ?_
    show OwnEnds _ _ _ _ _ _ _ (T56.setTop (mkF m 20 #[.val (.int p0), .val (.int (10 : Int32)), .val (.ref w_W2), .unset] []))
    refine ogo (fun t k => XS.aloadN X56.here hx rfl (hb hby at_20) rfl rfl k) ?_
    show OwnEnds _ _ _ _ _ _ _ (T56.setTop (mkF m 21 #[.val (.int p0), .val (.int (10 : Int32)), .val (.ref w_W2), .unset] [(.ref w_W2)]))
    obtain ⟨T57, X57, e57, st57⟩ := getS2 X56 hx hZ hown (host := "") (Or.inl (hw _ (List.mem_of_getElem? (i := 10) rfl))) Via.refl e56 S_E2 (g := (mkF m 21 #[.val (.int p0), .val (.int (10 : Int32)), .val (.ref w_W2), .unset] [(.ref w_W2)])) rfl (hb hby at_21)
    refine ogo st57 ?_
    show OwnEnds _ _ _ _ _ _ _ (T57.setTop (mkF m 24 #[.val (.int p0), .val (.int (10 : Int32)), .val (.ref w_W2), .unset] [(.ref w_E2), (.ref w_W2)]))
    refine ogo (fun t k => Jvm.RoadKit.acmp (g := (mkF m 24 #[.val (.int p0), .val (.int (10 : Int32)), .val (.ref w_W2), .unset] [(.ref w_E2), (.ref w_W2)])) X57 hx rfl rfl rfl (pc0 := 24) (pc' := 27) (same := false) rfl (hb hby at_24) rfl (decide_eq_false fun q => (Fld.ne F_ordinal_W2 F_ordinal_E2 (by simp)) (Value.ref.inj q)) (by decide) (by decide) k) ?_
    show OwnEnds _ _ _ _ _ _ _ (T57.setTop (mkF m 27 #[.val (.int p0), .val (.int (10 : Int32)), .val (.ref w_W2), .unset] []))
    refine ogo (fun t k => XS.aloadN X57.here hx rfl (hb hby at_27) rfl rfl k) ?_
    show OwnEnds _ _ _ _ _ _ _ (T57.setTop (mkF m 28 #[.val (.int p0), .val (.int (10 : Int32)), .val (.ref w_W2), .unset] [(.ref w_W2)]))
    obtain ⟨T58, X58, e58, st58⟩ := getS2 X57 hx hZ hown (host := "") (Or.inl (hw _ (List.mem_of_getElem? (i := 12) rfl))) Via.refl e57 S_S2 (g := (mkF m 28 #[.val (.int p0), .val (.int (10 : Int32)), .val (.ref w_W2), .unset] [(.ref w_W2)])) rfl (hb hby at_28)
    refine ogo st58 ?_
    show OwnEnds _ _ _ _ _ _ _ (T58.setTop (mkF m 31 #[.val (.int p0), .val (.int (10 : Int32)), .val (.ref w_W2), .unset] [(.ref w_S2), (.ref w_W2)]))
    refine ogo (fun t k => Jvm.RoadKit.acmp (g := (mkF m 31 #[.val (.int p0), .val (.int (10 : Int32)), .val (.ref w_W2), .unset] [(.ref w_S2), (.ref w_W2)])) X58 hx rfl rfl rfl (pc0 := 31) (pc' := 34) (same := false) rfl (hb hby at_31) rfl (decide_eq_false fun q => (Fld.ne F_ordinal_W2 F_ordinal_S2 (by simp)) (Value.ref.inj q)) (by decide) (by decide) k) ?_
    show OwnEnds _ _ _ _ _ _ _ (T58.setTop (mkF m 34 #[.val (.int p0), .val (.int (10 : Int32)), .val (.ref w_W2), .unset] []))
    refine ogo (fun t k => XS.aloadN X58.here hx rfl (hb hby at_34) rfl rfl k) ?_
    show OwnEnds _ _ _ _ _ _ _ (T58.setTop (mkF m 35 #[.val (.int p0), .val (.int (10 : Int32)), .val (.ref w_W2), .unset] [(.ref w_W2)]))
    obtain ⟨T59, X59, e59, st59⟩ := getS2 X58 hx hZ hown (host := "") (Or.inl (hw _ (List.mem_of_getElem? (i := 14) rfl))) Via.refl e58 S_W2 (g := (mkF m 35 #[.val (.int p0), .val (.int (10 : Int32)), .val (.ref w_W2), .unset] [(.ref w_W2)])) rfl (hb hby at_35)
    refine ogo st59 ?_
    show OwnEnds _ _ _ _ _ _ _ (T59.setTop (mkF m 38 #[.val (.int p0), .val (.int (10 : Int32)), .val (.ref w_W2), .unset] [(.ref w_W2), (.ref w_W2)]))
    refine ogo (fun t k => Jvm.RoadKit.acmp (g := (mkF m 38 #[.val (.int p0), .val (.int (10 : Int32)), .val (.ref w_W2), .unset] [(.ref w_W2), (.ref w_W2)])) X59 hx rfl rfl rfl (pc0 := 38) (pc' := 41) (same := true) rfl (hb hby at_38) rfl (decide_eq_true (congrArg Value.ref rfl)) (by decide) (by decide) k) ?_
    show OwnEnds _ _ _ _ _ _ _ (T59.setTop (mkF m 41 #[.val (.int p0), .val (.int (10 : Int32)), .val (.ref w_W2), .unset] []))
    refine ogo (fun t k => XS.iconst X59.here hx rfl (hb hby at_41) k) ?_
    show OwnEnds _ _ _ _ _ _ _ (T59.setTop (mkF m 42 #[.val (.int p0), .val (.int (10 : Int32)), .val (.ref w_W2), .unset] [(.int (1 : Int32))]))
    refine ogo (fun t k => XS.goto X59.here hx rfl (pc0 := 42) (pc' := 46) rfl (hb hby at_42) (by decide) (by decide) k) ?_
    show OwnEnds _ _ _ _ _ _ _ (T59.setTop (mkF m 46 #[.val (.int p0), .val (.int (10 : Int32)), .val (.ref w_W2), .unset] [(.int (1 : Int32))]))
    refine ogo (fun t k => XS.istoreN X59.here hx rfl (hb hby at_46) rfl (l' := #[.val (.int p0), .val (.int (10 : Int32)), .val (.ref w_W2), .val (.int (1 : Int32))]) rfl k) ?_
    show OwnEnds _ _ _ _ _ _ _ (T59.setTop (mkF m 47 #[.val (.int p0), .val (.int (10 : Int32)), .val (.ref w_W2), .val (.int (1 : Int32))] []))
    refine ogo (fun t k => XS.aloadN X59.here hx rfl (hb hby at_47) rfl rfl k) ?_
    show OwnEnds _ _ _ _ _ _ _ (T59.setTop (mkF m 48 #[.val (.int p0), .val (.int (10 : Int32)), .val (.ref w_W2), .val (.int (1 : Int32))] [(.ref w_W2)]))
    obtain ⟨cq60, kq60, q60a, q60b, q60c⟩ := isOf hZ e59 E_W2
    obtain ⟨v60, _, ⟨T60, L60, k60, n60⟩, -, X60, ⟨Lc60, hQ60, l60, y60, z60⟩, st60⟩ := X59.virtualBack hx (y := (⟨"com/example/ramparts/ramparts/tile/Segment", "isMiddle", "()Z"⟩ : MethodName)) (z := (⟨"com/example/ramparts/ramparts/tile/Segment", "isMiddle", "()Z"⟩ : MethodName)) hown (mvT hZ (hw _ (List.mem_of_getElem? (i := 16) rfl))) (mvT hZ (hw _ (List.mem_of_getElem? (i := 17) rfl))) (notFace_of_selects (args := #[]) (mvT hZ (hw _ (List.mem_of_getElem? (i := 19) rfl)))) (mvT hZ (hw _ (List.mem_of_getElem? (i := 19) rfl))) (mvT hZ (hw _ (List.mem_of_getElem? (i := 18) rfl))) (by decide) (backOf (W := 0) (rm3 l Z a0 hw [] w_W2 (10 : Int32) h0 n0 Z0 F_ordinal_W2 E_W2) hZ (hw _ (List.mem_of_getElem? (i := 20) rfl)) (hw _ (List.mem_of_getElem? (i := 6) rfl)) (by decide) (by decide)) q60a q60c (g := (mkF m 48 #[.val (.int p0), .val (.int (10 : Int32)), .val (.ref w_W2), .val (.int (1 : Int32))] [(.ref w_W2)])) rfl (by rw [hml]; rfl) (Steps.refl _) (argsL := []) (rest := []) (lenOf pd___Z rfl) rfl (by show 2 * 0 + _ ≤ _; exact Nat.le_of_eq rfl) (hb hby at_48) (fun _ _ => ⟨rfl, e59, (by decide : 0 + 0 ≤ _), (by decide : 0 + 0 ≤ _)⟩)
    dsimp only [Pt.U, Pt.locs, Pt.cells, Pt.slots] at X60 l60 y60 z60 st60 hQ60
    subst l60 y60 z60
    obtain ⟨hv60, N60q, e60⟩ := hQ60
    obtain rfl : v60 = some (.int (1 : Int32)) := hv60.trans (by decide)
    have N60 := Fr.app N55 N60q
    refine ogo (fun t k => st60.trans k) ?_
    show OwnEnds _ _ _ _ _ _ _ (T60.setTop (mkF m 51 #[.val (.int p0), .val (.int (10 : Int32)), .val (.ref w_W2), .val (.int (1 : Int32))] [(.int (1 : Int32))]))
    refine ogo (fun t k => XS.iloadN X60.here hx rfl (hb hby at_51) rfl k) ?_
    show OwnEnds _ _ _ _ _ _ _ (T60.setTop (mkF m 52 #[.val (.int p0), .val (.int (10 : Int32)), .val (.ref w_W2), .val (.int (1 : Int32))] [(.int (1 : Int32)), (.int (1 : Int32))]))
    refine ogo (fun t k => XS.icmpNo X60.here hx rfl (hb hby at_52) rfl (teq (by decide : (1 : Int32) = (1 : Int32))).2 k) ?_
    show OwnEnds _ _ _ _ _ _ _ (T60.setTop (mkF m 55 #[.val (.int p0), .val (.int (10 : Int32)), .val (.ref w_W2), .val (.int (1 : Int32))] []))
    refine ogo (fun t k => XS.iconst X60.here hx rfl (hb hby at_55) k) ?_
    show OwnEnds _ _ _ _ _ _ _ (T60.setTop (mkF m 56 #[.val (.int p0), .val (.int (10 : Int32)), .val (.ref w_W2), .val (.int (1 : Int32))] [(.int (1 : Int32))]))
    refine ogo (fun t k => XS.goto X60.here hx rfl (pc0 := 56) (pc' := 60) rfl (hb hby at_56) (by decide) (by decide) k) ?_
    show OwnEnds _ _ _ _ _ _ _ (T60.setTop (mkF m 60 #[.val (.int p0), .val (.int (10 : Int32)), .val (.ref w_W2), .val (.int (1 : Int32))] [(.int (1 : Int32))]))
    refine endZ X60 hx hlk Bd.returns rfl (hb hby at_60) (by decide) (by decide) ?_
    show Q0 Z p0 w_N1 w_N2 w_E2 w_S2 w_W2 w_E1 w_N3 w_W3 w_S3 w_W1 w_S1 w_E3 h0 n0 _ T60.heap _
    rw [e60]
    exact ⟨rfl, N60⟩
  · show OwnEnds _ _ _ _ _ _ _ (s₁.setTop (mkF m 7 #[.val (.int p0), .unset, .unset, .unset] [(.int (11 : Int32))]))
    refine ogo (fun t k => XS.istoreN X0.here hx rfl (hb hby at_7) rfl (l' := #[.val (.int p0), .val (.int (11 : Int32)), .unset, .unset]) rfl k) ?_
    show OwnEnds _ _ _ _ _ _ _ (s₁.setTop (mkF m 8 #[.val (.int p0), .val (.int (11 : Int32)), .unset, .unset] []))
    refine ogo (fun t k => XS.iloadN X0.here hx rfl (hb hby at_8) rfl k) ?_
    show OwnEnds _ _ _ _ _ _ _ (s₁.setTop (mkF m 9 #[.val (.int p0), .val (.int (11 : Int32)), .unset, .unset] [(.int (11 : Int32))]))
    obtain ⟨v61, _, ⟨T61, L61, k61, n61⟩, -, X61, ⟨Lc61, hQ61, l61, y61, z61⟩, st61⟩ := Jvm.LawKit.callS X0 hx (y := (⟨"com/example/ramparts/ramparts/tile/SegmentIsMiddlePinLaw", "pick", "(I)Lcom/example/ramparts/ramparts/tile/Segment;"⟩ : MethodName)) hown (mvT hZ (hw _ (List.mem_of_getElem? (i := 1) rfl))) (mvT hZ (hw _ (List.mem_of_getElem? (i := 2) rfl))) (mvT hZ (hw _ (List.mem_of_getElem? (i := 3) rfl))) (mvT hZ (hw _ (List.mem_of_getElem? (i := 4) rfl))) (by decide) (backOf (W := 0) (rm1 l Z a0 hw [] (11 : Int32) w_N1 w_N2 w_N3 w_E1 w_E2 w_E3 w_S1 w_S2 w_S3 w_W1 w_W2 w_W3 h0 n0 Z0 S_N1 S_N2 S_N3 S_E1 S_E2 S_E3 S_S1 S_S2 S_S3 S_W1 S_W2 S_W3) hZ (hw _ (List.mem_of_getElem? (i := 4) rfl)) (hw _ (List.mem_of_getElem? (i := 3) rfl)) (by decide) (by decide)) (g := (mkF m 9 #[.val (.int p0), .val (.int (11 : Int32)), .unset, .unset] [(.int (11 : Int32))])) rfl (by rw [hml]; rfl) (argsL := [(.int (11 : Int32))]) (rest := []) (lenOf pd__I_Lcom_example_ramparts_ramparts_tile_Segment_ rfl) rfl (by show 2 * 0 + _ ≤ _; exact Nat.le_of_eq rfl) (hb hby at_9) (fun _ _ => ⟨rfl, e0, (by decide : 0 + 0 ≤ _), (by decide : 0 + 0 ≤ _)⟩)
    dsimp only [Pt.U, Pt.locs, Pt.cells, Pt.slots] at X61 l61 y61 z61 st61 hQ61
    subst l61 y61 z61
    obtain ⟨hv61, N61q, e61⟩ := hQ61
    obtain rfl : v61 = some (.ref w_W3) := hv61.trans (by simp [own_pick])
    have N61 := Fr.app N0 N61q
    refine ogo (fun t k => st61 t k) ?_
    show OwnEnds _ _ _ _ _ _ _ (T61.setTop (mkF m 12 #[.val (.int p0), .val (.int (11 : Int32)), .unset, .unset] [(.ref w_W3)]))
    refine ogo (fun t k => XS.astoreN X61.here hx rfl (hb hby at_12) rfl rfl (l' := #[.val (.int p0), .val (.int (11 : Int32)), .val (.ref w_W3), .unset]) rfl k) ?_
    show OwnEnds _ _ _ _ _ _ _ (T61.setTop (mkF m 13 #[.val (.int p0), .val (.int (11 : Int32)), .val (.ref w_W3), .unset] []))
    refine ogo (fun t k => XS.aloadN X61.here hx rfl (hb hby at_13) rfl rfl k) ?_
    show OwnEnds _ _ _ _ _ _ _ (T61.setTop (mkF m 14 #[.val (.int p0), .val (.int (11 : Int32)), .val (.ref w_W3), .unset] [(.ref w_W3)]))
    obtain ⟨T62, X62, e62, st62⟩ := getS2 X61 hx hZ hown (host := "") (Or.inl (hw _ (List.mem_of_getElem? (i := 8) rfl))) Via.refl e61 S_N2 (g := (mkF m 14 #[.val (.int p0), .val (.int (11 : Int32)), .val (.ref w_W3), .unset] [(.ref w_W3)])) rfl (hb hby at_14)
    refine ogo st62 ?_
    show OwnEnds _ _ _ _ _ _ _ (T62.setTop (mkF m 17 #[.val (.int p0), .val (.int (11 : Int32)), .val (.ref w_W3), .unset] [(.ref w_N2), (.ref w_W3)]))
    refine ogo (fun t k => Jvm.RoadKit.acmp (g := (mkF m 17 #[.val (.int p0), .val (.int (11 : Int32)), .val (.ref w_W3), .unset] [(.ref w_N2), (.ref w_W3)])) X62 hx rfl rfl rfl (pc0 := 17) (pc' := 20) (same := false) rfl (hb hby at_17) rfl (decide_eq_false fun q => (Fld.ne F_ordinal_W3 F_ordinal_N2 (by simp)) (Value.ref.inj q)) (by decide) (by decide) k) ?_
    show OwnEnds _ _ _ _ _ _ _ (T62.setTop (mkF m 20 #[.val (.int p0), .val (.int (11 : Int32)), .val (.ref w_W3), .unset] []))
    refine ogo (fun t k => XS.aloadN X62.here hx rfl (hb hby at_20) rfl rfl k) ?_
    show OwnEnds _ _ _ _ _ _ _ (T62.setTop (mkF m 21 #[.val (.int p0), .val (.int (11 : Int32)), .val (.ref w_W3), .unset] [(.ref w_W3)]))
    obtain ⟨T63, X63, e63, st63⟩ := getS2 X62 hx hZ hown (host := "") (Or.inl (hw _ (List.mem_of_getElem? (i := 10) rfl))) Via.refl e62 S_E2 (g := (mkF m 21 #[.val (.int p0), .val (.int (11 : Int32)), .val (.ref w_W3), .unset] [(.ref w_W3)])) rfl (hb hby at_21)
    refine ogo st63 ?_
    show OwnEnds _ _ _ _ _ _ _ (T63.setTop (mkF m 24 #[.val (.int p0), .val (.int (11 : Int32)), .val (.ref w_W3), .unset] [(.ref w_E2), (.ref w_W3)]))
    refine ogo (fun t k => Jvm.RoadKit.acmp (g := (mkF m 24 #[.val (.int p0), .val (.int (11 : Int32)), .val (.ref w_W3), .unset] [(.ref w_E2), (.ref w_W3)])) X63 hx rfl rfl rfl (pc0 := 24) (pc' := 27) (same := false) rfl (hb hby at_24) rfl (decide_eq_false fun q => (Fld.ne F_ordinal_W3 F_ordinal_E2 (by simp)) (Value.ref.inj q)) (by decide) (by decide) k) ?_
    show OwnEnds _ _ _ _ _ _ _ (T63.setTop (mkF m 27 #[.val (.int p0), .val (.int (11 : Int32)), .val (.ref w_W3), .unset] []))
    refine ogo (fun t k => XS.aloadN X63.here hx rfl (hb hby at_27) rfl rfl k) ?_
    show OwnEnds _ _ _ _ _ _ _ (T63.setTop (mkF m 28 #[.val (.int p0), .val (.int (11 : Int32)), .val (.ref w_W3), .unset] [(.ref w_W3)]))
    obtain ⟨T64, X64, e64, st64⟩ := getS2 X63 hx hZ hown (host := "") (Or.inl (hw _ (List.mem_of_getElem? (i := 12) rfl))) Via.refl e63 S_S2 (g := (mkF m 28 #[.val (.int p0), .val (.int (11 : Int32)), .val (.ref w_W3), .unset] [(.ref w_W3)])) rfl (hb hby at_28)
    refine ogo st64 ?_
    show OwnEnds _ _ _ _ _ _ _ (T64.setTop (mkF m 31 #[.val (.int p0), .val (.int (11 : Int32)), .val (.ref w_W3), .unset] [(.ref w_S2), (.ref w_W3)]))
    refine ogo (fun t k => Jvm.RoadKit.acmp (g := (mkF m 31 #[.val (.int p0), .val (.int (11 : Int32)), .val (.ref w_W3), .unset] [(.ref w_S2), (.ref w_W3)])) X64 hx rfl rfl rfl (pc0 := 31) (pc' := 34) (same := false) rfl (hb hby at_31) rfl (decide_eq_false fun q => (Fld.ne F_ordinal_W3 F_ordinal_S2 (by simp)) (Value.ref.inj q)) (by decide) (by decide) k) ?_
    show OwnEnds _ _ _ _ _ _ _ (T64.setTop (mkF m 34 #[.val (.int p0), .val (.int (11 : Int32)), .val (.ref w_W3), .unset] []))
    refine ogo (fun t k => XS.aloadN X64.here hx rfl (hb hby at_34) rfl rfl k) ?_
    show OwnEnds _ _ _ _ _ _ _ (T64.setTop (mkF m 35 #[.val (.int p0), .val (.int (11 : Int32)), .val (.ref w_W3), .unset] [(.ref w_W3)]))
    obtain ⟨T65, X65, e65, st65⟩ := getS2 X64 hx hZ hown (host := "") (Or.inl (hw _ (List.mem_of_getElem? (i := 14) rfl))) Via.refl e64 S_W2 (g := (mkF m 35 #[.val (.int p0), .val (.int (11 : Int32)), .val (.ref w_W3), .unset] [(.ref w_W3)])) rfl (hb hby at_35)
    refine ogo st65 ?_
    show OwnEnds _ _ _ _ _ _ _ (T65.setTop (mkF m 38 #[.val (.int p0), .val (.int (11 : Int32)), .val (.ref w_W3), .unset] [(.ref w_W2), (.ref w_W3)]))
    refine ogo (fun t k => Jvm.RoadKit.acmp (g := (mkF m 38 #[.val (.int p0), .val (.int (11 : Int32)), .val (.ref w_W3), .unset] [(.ref w_W2), (.ref w_W3)])) X65 hx rfl rfl rfl (pc0 := 38) (pc' := 45) (same := false) rfl (hb hby at_38) rfl (decide_eq_false fun q => (Fld.ne F_ordinal_W3 F_ordinal_W2 (by simp)) (Value.ref.inj q)) (by decide) (by decide) k) ?_
    show OwnEnds _ _ _ _ _ _ _ (T65.setTop (mkF m 45 #[.val (.int p0), .val (.int (11 : Int32)), .val (.ref w_W3), .unset] []))
    refine ogo (fun t k => XS.iconst X65.here hx rfl (hb hby at_45) k) ?_
    show OwnEnds _ _ _ _ _ _ _ (T65.setTop (mkF m 46 #[.val (.int p0), .val (.int (11 : Int32)), .val (.ref w_W3), .unset] [(.int (0 : Int32))]))
    refine ogo (fun t k => XS.istoreN X65.here hx rfl (hb hby at_46) rfl (l' := #[.val (.int p0), .val (.int (11 : Int32)), .val (.ref w_W3), .val (.int (0 : Int32))]) rfl k) ?_
    show OwnEnds _ _ _ _ _ _ _ (T65.setTop (mkF m 47 #[.val (.int p0), .val (.int (11 : Int32)), .val (.ref w_W3), .val (.int (0 : Int32))] []))
    refine ogo (fun t k => XS.aloadN X65.here hx rfl (hb hby at_47) rfl rfl k) ?_
    show OwnEnds _ _ _ _ _ _ _ (T65.setTop (mkF m 48 #[.val (.int p0), .val (.int (11 : Int32)), .val (.ref w_W3), .val (.int (0 : Int32))] [(.ref w_W3)]))
    obtain ⟨cq66, kq66, q66a, q66b, q66c⟩ := isOf hZ e65 E_W3
    obtain ⟨v66, _, ⟨T66, L66, k66, n66⟩, -, X66, ⟨Lc66, hQ66, l66, y66, z66⟩, st66⟩ := X65.virtualBack hx (y := (⟨"com/example/ramparts/ramparts/tile/Segment", "isMiddle", "()Z"⟩ : MethodName)) (z := (⟨"com/example/ramparts/ramparts/tile/Segment", "isMiddle", "()Z"⟩ : MethodName)) hown (mvT hZ (hw _ (List.mem_of_getElem? (i := 16) rfl))) (mvT hZ (hw _ (List.mem_of_getElem? (i := 17) rfl))) (notFace_of_selects (args := #[]) (mvT hZ (hw _ (List.mem_of_getElem? (i := 19) rfl)))) (mvT hZ (hw _ (List.mem_of_getElem? (i := 19) rfl))) (mvT hZ (hw _ (List.mem_of_getElem? (i := 18) rfl))) (by decide) (backOf (W := 0) (rm3 l Z a0 hw [] w_W3 (11 : Int32) h0 n0 Z0 F_ordinal_W3 E_W3) hZ (hw _ (List.mem_of_getElem? (i := 20) rfl)) (hw _ (List.mem_of_getElem? (i := 6) rfl)) (by decide) (by decide)) q66a q66c (g := (mkF m 48 #[.val (.int p0), .val (.int (11 : Int32)), .val (.ref w_W3), .val (.int (0 : Int32))] [(.ref w_W3)])) rfl (by rw [hml]; rfl) (Steps.refl _) (argsL := []) (rest := []) (lenOf pd___Z rfl) rfl (by show 2 * 0 + _ ≤ _; exact Nat.le_of_eq rfl) (hb hby at_48) (fun _ _ => ⟨rfl, e65, (by decide : 0 + 0 ≤ _), (by decide : 0 + 0 ≤ _)⟩)
    dsimp only [Pt.U, Pt.locs, Pt.cells, Pt.slots] at X66 l66 y66 z66 st66 hQ66
    subst l66 y66 z66
    obtain ⟨hv66, N66q, e66⟩ := hQ66
    obtain rfl : v66 = some (.int (0 : Int32)) := hv66.trans (by decide)
    have N66 := Fr.app N61 N66q
    refine ogo (fun t k => st66.trans k) ?_
    show OwnEnds _ _ _ _ _ _ _ (T66.setTop (mkF m 51 #[.val (.int p0), .val (.int (11 : Int32)), .val (.ref w_W3), .val (.int (0 : Int32))] [(.int (0 : Int32))]))
    refine ogo (fun t k => XS.iloadN X66.here hx rfl (hb hby at_51) rfl k) ?_
    show OwnEnds _ _ _ _ _ _ _ (T66.setTop (mkF m 52 #[.val (.int p0), .val (.int (11 : Int32)), .val (.ref w_W3), .val (.int (0 : Int32))] [(.int (0 : Int32)), (.int (0 : Int32))]))
    refine ogo (fun t k => XS.icmpNo X66.here hx rfl (hb hby at_52) rfl (teq (by decide : (0 : Int32) = (0 : Int32))).2 k) ?_
    show OwnEnds _ _ _ _ _ _ _ (T66.setTop (mkF m 55 #[.val (.int p0), .val (.int (11 : Int32)), .val (.ref w_W3), .val (.int (0 : Int32))] []))
    refine ogo (fun t k => XS.iconst X66.here hx rfl (hb hby at_55) k) ?_
    show OwnEnds _ _ _ _ _ _ _ (T66.setTop (mkF m 56 #[.val (.int p0), .val (.int (11 : Int32)), .val (.ref w_W3), .val (.int (0 : Int32))] [(.int (1 : Int32))]))
    refine ogo (fun t k => XS.goto X66.here hx rfl (pc0 := 56) (pc' := 60) rfl (hb hby at_56) (by decide) (by decide) k) ?_
    show OwnEnds _ _ _ _ _ _ _ (T66.setTop (mkF m 60 #[.val (.int p0), .val (.int (11 : Int32)), .val (.ref w_W3), .val (.int (0 : Int32))] [(.int (1 : Int32))]))
    refine endZ X66 hx hlk Bd.returns rfl (hb hby at_60) (by decide) (by decide) ?_
    show Q0 Z p0 w_N1 w_N2 w_E2 w_S2 w_W2 w_E1 w_N3 w_W3 w_S3 w_W1 w_S1 w_E3 h0 n0 _ T66.heap _
    rw [e66]
    exact ⟨rfl, N66⟩
set_option maxRecDepth 65536 in
set_option maxHeartbeats 40000000 in
theorem comes_1 {Post : Tables → Env → Array Value → State → Outcome → State → Prop} (hpost : ∀ tb e args s v u, (limb_1_1.after args s (.returned v) u = true ∧ limb_1_2.after args s (.returned v) u = true ∧ True) → FrameEnd s (.returned v) u (Jvm.fieldLocs frame_1_writes args s ++ Jvm.arrayLocs frame_1_arrays args s ++ Jvm.staticLocs frame_1_statics s) 0 0 → Post tb e args s (.returned v) u) :
    ArmFor flags0 classFile x code maxLocals ret World_1 tables_1 room_1 Calls_1 rest_1 Pre_1 Post := by
  intro l hfl _ _ p e ha hc hk s m args below hf hA hF happ hP
  obtain ⟨hcalls, hrest, hpre⟩ := hP
  obtain ⟨-, -, -, hnamed, -, -, -, hat⟩ := (Spec.applies_iff hf).mp happ
  obtain ⟨hg, hn⟩ := and_e (Cond.before_iff.mp (show (Jvm.Cond.and given_1 narrow_1).before args s = true from hpre))
  obtain ⟨hcount, hg0⟩ := and_e hg
  have hk0 := hg0
  obtain ⟨w0, rfl⟩ : ∃ w0 : Value, args = #[w0] := by
    have hs : args.size = 1 := by simpa [Cond.value, given_1] using hcount
    obtain ⟨L⟩ := args
    match L, hs with
    | [w0], _ => exact ⟨w0, rfl⟩
  have hw := fun d (hd : d ∈ tables_1) => atoms_spec (ws := Jvm.Cond.code x code maxLocals ret :: tables_1) hat d (List.mem_cons_of_mem _ hd)
  have hfit : Fit s := fun {y c} hc i hi => by
    obtain ⟨ha, rfl⟩ := Array.getElem?_eq_some_iff.mp hc
    have q := List.all_eq_true.mp ((Array.all_eq_true_iff_forall_mem.mp hF) _ (Array.getElem_mem ha)) i (List.mem_range.mpr hi)
    simpa [Array.getElem?_eq_getElem hi] using q
  obtain ⟨i0, ei0⟩ := is_v hk0
  obtain rfl : w0 = (.int i0) := Option.some.inj ei0
  obtain ⟨u1a, u1b⟩ := and_e hn
  obtain ⟨u2a, u2b⟩ := and_e u1b
  obtain ⟨u3a, u3b⟩ := and_e u2b
  obtain ⟨u4a, u4b⟩ := and_e u3b
  obtain ⟨u5a, u5b⟩ := and_e u4b
  obtain ⟨u6a, u6b⟩ := and_e u5b
  obtain ⟨u7a, u7b⟩ := and_e u6b
  obtain ⟨u8a, u8b⟩ := and_e u7b
  obtain ⟨u9a, u9b⟩ := and_e u8b
  obtain ⟨u10a, u10b⟩ := and_e u9b
  obtain ⟨u11a, u11b⟩ := and_e u10b
  obtain ⟨u12a, u12b⟩ := and_e u11b
  obtain ⟨u13a, u13b⟩ := and_e u12b
  obtain ⟨u14a, u14b⟩ := and_e u13b
  obtain ⟨u15a, u15b⟩ := and_e u14b
  obtain ⟨u16a, u16b⟩ := and_e u15b
  obtain ⟨u17a, u17b⟩ := and_e u16b
  obtain ⟨u18a, u18b⟩ := and_e u17b
  obtain ⟨u19a, u19b⟩ := and_e u18b
  obtain ⟨u20a, u20b⟩ := and_e u19b
  obtain ⟨u21a, u21b⟩ := and_e u20b
  obtain ⟨u22a, u22b⟩ := and_e u21b
  obtain ⟨u23a, u23b⟩ := and_e u22b
  obtain ⟨w_N1, ev_N1⟩ := exa_v u1a
  have S_N1 : Sta s s.heap "com/example/ramparts/ramparts/tile/Segment" "N1" "Lcom/example/ramparts/ramparts/tile/Segment;" (.ref w_N1) := Sta.start ev_N1 (Or.inr ⟨(hw _ (List.mem_of_getElem? (i := 6) rfl)), (hw _ (List.mem_of_getElem? (i := 7) rfl))⟩)
  have E_N1 : Exa s s.heap w_N1 "com/example/ramparts/ramparts/tile/Segment" := Exa.start ev_N1 u1a
  obtain ⟨w_N2, ev_N2⟩ := exa_v u2a
  have S_N2 : Sta s s.heap "com/example/ramparts/ramparts/tile/Segment" "N2" "Lcom/example/ramparts/ramparts/tile/Segment;" (.ref w_N2) := Sta.start ev_N2 (Or.inr ⟨(hw _ (List.mem_of_getElem? (i := 6) rfl)), (hw _ (List.mem_of_getElem? (i := 9) rfl))⟩)
  have E_N2 : Exa s s.heap w_N2 "com/example/ramparts/ramparts/tile/Segment" := Exa.start ev_N2 u2a
  obtain ⟨w_E2, ev_E2⟩ := exa_v u5a
  have S_E2 : Sta s s.heap "com/example/ramparts/ramparts/tile/Segment" "E2" "Lcom/example/ramparts/ramparts/tile/Segment;" (.ref w_E2) := Sta.start ev_E2 (Or.inr ⟨(hw _ (List.mem_of_getElem? (i := 6) rfl)), (hw _ (List.mem_of_getElem? (i := 11) rfl))⟩)
  have E_E2 : Exa s s.heap w_E2 "com/example/ramparts/ramparts/tile/Segment" := Exa.start ev_E2 u5a
  obtain ⟨w_S2, ev_S2⟩ := exa_v u7a
  have S_S2 : Sta s s.heap "com/example/ramparts/ramparts/tile/Segment" "S2" "Lcom/example/ramparts/ramparts/tile/Segment;" (.ref w_S2) := Sta.start ev_S2 (Or.inr ⟨(hw _ (List.mem_of_getElem? (i := 6) rfl)), (hw _ (List.mem_of_getElem? (i := 13) rfl))⟩)
  have E_S2 : Exa s s.heap w_S2 "com/example/ramparts/ramparts/tile/Segment" := Exa.start ev_S2 u7a
  obtain ⟨w_W2, ev_W2⟩ := exa_v u9a
  have S_W2 : Sta s s.heap "com/example/ramparts/ramparts/tile/Segment" "W2" "Lcom/example/ramparts/ramparts/tile/Segment;" (.ref w_W2) := Sta.start ev_W2 (Or.inr ⟨(hw _ (List.mem_of_getElem? (i := 6) rfl)), (hw _ (List.mem_of_getElem? (i := 15) rfl))⟩)
  have E_W2 : Exa s s.heap w_W2 "com/example/ramparts/ramparts/tile/Segment" := Exa.start ev_W2 u9a
  obtain ⟨w_E1, ev_E1⟩ := exa_v u11a
  have S_E1 : Sta s s.heap "com/example/ramparts/ramparts/tile/Segment" "E1" "Lcom/example/ramparts/ramparts/tile/Segment;" (.ref w_E1) := Sta.start ev_E1 (Or.inr ⟨(hw _ (List.mem_of_getElem? (i := 6) rfl)), (hw _ (List.mem_of_getElem? (i := 31) rfl))⟩)
  have E_E1 : Exa s s.heap w_E1 "com/example/ramparts/ramparts/tile/Segment" := Exa.start ev_E1 u11a
  obtain ⟨w_N3, ev_N3⟩ := exa_v u13a
  have S_N3 : Sta s s.heap "com/example/ramparts/ramparts/tile/Segment" "N3" "Lcom/example/ramparts/ramparts/tile/Segment;" (.ref w_N3) := Sta.start ev_N3 (Or.inr ⟨(hw _ (List.mem_of_getElem? (i := 6) rfl)), (hw _ (List.mem_of_getElem? (i := 33) rfl))⟩)
  have E_N3 : Exa s s.heap w_N3 "com/example/ramparts/ramparts/tile/Segment" := Exa.start ev_N3 u13a
  obtain ⟨w_W3, ev_W3⟩ := exa_v u15a
  have S_W3 : Sta s s.heap "com/example/ramparts/ramparts/tile/Segment" "W3" "Lcom/example/ramparts/ramparts/tile/Segment;" (.ref w_W3) := Sta.start ev_W3 (Or.inr ⟨(hw _ (List.mem_of_getElem? (i := 6) rfl)), (hw _ (List.mem_of_getElem? (i := 35) rfl))⟩)
  have E_W3 : Exa s s.heap w_W3 "com/example/ramparts/ramparts/tile/Segment" := Exa.start ev_W3 u15a
  obtain ⟨w_S3, ev_S3⟩ := exa_v u17a
  have S_S3 : Sta s s.heap "com/example/ramparts/ramparts/tile/Segment" "S3" "Lcom/example/ramparts/ramparts/tile/Segment;" (.ref w_S3) := Sta.start ev_S3 (Or.inr ⟨(hw _ (List.mem_of_getElem? (i := 6) rfl)), (hw _ (List.mem_of_getElem? (i := 37) rfl))⟩)
  have E_S3 : Exa s s.heap w_S3 "com/example/ramparts/ramparts/tile/Segment" := Exa.start ev_S3 u17a
  obtain ⟨w_W1, ev_W1⟩ := exa_v u19a
  have S_W1 : Sta s s.heap "com/example/ramparts/ramparts/tile/Segment" "W1" "Lcom/example/ramparts/ramparts/tile/Segment;" (.ref w_W1) := Sta.start ev_W1 (Or.inr ⟨(hw _ (List.mem_of_getElem? (i := 6) rfl)), (hw _ (List.mem_of_getElem? (i := 39) rfl))⟩)
  have E_W1 : Exa s s.heap w_W1 "com/example/ramparts/ramparts/tile/Segment" := Exa.start ev_W1 u19a
  obtain ⟨w_S1, ev_S1⟩ := exa_v u21a
  have S_S1 : Sta s s.heap "com/example/ramparts/ramparts/tile/Segment" "S1" "Lcom/example/ramparts/ramparts/tile/Segment;" (.ref w_S1) := Sta.start ev_S1 (Or.inr ⟨(hw _ (List.mem_of_getElem? (i := 6) rfl)), (hw _ (List.mem_of_getElem? (i := 41) rfl))⟩)
  have E_S1 : Exa s s.heap w_S1 "com/example/ramparts/ramparts/tile/Segment" := Exa.start ev_S1 u21a
  obtain ⟨w_E3, ev_E3⟩ := exa_v u23a
  have S_E3 : Sta s s.heap "com/example/ramparts/ramparts/tile/Segment" "E3" "Lcom/example/ramparts/ramparts/tile/Segment;" (.ref w_E3) := Sta.start ev_E3 (Or.inr ⟨(hw _ (List.mem_of_getElem? (i := 6) rfl)), (hw _ (List.mem_of_getElem? (i := 43) rfl))⟩)
  have E_E3 : Exa s s.heap w_E3 "com/example/ramparts/ramparts/tile/Segment" := Exa.start ev_E3 u23a
  have F_ordinal_N1 : Fld s s.heap w_N1 "java/lang/Enum" "ordinal" "I" (.int (0 : Int32)) := own_fld u3a ev_N1
  have F_ordinal_N2 : Fld s s.heap w_N2 "java/lang/Enum" "ordinal" "I" (.int (1 : Int32)) := own_fld u4a ev_N2
  have F_ordinal_E2 : Fld s s.heap w_E2 "java/lang/Enum" "ordinal" "I" (.int (4 : Int32)) := own_fld u6a ev_E2
  have F_ordinal_S2 : Fld s s.heap w_S2 "java/lang/Enum" "ordinal" "I" (.int (7 : Int32)) := own_fld u8a ev_S2
  have F_ordinal_W2 : Fld s s.heap w_W2 "java/lang/Enum" "ordinal" "I" (.int (10 : Int32)) := own_fld u10a ev_W2
  have F_ordinal_E1 : Fld s s.heap w_E1 "java/lang/Enum" "ordinal" "I" (.int (3 : Int32)) := own_fld u12a ev_E1
  have F_ordinal_N3 : Fld s s.heap w_N3 "java/lang/Enum" "ordinal" "I" (.int (2 : Int32)) := own_fld u14a ev_N3
  have F_ordinal_W3 : Fld s s.heap w_W3 "java/lang/Enum" "ordinal" "I" (.int (11 : Int32)) := own_fld u16a ev_W3
  have F_ordinal_S3 : Fld s s.heap w_S3 "java/lang/Enum" "ordinal" "I" (.int (8 : Int32)) := own_fld u18a ev_S3
  have F_ordinal_W1 : Fld s s.heap w_W1 "java/lang/Enum" "ordinal" "I" (.int (9 : Int32)) := own_fld u20a ev_W1
  have F_ordinal_S1 : Fld s s.heap w_S1 "java/lang/Enum" "ordinal" "I" (.int (6 : Int32)) := own_fld u22a ev_S1
  have F_ordinal_E3 : Fld s s.heap w_E3 "java/lang/Enum" "ordinal" "I" (.int (5 : Int32)) := own_fld u23b ev_E3
  obtain ⟨n, o, h1, h2, h3, _, L, rfl, ⟨rfl, N⟩, hq⟩ := rm0 l s _ hw tables_1 i0 w_N1 w_N2 w_E2 w_S2 w_W2 w_E1 w_N3 w_W3 w_S3 w_W1 w_S1 w_E3 s.heap s.heap.size (Nat.le_refl _) S_N1 E_N1 F_ordinal_N1 S_N2 E_N2 F_ordinal_N2 S_E2 E_E2 F_ordinal_E2 S_S2 E_S2 F_ordinal_S2 S_W2 E_W2 F_ordinal_W2 S_E1 E_E1 F_ordinal_E1 S_N3 E_N3 F_ordinal_N3 S_W3 E_W3 F_ordinal_W3 S_S3 E_S3 F_ordinal_S3 S_W1 E_W1 F_ordinal_W1 S_S1 E_S1 F_ordinal_S1 S_E3 E_E3 F_ordinal_E3 p e ha hc hk s m _ below hf ((Spec.applies_iff_loose hf).mp happ).1 ⟨rfl, State.Warmed39.refl s, rfl⟩ trivial
  refine ⟨n, _, h1, h2, h3, hpost _ _ _ _ _ _ ⟨Cond.after_iff.mpr rfl, Cond.after_iff.mpr (eq_i res_at (Term.int_eval (1)) rfl), trivial⟩ ⟨hq.1, hq.2.1, (hq.2.2.sift fun y hy => Or.inr (N y hy)).mono (by decide) (by decide)⟩⟩
theorem main_1_1 : Claimed_1_1 := comes_1 fun _ _ _ _ _ _ h hF => ⟨h.1, hF⟩
theorem main_1_2 : Claimed_1_2 := comes_1 fun _ _ _ _ _ _ h hF => ⟨h.2.1, hF⟩
end Jvm.Pilot.@@N@@
namespace Jvm.Pilot.@@N@@
open Jvm Jvm.ClassFile Sem Op Lib Jvm.Free Jvm.Stand Jvm.Pilot.@@N@@.Jvm.D
/-! MADE BY PROGRAM (witnessworld.py) out of the Statement's table words and the real class files: 12 classes; the members and pool entries that the words name. The judged class is class 1, her method 2. -/
namespace start1
open Jvm.ClassFile
def u (s : String) : CpInfo := .utf8 (stringToUtf16 s)
/-- a pool by its gaps: so many unusable entries, then the entry; so many at the end -/
def gap : Nat → List CpInfo → List CpInfo
  | 0, r => r
  | n + 1, r => .unusable :: gap n r
def poolList (es : List (Nat × CpInfo)) (last : Nat) : List CpInfo := es.foldr (fun e r => gap e.1 (e.2 :: r)) (gap last [])
def pool (es : List (Nat × CpInfo)) (last : Nat) : Array CpInfo := ⟨poolList es last⟩
def fileOf (pool : Array CpInfo) (this : Nat) (attrs : Array Attribute := #[]) (ms : Array MethodInfo := #[]) (fl : Nat := 33) (sup : Nat := 0) (ifs : Array Nat := #[]) (fds : Array FieldInfo := #[]) : ClassFile where
  minorVersion := 0
  majorVersion := 65
  constantPool := pool
  accessFlags := fl
  thisClass := this
  superClass := sup
  interfaces := ifs
  fields := fds
  methods := ms
  attributes := attrs
def plain (name : String) (sup : Option ClassId) : Class where
  name := name
  kind := .ordinary
  loader := none
  accessFlags := 33
  super := sup
  interfaces := #[]
  cf := none
  fields := #[]
  methods := #[]
  instanceTypes := #[]
  staticTypes := #[]
  resolved := #[]
  callSites := []
  init := .initialized
  statics := none
  mirror := none

def pool0 : Array CpInfo := pool [(5, u "<init>"), (0, u "()V"), (1, .class_ 10), (1, u "java/lang/Object")] 113

def k0m0 : Method := { name := "<init>", desc := "()V", sig := { parameters := [], returnType := none }, accessFlags := 1, code := none }
/-- java/lang/Object -/
def k0 : Class := { plain "java/lang/Object" none with
  accessFlags := 33
  interfaces := #[]
  cf := some (fileOf pool0 8 #[] #[{ accessFlags := 1, nameIndex := 5, descriptorIndex := 6, attributes := #[] }] 33 0 #[] #[])
  fields := #[]
  methods := #[k0m0]
  instanceTypes := #[]
  staticTypes := #[]
  resolved := Array.replicate 124 none
  statics := none }

def pool1 : Array CpInfo := pool [(2, .class_ 4), (1, u "java/lang/Object"), (0, u "<init>"), (0, u "()V"), (0, .fieldref 8 9), (0, .class_ 10), (0, .nameAndType 11 12), (0, u "com/example/ramparts/ramparts/tile/Segment"), (0, u "N1"), (0, u "Lcom/example/ramparts/ramparts/tile/Segment;"), (0, .fieldref 8 14), (0, .nameAndType 15 12), (0, u "N2"), (0, .fieldref 8 17), (0, .nameAndType 18 12), (0, u "N3"), (0, .fieldref 8 20), (0, .nameAndType 21 12), (0, u "E1"), (0, .fieldref 8 23), (0, .nameAndType 24 12), (0, u "E2"), (0, .fieldref 8 26), (0, .nameAndType 27 12), (0, u "E3"), (0, .fieldref 8 29), (0, .nameAndType 30 12), (0, u "S1"), (0, .fieldref 8 32), (0, .nameAndType 33 12), (0, u "S2"), (0, .fieldref 8 35), (0, .nameAndType 36 12), (0, u "S3"), (0, .fieldref 8 38), (0, .nameAndType 39 12), (0, u "W1"), (0, .fieldref 8 41), (0, .nameAndType 42 12), (0, u "W2"), (0, .fieldref 8 44), (0, .nameAndType 45 12), (0, u "W3"), (0, .integer 2147483647), (0, .methodref 48 49), (0, .class_ 50), (0, .nameAndType 51 52), (0, u "com/example/ramparts/ramparts/tile/SegmentIsMiddlePinLaw"), (0, u "pick"), (0, u "(I)Lcom/example/ramparts/ramparts/tile/Segment;"), (0, .methodref 8 54), (0, .nameAndType 55 56), (0, u "isMiddle"), (0, u "()Z"), (3, u "law"), (0, u "(I)Z")] 2

def k1m0 : Method := { name := "<init>", desc := "()V", sig := { parameters := [], returnType := none }, accessFlags := 2, code := none }
def k1c1 : Code := { maxStack := 2, maxLocals := 1, code := method_2_code, exceptionTable := #[], attributes := #[] }
def k1m1 : Method := { name := "pick", desc := "(I)Lcom/example/ramparts/ramparts/tile/Segment;", sig := { parameters := [.int], returnType := some (.object "com/example/ramparts/ramparts/tile/Segment") }, accessFlags := 10, code := some k1c1 }
def k1c2 : Code := { maxStack := 2, maxLocals := 4, code := code, exceptionTable := #[], attributes := #[] }
def k1m2 : Method := { name := "law", desc := "(I)Z", sig := { parameters := [.int], returnType := some .boolean }, accessFlags := 9, code := some k1c2 }
/-- com/example/ramparts/ramparts/tile/SegmentIsMiddlePinLaw -/
def k1 : Class := { plain "com/example/ramparts/ramparts/tile/SegmentIsMiddlePinLaw" (some 0) with
  accessFlags := 49
  interfaces := #[]
  cf := some (fileOf pool1 48 #[] #[{ accessFlags := 2, nameIndex := 5, descriptorIndex := 6, attributes := #[] }, { accessFlags := 10, nameIndex := 51, descriptorIndex := 52, attributes := #[] }, { accessFlags := 9, nameIndex := 60, descriptorIndex := 61, attributes := #[] }] 49 2 #[] #[])
  fields := #[]
  methods := #[k1m0, k1m1, k1m2]
  instanceTypes := #[]
  staticTypes := #[]
  resolved := Array.replicate 64 none
  statics := none }

def pool2 : Array CpInfo := pool [(1, .class_ 2), (0, u "java/lang/constant/Constable"), (0, .class_ 4), (0, u "java/lang/Object")] 6

/-- java/lang/constant/Constable -/
def k2 : Class := { plain "java/lang/constant/Constable" (some 0) with
  accessFlags := 1537
  interfaces := #[]
  cf := some (fileOf pool2 1 #[] #[] 1537 3 #[] #[])
  fields := #[]
  methods := #[]
  instanceTypes := #[]
  staticTypes := #[]
  resolved := Array.replicate 11 none
  statics := none }

def pool3 : Array CpInfo := pool [(1, .class_ 2), (0, u "java/lang/Comparable"), (0, .class_ 4), (0, u "java/lang/Object")] 7

/-- java/lang/Comparable -/
def k3 : Class := { plain "java/lang/Comparable" (some 0) with
  accessFlags := 1537
  interfaces := #[]
  cf := some (fileOf pool3 1 #[] #[] 1537 3 #[] #[])
  fields := #[]
  methods := #[]
  instanceTypes := #[]
  staticTypes := #[]
  resolved := Array.replicate 12 none
  statics := none }

def pool4 : Array CpInfo := pool [(1, .class_ 2), (0, u "java/io/Serializable"), (0, .class_ 4), (0, u "java/lang/Object")] 2

/-- java/io/Serializable -/
def k4 : Class := { plain "java/io/Serializable" (some 0) with
  accessFlags := 1537
  interfaces := #[]
  cf := some (fileOf pool4 1 #[] #[] 1537 3 #[] #[])
  fields := #[]
  methods := #[]
  instanceTypes := #[]
  staticTypes := #[]
  resolved := Array.replicate 7 none
  statics := none }

def pool5 : Array CpInfo := pool [(2, .class_ 4), (1, u "java/lang/Enum"), (0, u "name"), (0, u "Ljava/lang/String;"), (0, .fieldref 2 8), (0, .nameAndType 9 10), (0, u "ordinal"), (0, u "I"), (1, .class_ 14), (1, u "java/lang/Object"), (4, u "hash"), (86, .class_ 108), (1, u "java/lang/Enum$EnumDesc"), (2, .class_ 112), (0, u "java/lang/constant/Constable"), (0, .class_ 114), (0, u "java/lang/Comparable"), (0, .class_ 116), (0, u "java/io/Serializable"), (9, u "()I")] 77

def k5c0 : Code := { maxStack := 1, maxLocals := 1, code := jdk_37_method_2_code, exceptionTable := #[], attributes := #[] }
def k5m0 : Method := { name := "ordinal", desc := "()I", sig := { parameters := [], returnType := some .int }, accessFlags := 17, code := some k5c0 }
/-- java/lang/Enum -/
def k5 : Class := { plain "java/lang/Enum" (some 0) with
  accessFlags := 1057
  interfaces := #[2, 3, 4]
  cf := some (fileOf pool5 2 #[.nestMembers #[106]] #[{ accessFlags := 17, nameIndex := 9, descriptorIndex := 126, attributes := #[] }] 1057 12 #[111, 113, 115] #[{ accessFlags := 18, nameIndex := 5, descriptorIndex := 6, attributes := #[] }, { accessFlags := 18, nameIndex := 9, descriptorIndex := 10, attributes := #[] }, { accessFlags := 2, nameIndex := 19, descriptorIndex := 10, attributes := #[] }])
  fields := #[{ name := "name", type := (.object "java/lang/String"), accessFlags := 18, slot := 0, constantValue := 0 }, { name := "ordinal", type := .int, accessFlags := 18, slot := 1, constantValue := 0 }, { name := "hash", type := .int, accessFlags := 2, slot := 2, constantValue := 0 }]
  methods := #[k5m0]
  instanceTypes := #[(.object "java/lang/String"), .int, .int]
  staticTypes := #[]
  resolved := Array.replicate 204 none
  statics := none }

def pool6 : Array CpInfo := pool [(1, .class_ 2), (0, u "com/example/ramparts/ramparts/tile/Segment"), (2, u "N1"), (0, u "Lcom/example/ramparts/ramparts/tile/Segment;"), (2, u "N2"), (2, u "N3"), (2, u "E1"), (2, u "E2"), (2, u "E3"), (2, u "S1"), (2, u "S2"), (2, u "S3"), (2, u "W1"), (2, u "W2"), (2, u "W3"), (2, u "$VALUES"), (0, u "[Lcom/example/ramparts/ramparts/tile/Segment;"), (6, .class_ 52), (1, u "java/lang/Enum"), (6, .methodref 1 60), (0, .nameAndType 61 62), (0, u "ordinal"), (0, u "()I"), (2, u "RING"), (38, u "PER_SIDE"), (0, u "I"), (2, u "SIDES"), (7, u "isMiddle"), (0, u "()Z")] 13

def k6c0 : Code := { maxStack := 2, maxLocals := 1, code := prog_36_method_4_code, exceptionTable := #[], attributes := #[] }
def k6m0 : Method := { name := "isMiddle", desc := "()Z", sig := { parameters := [], returnType := some .boolean }, accessFlags := 1, code := some k6c0 }
/-- com/example/ramparts/ramparts/tile/Segment -/
def k6 : Class := { plain "com/example/ramparts/ramparts/tile/Segment" (some 5) with
  accessFlags := 16433
  interfaces := #[]
  cf := some (fileOf pool6 1 #[] #[{ accessFlags := 1, nameIndex := 116, descriptorIndex := 117, attributes := #[] }] 16433 50 #[] #[{ accessFlags := 16409, nameIndex := 5, descriptorIndex := 6, attributes := #[] }, { accessFlags := 16409, nameIndex := 9, descriptorIndex := 6, attributes := #[] }, { accessFlags := 16409, nameIndex := 12, descriptorIndex := 6, attributes := #[] }, { accessFlags := 16409, nameIndex := 15, descriptorIndex := 6, attributes := #[] }, { accessFlags := 16409, nameIndex := 18, descriptorIndex := 6, attributes := #[] }, { accessFlags := 16409, nameIndex := 21, descriptorIndex := 6, attributes := #[] }, { accessFlags := 16409, nameIndex := 24, descriptorIndex := 6, attributes := #[] }, { accessFlags := 16409, nameIndex := 27, descriptorIndex := 6, attributes := #[] }, { accessFlags := 16409, nameIndex := 30, descriptorIndex := 6, attributes := #[] }, { accessFlags := 16409, nameIndex := 33, descriptorIndex := 6, attributes := #[] }, { accessFlags := 16409, nameIndex := 36, descriptorIndex := 6, attributes := #[] }, { accessFlags := 16409, nameIndex := 39, descriptorIndex := 6, attributes := #[] }, { accessFlags := 26, nameIndex := 104, descriptorIndex := 105, attributes := #[] }, { accessFlags := 26, nameIndex := 108, descriptorIndex := 105, attributes := #[] }, { accessFlags := 26, nameIndex := 65, descriptorIndex := 43, attributes := #[] }, { accessFlags := 4122, nameIndex := 42, descriptorIndex := 43, attributes := #[] }])
  fields := #[{ name := "N1", type := (.object "com/example/ramparts/ramparts/tile/Segment"), accessFlags := 16409, slot := 0, constantValue := 0 }, { name := "N2", type := (.object "com/example/ramparts/ramparts/tile/Segment"), accessFlags := 16409, slot := 1, constantValue := 0 }, { name := "N3", type := (.object "com/example/ramparts/ramparts/tile/Segment"), accessFlags := 16409, slot := 2, constantValue := 0 }, { name := "E1", type := (.object "com/example/ramparts/ramparts/tile/Segment"), accessFlags := 16409, slot := 3, constantValue := 0 }, { name := "E2", type := (.object "com/example/ramparts/ramparts/tile/Segment"), accessFlags := 16409, slot := 4, constantValue := 0 }, { name := "E3", type := (.object "com/example/ramparts/ramparts/tile/Segment"), accessFlags := 16409, slot := 5, constantValue := 0 }, { name := "S1", type := (.object "com/example/ramparts/ramparts/tile/Segment"), accessFlags := 16409, slot := 6, constantValue := 0 }, { name := "S2", type := (.object "com/example/ramparts/ramparts/tile/Segment"), accessFlags := 16409, slot := 7, constantValue := 0 }, { name := "S3", type := (.object "com/example/ramparts/ramparts/tile/Segment"), accessFlags := 16409, slot := 8, constantValue := 0 }, { name := "W1", type := (.object "com/example/ramparts/ramparts/tile/Segment"), accessFlags := 16409, slot := 9, constantValue := 0 }, { name := "W2", type := (.object "com/example/ramparts/ramparts/tile/Segment"), accessFlags := 16409, slot := 10, constantValue := 0 }, { name := "W3", type := (.object "com/example/ramparts/ramparts/tile/Segment"), accessFlags := 16409, slot := 11, constantValue := 0 }, { name := "PER_SIDE", type := .int, accessFlags := 26, slot := 12, constantValue := 0 }, { name := "SIDES", type := .int, accessFlags := 26, slot := 13, constantValue := 0 }, { name := "RING", type := (.array (.object "com/example/ramparts/ramparts/tile/Segment")), accessFlags := 26, slot := 14, constantValue := 0 }, { name := "$VALUES", type := (.array (.object "com/example/ramparts/ramparts/tile/Segment")), accessFlags := 4122, slot := 15, constantValue := 0 }]
  methods := #[k6m0]
  instanceTypes := #[(.object "java/lang/String"), .int, .int]
  staticTypes := #[(.object "com/example/ramparts/ramparts/tile/Segment"), (.object "com/example/ramparts/ramparts/tile/Segment"), (.object "com/example/ramparts/ramparts/tile/Segment"), (.object "com/example/ramparts/ramparts/tile/Segment"), (.object "com/example/ramparts/ramparts/tile/Segment"), (.object "com/example/ramparts/ramparts/tile/Segment"), (.object "com/example/ramparts/ramparts/tile/Segment"), (.object "com/example/ramparts/ramparts/tile/Segment"), (.object "com/example/ramparts/ramparts/tile/Segment"), (.object "com/example/ramparts/ramparts/tile/Segment"), (.object "com/example/ramparts/ramparts/tile/Segment"), (.object "com/example/ramparts/ramparts/tile/Segment"), .int, .int, (.array (.object "com/example/ramparts/ramparts/tile/Segment")), (.array (.object "com/example/ramparts/ramparts/tile/Segment"))]
  resolved := Array.replicate 131 none
  statics := some 0 }

def pool7 : Array CpInfo := pool [(1, u "java/lang/Cloneable"), (0, .class_ 1), (0, u "java/lang/Object"), (0, .class_ 3)] 3

/-- java/lang/Cloneable -/
def k7 : Class := { plain "java/lang/Cloneable" (some 0) with
  accessFlags := 1537
  interfaces := #[]
  cf := some (fileOf pool7 2 #[] #[] 1537 4 #[] #[])
  fields := #[]
  methods := #[]
  instanceTypes := #[]
  staticTypes := #[]
  resolved := Array.replicate 8 none
  statics := none }

/-- the primitive byte -/
def k8 : Class := { plain "byte" none with kind := .primitive 'B', accessFlags := 0x411 }
/-- [B -/
def k9 : Class := { plain "[B" (some 0) with kind := .array 8 .byte, interfaces := #[7, 4], accessFlags := 1041 }

/-- the primitive int -/
def k10 : Class := { plain "int" none with kind := .primitive 'I', accessFlags := 0x411 }
/-- [I -/
def k11 : Class := { plain "[I" (some 0) with kind := .array 10 .int, interfaces := #[7, 4], accessFlags := 1041 }

def heap : Heap := #[{ cls := 6, slots := #[.ref 1, .ref 2, .ref 7, .ref 6, .ref 3, .ref 12, .ref 11, .ref 4, .ref 9, .ref 10, .ref 5, .ref 8, .int 0, .int 0, .null, .null], vm := .statics 6 },
  { cls := 6, slots := #[.null, .int 0, .int 0], vm := .none },
  { cls := 6, slots := #[.null, .int 1, .int 0], vm := .none },
  { cls := 6, slots := #[.null, .int 4, .int 0], vm := .none },
  { cls := 6, slots := #[.null, .int 7, .int 0], vm := .none },
  { cls := 6, slots := #[.null, .int 10, .int 0], vm := .none },
  { cls := 6, slots := #[.null, .int 3, .int 0], vm := .none },
  { cls := 6, slots := #[.null, .int 2, .int 0], vm := .none },
  { cls := 6, slots := #[.null, .int 11, .int 0], vm := .none },
  { cls := 6, slots := #[.null, .int 8, .int 0], vm := .none },
  { cls := 6, slots := #[.null, .int 9, .int 0], vm := .none },
  { cls := 6, slots := #[.null, .int 6, .int 0], vm := .none },
  { cls := 6, slots := #[.null, .int 5, .int 0], vm := .none }]
def classes : Array Class := #[k0, k1, k2, k3, k4, k5, k6, k7, k8, k9, k10, k11]
def interned : List (Array UInt16 × Addr) := []
def slotsUsed : Nat := 52
def theMethod : MethodId := ⟨1, 2⟩
def args0 : Array Value := #[.int 5]
def aboutOver (below : List Frame) : State where
  vm := { classes := classes, interned := interned.toArray }
  heap := heap
  slotsUsed := slotsUsed
  threads := #[{ frames := .invoking theMethod args0 :: below }]
def below0 : List Frame := [.native { method := ⟨0, 0⟩, args := #[] }]
def about1 : State := aboutOver below0
def p0 : Program := .bare "" "" ""
def e0 : Env := launch0.env 0 0 0
theorem w_frames : about1.frames = Frame.invoking theMethod args0 :: below0 := rfl
set_option maxRecDepth 65536 in
theorem w_args : argsFit about1.vm theMethod args0 = true := by decide +kernel
set_option maxRecDepth 65536 in
theorem w_heap : heapFits about1 = true := by decide +kernel
set_option maxRecDepth 65536 in
theorem w_runnable : about1.curStatus? = some .runnable := by decide +kernel
set_option maxRecDepth 65536 in
theorem w_alone : about1.alone = true := by decide +kernel
set_option maxRecDepth 65536 in
theorem w_named : about1.methodNamed? x = some theMethod := by decide +kernel
set_option maxRecDepth 65536 in
theorem w_hears : about1.hears theMethod below0 = true := by decide +kernel
set_option maxRecDepth 65536 in
theorem w_ripe : about1.ripe theMethod args0 below0 = true := by decide +kernel
theorem w_running : about1.status = .running := rfl
set_option maxRecDepth 65536 in
theorem w_room : about1.hasRoom e0.platform room_1 = true :=
  launch0.hasRoom_least _ room_1 (by decide +kernel) (by decide +kernel) (by decide +kernel) (by decide +kernel) (by decide +kernel) (by decide +kernel)
theorem allAtoms_all (ts : List Jvm.Cond) (a : Array Jvm.Value) (st : Jvm.State) : (allAtoms ts).before a st = ts.all (fun c => c.before a st) := by
  induction ts with
  | nil => rfl
  | cons c t ih =>
    show (Jvm.Cond.and c (allAtoms t)).before a st = _
    rw [Jvm.Cond.before_and, ih, List.all_cons]
def words1 : List Jvm.Cond := Jvm.Cond.code x code maxLocals ret :: tables_1
/-- a 'code' word, met by the world's own term for the bytes: nothing is compared byte by byte -/
theorem code_word {y : MethodName} {bytes : ByteArray} {mx : Nat} {rt : Option FieldType} {a : Array Value} {s : State} {m : MethodId} {meth : Method} {c : Code} (h1 : s.methodNamed? y = some m) (h2 : s.vm.method? m = some meth) (h3 : meth.code = some c) (h4 : c.code = bytes)
    (h5 : (c.maxLocals == mx && c.exceptionTable.isEmpty && decide (c.maxStack ≤ mostOperands) && decide (meth.sig.returnType = rt) && !meth.locks && decide (parseMethodDescriptor y.desc = some meth.sig)) = true) : (Jvm.Cond.code y bytes mx rt).before a s = true := by
  simp only [Bool.and_eq_true, beq_iff_eq, Bool.not_eq_true', decide_eq_true_eq] at h5
  obtain ⟨⟨⟨⟨⟨g1, g2⟩, g3⟩, g4⟩, g5⟩, g6⟩ := h5
  simp [Cond.before, Cond.holds, Cond.value, h1, h2, h3, h4, g1, g2, g3, g4, g5, g6]
def isCode : Jvm.Cond → Bool
  | .code _ _ _ _ => true
  | _ => false
theorem all_split {L : List Jvm.Cond} {P : Jvm.Cond → Bool} (h1 : L.all (fun c => isCode c || P c) = true) (h2 : ∀ c ∈ L.filter isCode, P c = true) : L.all P = true := by
  refine List.all_eq_true.mpr fun c hc => ?_
  have h := List.all_eq_true.mp h1 c hc
  rcases Bool.eq_false_or_eq_true (isCode c) with hi | hi
  · exact h2 c (List.mem_filter.mpr ⟨hc, hi⟩)
  · simpa [hi] using h
set_option maxRecDepth 65536 in
theorem w_c0 : (Jvm.Cond.code x code maxLocals ret).before args0 about1 = true := code_word (m := ⟨1, 2⟩) (meth := k1m2) (c := k1c2) (by decide +kernel) rfl rfl rfl (by decide +kernel)
set_option maxRecDepth 65536 in
theorem w_c1 : (Jvm.Cond.code ({ cls := "com/example/ramparts/ramparts/tile/SegmentIsMiddlePinLaw", name := "pick", desc := "(I)Lcom/example/ramparts/ramparts/tile/Segment;" } : Jvm.MethodName) method_2_code (1 : Nat) (Option.some (Jvm.ClassFile.FieldType.object "com/example/ramparts/ramparts/tile/Segment"))).before args0 about1 = true := code_word (m := ⟨1, 1⟩) (meth := k1m1) (c := k1c1) (by decide +kernel) rfl rfl rfl (by decide +kernel)
set_option maxRecDepth 65536 in
theorem w_c2 : (Jvm.Cond.code ({ cls := "com/example/ramparts/ramparts/tile/Segment", name := "isMiddle", desc := "()Z" } : Jvm.MethodName) prog_36_method_4_code (1 : Nat) (Option.some Jvm.ClassFile.FieldType.boolean)).before args0 about1 = true := code_word (m := ⟨6, 0⟩) (meth := k6m0) (c := k6c0) (by decide +kernel) rfl rfl rfl (by decide +kernel)
set_option maxRecDepth 65536 in
theorem w_c3 : (Jvm.Cond.code ({ cls := "java/lang/Enum", name := "ordinal", desc := "()I" } : Jvm.MethodName) jdk_37_method_2_code (1 : Nat) (Option.some Jvm.ClassFile.FieldType.int)).before args0 about1 = true := code_word (m := ⟨5, 0⟩) (meth := k5m0) (c := k5c0) (by decide +kernel) rfl rfl rfl (by decide +kernel)
def codes1 : List Jvm.Cond := [Jvm.Cond.code x code maxLocals ret, Jvm.Cond.code ({ cls := "com/example/ramparts/ramparts/tile/SegmentIsMiddlePinLaw", name := "pick", desc := "(I)Lcom/example/ramparts/ramparts/tile/Segment;" } : Jvm.MethodName) method_2_code (1 : Nat) (Option.some (Jvm.ClassFile.FieldType.object "com/example/ramparts/ramparts/tile/Segment")), Jvm.Cond.code ({ cls := "com/example/ramparts/ramparts/tile/Segment", name := "isMiddle", desc := "()Z" } : Jvm.MethodName) prog_36_method_4_code (1 : Nat) (Option.some Jvm.ClassFile.FieldType.boolean), Jvm.Cond.code ({ cls := "java/lang/Enum", name := "ordinal", desc := "()I" } : Jvm.MethodName) jdk_37_method_2_code (1 : Nat) (Option.some Jvm.ClassFile.FieldType.int)]
set_option maxRecDepth 65536 in
theorem codes_eq : words1.filter isCode = codes1 := rfl
theorem w_codes : ∀ c ∈ words1.filter isCode, c.before args0 about1 = true := by
  rw [codes_eq]
  intro c hc
  simp only [codes1, List.mem_cons, List.not_mem_nil, or_false] at hc
  rcases hc with rfl | rfl | rfl | rfl
  · exact w_c0
  · exact w_c1
  · exact w_c2
  · exact w_c3
set_option maxRecDepth 65536 in
theorem w_t1 : (words1.take 24).all (fun c => isCode c || c.before args0 about1) = true := by decide +kernel
set_option maxRecDepth 65536 in
theorem w_t2 : (words1.drop 24).all (fun c => isCode c || c.before args0 about1) = true := by decide +kernel
theorem w_tables : (allAtoms (Jvm.Cond.code x code maxLocals ret :: tables_1)).before args0 about1 = true := by
  rw [allAtoms_all]
  show words1.all (fun c => c.before args0 about1) = true
  refine all_split ?_ w_codes
  rw [← List.take_append_drop 24 words1, List.all_append, w_t1, w_t2]
  rfl
set_option maxRecDepth 65536 in
theorem w_case : (Jvm.Cond.and given_1 narrow_1).before args0 about1 = true := by decide +kernel
theorem w_applies : (headSpec (Jvm.Cond.code x code maxLocals ret :: tables_1) room_1).applies x e0.platform about1 = true :=
  (Spec.applies_iff w_frames).mpr ⟨w_running, w_runnable, w_alone, w_named, w_hears, w_ripe, w_room, w_tables⟩
theorem atStart : AtStart classFile x code maxLocals ret World_1 tables_1 room_1 Calls_1 rest_1 Pre_1 launch0 p0 e0 about1 theMethod args0 below0 :=
  ⟨lists_1, trivial, launch0.admits_env _ _ _, launch0.least_env, fairChoices_fair.cas, fairChoices_fair.clock, w_frames, w_args, w_heap, w_applies, trivial, trivial, w_case⟩
end start1
theorem witness_1 : WitnessClaimed_1 := ⟨start1.p0, start1.e0, start1.about1, start1.theMethod, start1.args0, start1.below0, start1.atStart⟩
end Jvm.Pilot.@@N@@
