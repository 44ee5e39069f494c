import JvmDerived
import JvmDerived.Pilot.@@N@@Statement
import JvmDerived.Pilot.@@N@@Code
set_option linter.unusedVariables false
set_option linter.unusedSimpArgs false
@@BLOCK:NumsL.lean.txt@@
namespace Jvm.OwnW
open Sem ClassFile Op Lib Jvm.Stand Jvm.Free Jvm.LawKit Jvm.RoadKit
section Own
variable {p : Program} {l : Launch} {e : Env} {R : Room} {s : State} {m : MethodId} {args : Array Value} {below : List Frame} {meth : Method} {c : Code} {T : State} {locs : List Loc} {cells slots : Nat} {K N : Nat} {Q : Option Value → Heap → List Loc → Prop}
/-- from U the run comes to the method's end, and what it leaves there is Q -/
def OwnEnds (tb : Tables) (e : Env) (below : List Frame) (s : State) (K N : Nat) (Q : Option Value → Heap → List Loc → Prop) (U : State) : Prop :=
  ∃ s₂ o, Steps tb e below U s₂ ∧ s₂.status = .running ∧ Ended s₂ below o ∧ ∃ v L, o = .returned v ∧ Q v s₂.heap L ∧ FrameEnd s o s₂ L K N
theorem ogo {tb : Tables} {U U' : State} (st : ∀ t, Steps tb e below U' t → Steps tb e below U t) (h : OwnEnds tb e below s K N Q U') : OwnEnds tb e below s K N Q U := by
  obtain ⟨s₂, o, h1, h2⟩ := h
  exact ⟨s₂, o, st _ h1, h2⟩
theorem endR (X : Stand p l e R s m args below meth c T locs cells slots) (hx : p.tables.exec = Jvm.exec) (hlk : meth.locks = false) {pc : Nat} {Ls : Array Slot} {w : Value} {t : FieldType} {i : Instr} {rest : List Value} (hret : meth.sig.returnType = some t) (hn : narrow t w = w)
    (hi : (i = .ireturn ∧ (t = .int ∨ t = .boolean ∨ t = .byte ∨ t = .char ∨ t = .short) ∧ ∃ z, w = .int z) ∨ (i = .lreturn ∧ t = .long ∧ ∃ z, w = .long z) ∨ (i = .dreturn ∧ t = .double ∧ ∃ z, w = .double z) ∨ (i = .freturn ∧ t = .float ∧ ∃ z, w = .float z) ∨ (i = .areturn ∧ t.isReference = true ∧ w.isRef = true))
    (hd : decode c.code pc = .ok (i, 1)) (hK : cells ≤ K) (hN : slots ≤ N) (hQ : Q (some w) T.heap locs) : OwnEnds p.tables e below s K N Q (T.setTop (mkF m pc Ls (w :: rest))) := by
  obtain ⟨fs, hr, hrun, hended, hW, hsame⟩ := X.leave (v := some w) (fun h => by rw [hret] at h; cases h) hlk
  exact ⟨_, _, retOut X hx hret hn hi hd hr, hrun, hended, _, _, rfl, hQ, ⟨_, rfl⟩, hW, hsame.mono hK hN⟩
theorem endI (X : Stand p l e R s m args below meth c T locs cells slots) (hx : p.tables.exec = Jvm.exec) (hlk : meth.locks = false) {pc : Nat} {Ls : Array Slot} {z : Int32} {rest : List Value} (hret : meth.sig.returnType = some .int)
    (hd : decode c.code pc = .ok (.ireturn, 1)) (hK : cells ≤ K) (hN : slots ≤ N) (hQ : Q (some (.int z)) T.heap locs) : OwnEnds p.tables e below s K N Q (T.setTop (mkF m pc Ls (.int z :: rest))) :=
  endR X hx hlk hret rfl (Or.inl ⟨rfl, Or.inl rfl, z, rfl⟩) hd hK hN hQ
theorem endZ (X : Stand p l e R s m args below meth c T locs cells slots) (hx : p.tables.exec = Jvm.exec) (hlk : meth.locks = false) {pc : Nat} {Ls : Array Slot} {z : Int32} {rest : List Value} (hret : meth.sig.returnType = some .boolean) (hn : narrow .boolean (.int z) = .int z)
    (hd : decode c.code pc = .ok (.ireturn, 1)) (hK : cells ≤ K) (hN : slots ≤ N) (hQ : Q (some (.int z)) T.heap locs) : OwnEnds p.tables e below s K N Q (T.setTop (mkF m pc Ls (.int z :: rest))) :=
  endR X hx hlk hret hn (Or.inl ⟨rfl, Or.inr (Or.inl rfl), z, rfl⟩) hd hK hN hQ
theorem endJ (X : Stand p l e R s m args below meth c T locs cells slots) (hx : p.tables.exec = Jvm.exec) (hlk : meth.locks = false) {pc : Nat} {Ls : Array Slot} {z : Int64} {rest : List Value} (hret : meth.sig.returnType = some .long)
    (hd : decode c.code pc = .ok (.lreturn, 1)) (hK : cells ≤ K) (hN : slots ≤ N) (hQ : Q (some (.long z)) T.heap locs) : OwnEnds p.tables e below s K N Q (T.setTop (mkF m pc Ls (.long z :: rest))) :=
  endR X hx hlk hret rfl (Or.inr (Or.inl ⟨rfl, rfl, z, rfl⟩)) hd hK hN hQ
theorem endA (X : Stand p l e R s m args below meth c T locs cells slots) (hx : p.tables.exec = Jvm.exec) (hlk : meth.locks = false) {pc : Nat} {Ls : Array Slot} {w : Value} {t : FieldType} {rest : List Value} (hret : meth.sig.returnType = some t) (ht : t.isReference = true) (hw : w.isRef = true)
    (hd : decode c.code pc = .ok (.areturn, 1)) (hK : cells ≤ K) (hN : slots ≤ N) (hQ : Q (some w) T.heap locs) : OwnEnds p.tables e below s K N Q (T.setTop (mkF m pc Ls (w :: rest))) :=
  endR X hx hlk hret (by rcases ref_cases hw with rfl | ⟨a, rfl⟩ <;> cases t <;> simp_all [narrow, FieldType.isReference]) (Or.inr (Or.inr (Or.inr (Or.inr ⟨rfl, ht, hw⟩)))) hd hK hN hQ
theorem endV (X : Stand p l e R s m args below meth c T locs cells slots) (hx : p.tables.exec = Jvm.exec) (hlk : meth.locks = false) {pc : Nat} {Ls : Array Slot} (hret : meth.sig.returnType = none)
    (hd : decode c.code pc = .ok (.return_, 1)) (hK : cells ≤ K) (hN : slots ≤ N) (hQ : Q none T.heap locs) : OwnEnds p.tables e below s K N Q (T.setTop (mkF m pc Ls [])) := by
  obtain ⟨fs, hr, hrun, hended, hW, hsame⟩ := X.leave (v := none) (fun _ => rfl) hlk
  exact ⟨_, _, X.returnOut hx hret hd hr, hrun, hended, _, _, rfl, hQ, ⟨_, rfl⟩, hW, hsame.mono hK hN⟩
end Own
end Jvm.OwnW
namespace Jvm.Pilot.@@N@@
open Jvm Jvm.ClassFile Sem Op Lib Jvm.Free Jvm.Stand Jvm.LawKit Jvm.RoadKit Jvm.OwnW Bundle Jvm.Pilot.@@N@@.Jvm.D
theorem own_fld {args : Array Value} {s : State} {t : Term} {C n d : String} {k : Int32} {a : Addr} (h : (Cond.eq (.field t C n d) (.int k)).value args s none s [] = some true) (ev : t.eval args s none [] s = some (.ref a)) : Fld s s.heap a C n d (.int k) := by
  obtain ⟨x, y, e1, e2, -, -⟩ := cmp_v (Or.inl h)
  have e3 : y = .int k := (Option.some.inj (e2.symm.trans (Term.int_eval k)))
  subst e3
  have e4 : s.fieldOf? a C n d = some x := by simpa [Term.eval, ev] using e1
  cases x <;> simp [Cond.value, e1, e2] at h
  subst h
  exact Fld.start e4
theorem own_selP {s : State} {args : Array Value} {y z : MethodName} (hz : (Cond.selects z.cls z z).before args s = true) (hc : y.cls = z.cls) (hpriv : s.PrivateAt y) (hinst : (Cond.instanceMethod y).before args s = true) (hy : y.cls ≠ "java/lang/invoke/MethodHandle" ∧ y.cls ≠ "java/lang/invoke/VarHandle") : (Cond.selects y.cls y y).before args s = true := by
  obtain ⟨c2, r2, m2, q1, q2, q3, q4, kP, hkP, hkPi⟩ := Cond.selects_spec hz
  exact selects_self_of_private (by rw [hc]; exact findClass_of_methodNamed q3) hkP hkPi hpriv hinst hy

theorem own_small : ∀ n : Fin 256, (Int32.ofNat n.val &&& 128 = 0) ↔ n.val < 128 := by decide +kernel
theorem own_bit (x : Int32) : (x &&& 128 = 0) ↔ x &&& 255 < 128 := by
  have e1 : (x &&& 255).toInt = x.toInt % 2 ^ 8 := Jvm.Kit.i32_mask x 255 (k := 8) (by decide) (by decide)
  have e2 : x &&& 128 = (x &&& 255) &&& 128 := by rw [Int32.and_assoc]; rfl
  obtain ⟨n, hn⟩ : ∃ n : Nat, (n : Int) = x.toInt % 2 ^ 8 := ⟨(x.toInt % 2 ^ 8).toNat, by omega⟩
  have hlt : n < 256 := by omega
  have e3 : (x &&& 255) = Int32.ofNat n := by
    apply Int32.toInt_inj.mp
    rw [e1, ← hn, Int32.toInt_ofNat_of_lt (by omega)]
  rw [e2, e3]
  have h := own_small ⟨n, hlt⟩
  rw [h, Int32.lt_iff_toInt_lt, Int32.toInt_ofNat_of_lt (by omega)]
  show n < 128 ↔ (n : Int) < 128
  omega
def own_oct (c t r : Int32) : Int32 := if r = 0 then (if t = 0 then c else c ||| 64) else ((if t = 0 then c else c ||| 64) ||| 128)
theorem d1_0 : decode prog_58_method_12_code 0 = .ok (.iload_n 0, 1) := by decide +kernel
theorem d1_1 : decode prog_58_method_12_code 1 = .ok (.sipush 128, 3) := by decide +kernel
theorem d1_4 : decode prog_58_method_12_code 4 = .ok (.iand, 1) := by decide +kernel
theorem d1_5 : decode prog_58_method_12_code 5 = .ok (.ifCond .eq 7, 3) := by decide +kernel
theorem d1_8 : decode prog_58_method_12_code 8 = .ok (.iconst 1, 1) := by decide +kernel
theorem d1_9 : decode prog_58_method_12_code 9 = .ok (.goto 4, 3) := by decide +kernel
theorem d1_12 : decode prog_58_method_12_code 12 = .ok (.iconst 0, 1) := by decide +kernel
theorem d1_13 : decode prog_58_method_12_code 13 = .ok (.ireturn, 1) := by decide +kernel
theorem pn_ElementCode : plainName "com/example/tidingsd/tidingsd/model/ElementCode" = true := by first | (simp [plainName, overriddenIn]; done) | decide +kernel
theorem ef_1 (m : MethodId) (x0 : Int32) : entryFrame m #[(.int x0)] 1 = mkF m 0 #[.val (.int x0)] [] := by first | (simp [entryFrame, mkF, argsToLocals, Value.category]; done) | rfl
def Q1 (Z : State) (p1 : Int32) (h0 : Heap) (n0 : Nat) (v : Option Value) (h : Heap) (L : List Loc) : Prop := v = some (.int (if p1 &&& 128 = 0 then 0 else 1)) ∧ Fr n0 L ∧ h = h0
set_option maxRecDepth 65536 in
set_option maxHeartbeats 40000000 in
theorem rm1 (l : Launch) (Z : State) (a0 : Array Value) (hw : ∀ d ∈ tables_1, d.before a0 Z = true) (ws : List Jvm.Cond) (p1 : Int32) (h0 : Heap) (n0 : Nat) (Z0 : n0 ≤ h0.size) :
    MetFree l (⟨"com/example/tidingsd/tidingsd/model/ElementCode", "containsRef", "(I)Z"⟩ : MethodName) (head1 (Jvm.Cond.code (⟨"com/example/tidingsd/tidingsd/model/ElementCode", "containsRef", "(I)Z"⟩ : MethodName) prog_58_method_12_code 1 (some .boolean) :: ws) ({ frames := 0, cells := 0, slots := 0, locals := 0 } : Room)) (fun a U => a = #[(.int p1)] ∧ Z.Warmed39 U.vm ∧ U.heap = h0) (fun _ _ _ _ _ => True) (fun _ U o U' => ∃ v L, o = .returned v ∧ Q1 Z p1 h0 n0 v U'.heap L ∧ FrameEnd U o U' L ({ frames := 0, cells := 0, slots := 0, locals := 0 } : Room).cells ({ frames := 0, cells := 0, slots := 0, locals := 0 } : Room).slots) := by
  refine MetFree.of_bodySF (plainFor_of_name pn_ElementCode) hisR ?_
  intro p e s m args below meth c s₁ Bd hml0 hP hK
  obtain ⟨rfl, hZ, hh⟩ := hP
  have hx := Bd.exec
  have hby := Bd.bytes
  have hml : c.maxLocals = 1 := hml0
  have hown : s.vm.findClass "com/example/tidingsd/tidingsd/model/ElementCode" = some m.cls := findClass_of_methodNamed Bd.named
  have hnm := (name_of_methodNamed Bd.named Bd.method).1
  have hlk : meth.locks = false := BodyLoose.notSynchronized Bd
  have X0 : Stand p l e ({ frames := 0, cells := 0, slots := 0, locals := 0 } : Room) s m #[(.int p1)] below meth c s₁ [] 0 0 := Stand.of_body Bd
  have e0 : s₁.heap = h0 := by rw [← hh, Bd.state]; rfl
  have N0 := Fr.nil n0
  refine ogo (U' := s₁.setTop (mkF m 0 #[.val (.int p1)] [])) (Q := Q1 Z p1 h0 n0) (K := ({ frames := 0, cells := 0, slots := 0, locals := 0 } : Room).cells) (N := ({ frames := 0, cells := 0, slots := 0, locals := 0 } : Room).slots) (fun t k => castTop (ef_1 m p1) k) ?_
  show OwnEnds _ _ _ _ _ _ _ (s₁.setTop (mkF m 0 #[.val (.int p1)] []))
  refine ogo (fun t k => XS.iloadN X0.here hx rfl (hb hby d1_0) rfl k) ?_
  show OwnEnds _ _ _ _ _ _ _ (s₁.setTop (mkF m 1 #[.val (.int p1)] [(.int p1)]))
  refine ogo (fun t k => XS.sipush X0.here hx rfl (hb hby d1_1) k) ?_
  show OwnEnds _ _ _ _ _ _ _ (s₁.setTop (mkF m 4 #[.val (.int p1)] [(.int (128 : Int32)), (.int p1)]))
  refine ogo (fun t k => XS.iand X0.here hx rfl (hb hby d1_4) rfl k) ?_
  show OwnEnds _ _ _ _ _ _ _ (s₁.setTop (mkF m 5 #[.val (.int p1)] [(.int (p1 &&& (128 : Int32)))]))
  by_cases hc1 : (p1 &&& (128 : Int32)) = (0 : Int32)
  · refine ogo (fun t k => XS.ifYes X0.here hx rfl (pc0 := 5) (pc' := 12) rfl (hb hby d1_5) rfl ((if0 _ _).trans (teq hc1).1) (by decide) (by decide) k) ?_
    show OwnEnds _ _ _ _ _ _ _ (s₁.setTop (mkF m 12 #[.val (.int p1)] []))
    refine ogo (fun t k => XS.iconst X0.here hx rfl (hb hby d1_12) k) ?_
    show OwnEnds _ _ _ _ _ _ _ (s₁.setTop (mkF m 13 #[.val (.int p1)] [(.int (0 : Int32))]))
    refine endZ X0 hx hlk Bd.returns rfl (hb hby d1_13) (by decide) (by decide) ?_
    show Q1 Z p1 h0 n0 _ s₁.heap _
    rw [e0]
    exact ⟨by simp [hc1], N0, rfl⟩
  · refine ogo (fun t k => XS.ifNo X0.here hx rfl (hb hby d1_5) rfl ((if0 _ _).trans (feq hc1).1) k) ?_
    show OwnEnds _ _ _ _ _ _ _ (s₁.setTop (mkF m 8 #[.val (.int p1)] []))
    refine ogo (fun t k => XS.iconst X0.here hx rfl (hb hby d1_8) k) ?_
    show OwnEnds _ _ _ _ _ _ _ (s₁.setTop (mkF m 9 #[.val (.int p1)] [(.int (1 : Int32))]))
    refine ogo (fun t k => XS.goto X0.here hx rfl (pc0 := 9) (pc' := 13) rfl (hb hby d1_9) (by decide) (by decide) k) ?_
    show OwnEnds _ _ _ _ _ _ _ (s₁.setTop (mkF m 13 #[.val (.int p1)] [(.int (1 : Int32))]))
    refine endZ X0 hx hlk Bd.returns rfl (hb hby d1_13) (by decide) (by decide) ?_
    show Q1 Z p1 h0 n0 _ s₁.heap _
    rw [e0]
    exact ⟨by simp [hc1], N0, rfl⟩
theorem d2_0 : decode prog_58_method_6_code 0 = .ok (.aload_n 0, 1) := by decide +kernel
theorem d2_1 : decode prog_58_method_6_code 1 = .ok (.getstatic 31, 3) := by decide +kernel
theorem d2_4 : decode prog_58_method_6_code 4 = .ok (.if_acmp .eq 10, 3) := by decide +kernel
theorem d2_7 : decode prog_58_method_6_code 7 = .ok (.aload_n 0, 1) := by decide +kernel
theorem d2_8 : decode prog_58_method_6_code 8 = .ok (.getstatic 34, 3) := by decide +kernel
theorem d2_11 : decode prog_58_method_6_code 11 = .ok (.if_acmp .ne 7, 3) := by decide +kernel
theorem d2_14 : decode prog_58_method_6_code 14 = .ok (.iconst 1, 1) := by decide +kernel
theorem d2_15 : decode prog_58_method_6_code 15 = .ok (.goto 4, 3) := by decide +kernel
theorem d2_18 : decode prog_58_method_6_code 18 = .ok (.iconst 0, 1) := by decide +kernel
theorem d2_19 : decode prog_58_method_6_code 19 = .ok (.ireturn, 1) := by decide +kernel
theorem ef_2 (m : MethodId) (x0 : Addr) : entryFrame m #[(.ref x0)] 1 = mkF m 0 #[.val (.ref x0)] [] := by first | (simp [entryFrame, mkF, argsToLocals, Value.category]; done) | rfl
def Q2 (Z : State) (a1 w_LIST w_PROPLIST : Addr) (h0 : Heap) (n0 : Nat) (v : Option Value) (h : Heap) (L : List Loc) : Prop := v = some (.int (if a1 = w_LIST then 1 else if a1 = w_PROPLIST then 1 else 0)) ∧ Fr n0 L ∧ h = h0
set_option maxRecDepth 65536 in
set_option maxHeartbeats 40000000 in
theorem rm2 (l : Launch) (Z : State) (a0 : Array Value) (hw : ∀ d ∈ tables_1, d.before a0 Z = true) (ws : List Jvm.Cond) (a1 w_LIST w_PROPLIST : Addr) (h0 : Heap) (n0 : Nat) (Z0 : n0 ≤ h0.size) (S_LIST : Sta Z h0 "com/example/tidingsd/tidingsd/model/ElementCode" "LIST" "Lcom/example/tidingsd/tidingsd/model/ElementCode;" (.ref w_LIST)) (S_PROPLIST : Sta Z h0 "com/example/tidingsd/tidingsd/model/ElementCode" "PROPLIST" "Lcom/example/tidingsd/tidingsd/model/ElementCode;" (.ref w_PROPLIST)) :
    MetFree l (⟨"com/example/tidingsd/tidingsd/model/ElementCode", "isList", "()Z"⟩ : MethodName) (head1 (Jvm.Cond.code (⟨"com/example/tidingsd/tidingsd/model/ElementCode", "isList", "()Z"⟩ : MethodName) prog_58_method_6_code 1 (some .boolean) :: ws) ({ frames := 0, cells := 0, slots := 0, locals := 0 } : Room)) (fun a U => a = #[(.ref a1)] ∧ Z.Warmed39 U.vm ∧ U.heap = h0) (fun _ _ _ _ _ => True) (fun _ U o U' => ∃ v L, o = .returned v ∧ Q2 Z a1 w_LIST w_PROPLIST h0 n0 v U'.heap L ∧ FrameEnd U o U' L ({ frames := 0, cells := 0, slots := 0, locals := 0 } : Room).cells ({ frames := 0, cells := 0, slots := 0, locals := 0 } : Room).slots) := by
  refine MetFree.of_bodySF (plainFor_of_name pn_ElementCode) hisR ?_
  intro p e s m args below meth c s₁ Bd hml0 hP hK
  obtain ⟨rfl, hZ, hh⟩ := hP
  have hx := Bd.exec
  have hby := Bd.bytes
  have hml : c.maxLocals = 1 := hml0
  have hown : s.vm.findClass "com/example/tidingsd/tidingsd/model/ElementCode" = some m.cls := findClass_of_methodNamed Bd.named
  have hnm := (name_of_methodNamed Bd.named Bd.method).1
  have hlk : meth.locks = false := BodyLoose.notSynchronized Bd
  have X0 : Stand p l e ({ frames := 0, cells := 0, slots := 0, locals := 0 } : Room) s m #[(.ref a1)] below meth c s₁ [] 0 0 := Stand.of_body Bd
  have e0 : s₁.heap = h0 := by rw [← hh, Bd.state]; rfl
  have N0 := Fr.nil n0
  refine ogo (U' := s₁.setTop (mkF m 0 #[.val (.ref a1)] [])) (Q := Q2 Z a1 w_LIST w_PROPLIST h0 n0) (K := ({ frames := 0, cells := 0, slots := 0, locals := 0 } : Room).cells) (N := ({ frames := 0, cells := 0, slots := 0, locals := 0 } : Room).slots) (fun t k => castTop (ef_2 m a1) k) ?_
  show OwnEnds _ _ _ _ _ _ _ (s₁.setTop (mkF m 0 #[.val (.ref a1)] []))
  refine ogo (fun t k => XS.aloadN X0.here hx rfl (hb hby d2_0) rfl rfl k) ?_
  show OwnEnds _ _ _ _ _ _ _ (s₁.setTop (mkF m 1 #[.val (.ref a1)] [(.ref a1)]))
  obtain ⟨T1, X1, e1, st1⟩ := getS2 X0 hx hZ hown (host := "") (Or.inl (hw _ (List.mem_of_getElem? (i := 20) rfl))) Via.refl e0 S_LIST (g := (mkF m 1 #[.val (.ref a1)] [(.ref a1)])) rfl (hb hby d2_1)
  refine ogo st1 ?_
  show OwnEnds _ _ _ _ _ _ _ (T1.setTop (mkF m 4 #[.val (.ref a1)] [(.ref w_LIST), (.ref a1)]))
  by_cases hc2 : a1 = w_LIST
  · refine ogo (fun t k => Jvm.RoadKit.acmp (g := (mkF m 4 #[.val (.ref a1)] [(.ref w_LIST), (.ref a1)])) X1 hx rfl rfl rfl (pc0 := 4) (pc' := 14) (same := true) rfl (hb hby d2_4) rfl (decide_eq_true (congrArg Value.ref hc2)) (by decide) (by decide) k) ?_
    show OwnEnds _ _ _ _ _ _ _ (T1.setTop (mkF m 14 #[.val (.ref a1)] []))
    refine ogo (fun t k => XS.iconst X1.here hx rfl (hb hby d2_14) k) ?_
    show OwnEnds _ _ _ _ _ _ _ (T1.setTop (mkF m 15 #[.val (.ref a1)] [(.int (1 : Int32))]))
    refine ogo (fun t k => XS.goto X1.here hx rfl (pc0 := 15) (pc' := 19) rfl (hb hby d2_15) (by decide) (by decide) k) ?_
    show OwnEnds _ _ _ _ _ _ _ (T1.setTop (mkF m 19 #[.val (.ref a1)] [(.int (1 : Int32))]))
    refine endZ X1 hx hlk Bd.returns rfl (hb hby d2_19) (by decide) (by decide) ?_
    show Q2 Z a1 w_LIST w_PROPLIST h0 n0 _ T1.heap _
    rw [e1]
    exact ⟨by simp [hc2], N0, rfl⟩
  · refine ogo (fun t k => Jvm.RoadKit.acmp (g := (mkF m 4 #[.val (.ref a1)] [(.ref w_LIST), (.ref a1)])) X1 hx rfl rfl rfl (pc0 := 4) (pc' := 7) (same := false) rfl (hb hby d2_4) rfl (decide_eq_false fun q => hc2 (Value.ref.inj q)) (by decide) (by decide) k) ?_
    show OwnEnds _ _ _ _ _ _ _ (T1.setTop (mkF m 7 #[.val (.ref a1)] []))
    refine ogo (fun t k => XS.aloadN X1.here hx rfl (hb hby d2_7) rfl rfl k) ?_
    show OwnEnds _ _ _ _ _ _ _ (T1.setTop (mkF m 8 #[.val (.ref a1)] [(.ref a1)]))
    obtain ⟨T3, X3, e3, st3⟩ := getS2 X1 hx hZ hown (host := "") (Or.inl (hw _ (List.mem_of_getElem? (i := 25) rfl))) Via.refl e1 S_PROPLIST (g := (mkF m 8 #[.val (.ref a1)] [(.ref a1)])) rfl (hb hby d2_8)
    refine ogo st3 ?_
    show OwnEnds _ _ _ _ _ _ _ (T3.setTop (mkF m 11 #[.val (.ref a1)] [(.ref w_PROPLIST), (.ref a1)]))
    by_cases hc4 : a1 = w_PROPLIST
    · refine ogo (fun t k => Jvm.RoadKit.acmp (g := (mkF m 11 #[.val (.ref a1)] [(.ref w_PROPLIST), (.ref a1)])) X3 hx rfl rfl rfl (pc0 := 11) (pc' := 14) (same := true) rfl (hb hby d2_11) rfl (decide_eq_true (congrArg Value.ref hc4)) (by decide) (by decide) k) ?_
      show OwnEnds _ _ _ _ _ _ _ (T3.setTop (mkF m 14 #[.val (.ref a1)] []))
      refine ogo (fun t k => XS.iconst X3.here hx rfl (hb hby d2_14) k) ?_
      show OwnEnds _ _ _ _ _ _ _ (T3.setTop (mkF m 15 #[.val (.ref a1)] [(.int (1 : Int32))]))
      refine ogo (fun t k => XS.goto X3.here hx rfl (pc0 := 15) (pc' := 19) rfl (hb hby d2_15) (by decide) (by decide) k) ?_
      show OwnEnds _ _ _ _ _ _ _ (T3.setTop (mkF m 19 #[.val (.ref a1)] [(.int (1 : Int32))]))
      refine endZ X3 hx hlk Bd.returns rfl (hb hby d2_19) (by decide) (by decide) ?_
      show Q2 Z a1 w_LIST w_PROPLIST h0 n0 _ T3.heap _
      rw [e3]
      exact ⟨by simp [hc2, hc4], N0, rfl⟩
    · refine ogo (fun t k => Jvm.RoadKit.acmp (g := (mkF m 11 #[.val (.ref a1)] [(.ref w_PROPLIST), (.ref a1)])) X3 hx rfl rfl rfl (pc0 := 11) (pc' := 18) (same := false) rfl (hb hby d2_11) rfl (decide_eq_false fun q => hc4 (Value.ref.inj q)) (by decide) (by decide) k) ?_
      show OwnEnds _ _ _ _ _ _ _ (T3.setTop (mkF m 18 #[.val (.ref a1)] []))
      refine ogo (fun t k => XS.iconst X3.here hx rfl (hb hby d2_18) k) ?_
      show OwnEnds _ _ _ _ _ _ _ (T3.setTop (mkF m 19 #[.val (.ref a1)] [(.int (0 : Int32))]))
      refine endZ X3 hx hlk Bd.returns rfl (hb hby d2_19) (by decide) (by decide) ?_
      show Q2 Z a1 w_LIST w_PROPLIST h0 n0 _ T3.heap _
      rw [e3]
      exact ⟨by simp [hc2, hc4], N0, rfl⟩
theorem d3_0 : decode prog_58_method_10_code 0 = .ok (.iload_n 1, 1) := by decide +kernel
theorem d3_1 : decode prog_58_method_10_code 1 = .ok (.ifCond .eq 27, 3) := by decide +kernel
theorem d3_4 : decode prog_58_method_10_code 4 = .ok (.aload_n 0, 1) := by decide +kernel
theorem d3_5 : decode prog_58_method_10_code 5 = .ok (.invokevirtual 113, 3) := by decide +kernel
theorem d3_8 : decode prog_58_method_10_code 8 = .ok (.ifCond .ne 20, 3) := by decide +kernel
theorem d3_28 : decode prog_58_method_10_code 28 = .ok (.return_, 1) := by decide +kernel
theorem pd___Z : parseMethodDescriptor "()Z" = some ⟨[], some .boolean⟩ := by decide +kernel
theorem ef_3 (m : MethodId) (x0 : Addr) (x1 : Int32) : entryFrame m #[(.ref x0), (.int x1)] 2 = mkF m 0 #[.val (.ref x0), .val (.int x1)] [] := by first | (simp [entryFrame, mkF, argsToLocals, Value.category]; done) | rfl
def Q3 (Z : State) (a1 : Addr) (f1 : Int32) (w_LIST w_PROPLIST : Addr) (h0 : Heap) (n0 : Nat) (v : Option Value) (h : Heap) (L : List Loc) : Prop := v = none ∧ Fr n0 L ∧ h = h0
set_option maxRecDepth 65536 in
set_option maxHeartbeats 40000000 in
theorem rm3 (l : Launch) (Z : State) (a0 : Array Value) (hw : ∀ d ∈ tables_1, d.before a0 Z = true) (ws : List Jvm.Cond) (a1 : Addr) (f1 : Int32) (w_LIST w_PROPLIST : Addr) (h0 : Heap) (n0 : Nat) (Z0 : n0 ≤ h0.size) (S_LIST : Sta Z h0 "com/example/tidingsd/tidingsd/model/ElementCode" "LIST" "Lcom/example/tidingsd/tidingsd/model/ElementCode;" (.ref w_LIST)) (S_PROPLIST : Sta Z h0 "com/example/tidingsd/tidingsd/model/ElementCode" "PROPLIST" "Lcom/example/tidingsd/tidingsd/model/ElementCode;" (.ref w_PROPLIST)) (E_a : Exa Z h0 a1 "com/example/tidingsd/tidingsd/model/ElementCode") (hl : a1 = w_LIST ∨ a1 = w_PROPLIST) :
    MetFree l (⟨"com/example/tidingsd/tidingsd/model/ElementCode", "refuseShareBitsUnlessList", "(Z)V"⟩ : MethodName) (head1 (Jvm.Cond.code (⟨"com/example/tidingsd/tidingsd/model/ElementCode", "refuseShareBitsUnlessList", "(Z)V"⟩ : MethodName) prog_58_method_10_code 2 none :: ws) ({ frames := 1, cells := 0, slots := 0, locals := 12 } : Room)) (fun a U => a = #[(.ref a1), (.int f1)] ∧ Z.Warmed39 U.vm ∧ U.heap = h0) (fun _ _ _ _ _ => True) (fun _ U o U' => ∃ v L, o = .returned v ∧ Q3 Z a1 f1 w_LIST w_PROPLIST h0 n0 v U'.heap L ∧ FrameEnd U o U' L ({ frames := 1, cells := 0, slots := 0, locals := 12 } : Room).cells ({ frames := 1, cells := 0, slots := 0, locals := 12 } : Room).slots) := by
  refine MetFree.of_bodySF (plainFor_of_name pn_ElementCode) hisR ?_
  intro p e s m args below meth c s₁ Bd hml0 hP hK
  obtain ⟨rfl, hZ, hh⟩ := hP
  have hx := Bd.exec
  have hby := Bd.bytes
  have hml : c.maxLocals = 2 := hml0
  have hown : s.vm.findClass "com/example/tidingsd/tidingsd/model/ElementCode" = some m.cls := findClass_of_methodNamed Bd.named
  have hnm := (name_of_methodNamed Bd.named Bd.method).1
  have hlk : meth.locks = false := BodyLoose.notSynchronized Bd
  have X0 : Stand p l e ({ frames := 1, cells := 0, slots := 0, locals := 12 } : Room) s m #[(.ref a1), (.int f1)] below meth c s₁ [] 0 0 := Stand.of_body Bd
  have e0 : s₁.heap = h0 := by rw [← hh, Bd.state]; rfl
  have N0 := Fr.nil n0
  refine ogo (U' := s₁.setTop (mkF m 0 #[.val (.ref a1), .val (.int f1)] [])) (Q := Q3 Z a1 f1 w_LIST w_PROPLIST h0 n0) (K := ({ frames := 1, cells := 0, slots := 0, locals := 12 } : Room).cells) (N := ({ frames := 1, cells := 0, slots := 0, locals := 12 } : Room).slots) (fun t k => castTop (ef_3 m a1 f1) k) ?_
  show OwnEnds _ _ _ _ _ _ _ (s₁.setTop (mkF m 0 #[.val (.ref a1), .val (.int f1)] []))
  refine ogo (fun t k => XS.iloadN X0.here hx rfl (hb hby d3_0) rfl k) ?_
  show OwnEnds _ _ _ _ _ _ _ (s₁.setTop (mkF m 1 #[.val (.ref a1), .val (.int f1)] [(.int f1)]))
  by_cases hc1 : f1 = (0 : Int32)
  · refine ogo (fun t k => XS.ifYes X0.here hx rfl (pc0 := 1) (pc' := 28) rfl (hb hby d3_1) rfl ((if0 _ _).trans (teq hc1).1) (by decide) (by decide) k) ?_
    show OwnEnds _ _ _ _ _ _ _ (s₁.setTop (mkF m 28 #[.val (.ref a1), .val (.int f1)] []))
    refine endV X0 hx hlk Bd.returns (hb hby d3_28) (by decide) (by decide) ?_
    show Q3 Z a1 f1 w_LIST w_PROPLIST h0 n0 _ s₁.heap _
    rw [e0]
    exact ⟨rfl, N0, rfl⟩
  · refine ogo (fun t k => XS.ifNo X0.here hx rfl (hb hby d3_1) rfl ((if0 _ _).trans (feq hc1).1) k) ?_
    show OwnEnds _ _ _ _ _ _ _ (s₁.setTop (mkF m 4 #[.val (.ref a1), .val (.int f1)] []))
    refine ogo (fun t k => XS.aloadN X0.here hx rfl (hb hby d3_4) rfl rfl k) ?_
    show OwnEnds _ _ _ _ _ _ _ (s₁.setTop (mkF m 5 #[.val (.ref a1), .val (.int f1)] [(.ref a1)]))
    obtain ⟨cq2, kq2, q2a, q2b, q2c⟩ := isOf hZ e0 E_a
    obtain ⟨v2, _, ⟨T2, L2, k2, n2⟩, -, X2, ⟨Lc2, hQ2, l2, y2, z2⟩, st2⟩ := X0.virtualBack hx (y := (⟨"com/example/tidingsd/tidingsd/model/ElementCode", "isList", "()Z"⟩ : MethodName)) (z := (⟨"com/example/tidingsd/tidingsd/model/ElementCode", "isList", "()Z"⟩ : MethodName)) hown (mvT hZ (hw _ (List.mem_of_getElem? (i := 15) rfl))) (mvT hZ (hw _ (List.mem_of_getElem? (i := 16) rfl))) (notFace_of_selects (args := #[]) (mvT hZ (hw _ (List.mem_of_getElem? (i := 18) rfl)))) (mvT hZ (hw _ (List.mem_of_getElem? (i := 18) rfl))) (mvT hZ (hw _ (List.mem_of_getElem? (i := 17) rfl))) (by decide) (backOf (W := 0) (rm2 l Z a0 hw [] a1 w_LIST w_PROPLIST h0 n0 Z0 S_LIST S_PROPLIST) hZ (hw _ (List.mem_of_getElem? (i := 19) rfl)) (hw _ (List.mem_of_getElem? (i := 2) rfl)) (by decide) (by decide)) q2a q2c (g := (mkF m 5 #[.val (.ref a1), .val (.int f1)] [(.ref a1)])) rfl (by rw [hml]; rfl) (Steps.refl _) (argsL := []) (rest := []) (lenOf pd___Z rfl) rfl (by show 2 * 0 + _ ≤ _; exact Nat.le_of_eq rfl) (hb hby d3_5) (fun _ _ => ⟨rfl, e0, (by decide : 0 + 0 ≤ _), (by decide : 0 + 0 ≤ _)⟩)
    dsimp only [Pt.U, Pt.locs, Pt.cells, Pt.slots] at X2 l2 y2 z2 st2 hQ2
    subst l2 y2 z2
    obtain ⟨hv2, N2q, e2⟩ := hQ2
    obtain rfl : v2 = some (.int (1 : Int32)) := hv2.trans (by rcases hl with q | q <;> simp [q])
    have N2 := Fr.app N0 N2q
    refine ogo (fun t k => st2.trans k) ?_
    show OwnEnds _ _ _ _ _ _ _ (T2.setTop (mkF m 8 #[.val (.ref a1), .val (.int f1)] [(.int (1 : Int32))]))
    refine ogo (fun t k => XS.ifYes X2.here hx rfl (pc0 := 8) (pc' := 28) rfl (hb hby d3_8) rfl ((if0 _ _).trans (feq (by decide : ¬ ((1 : Int32) = (0 : Int32)))).2) (by decide) (by decide) k) ?_
    show OwnEnds _ _ _ _ _ _ _ (T2.setTop (mkF m 28 #[.val (.ref a1), .val (.int f1)] []))
    refine endV X2 hx hlk Bd.returns (hb hby d3_28) (by decide) (by decide) ?_
    show Q3 Z a1 f1 w_LIST w_PROPLIST h0 n0 _ T2.heap _
    rw [e2]
    exact ⟨rfl, N2, rfl⟩
theorem d4_0 : decode prog_58_method_7_code 0 = .ok (.aload_n 0, 1) := by decide +kernel
theorem d4_1 : decode prog_58_method_7_code 1 = .ok (.iload_n 1, 1) := by decide +kernel
theorem d4_2 : decode prog_58_method_7_code 2 = .ok (.ifCond .ne 7, 3) := by decide +kernel
theorem d4_5 : decode prog_58_method_7_code 5 = .ok (.iload_n 2, 1) := by decide +kernel
theorem d4_6 : decode prog_58_method_7_code 6 = .ok (.ifCond .eq 7, 3) := by decide +kernel
theorem d4_9 : decode prog_58_method_7_code 9 = .ok (.iconst 1, 1) := by decide +kernel
theorem d4_10 : decode prog_58_method_7_code 10 = .ok (.goto 4, 3) := by decide +kernel
theorem d4_13 : decode prog_58_method_7_code 13 = .ok (.iconst 0, 1) := by decide +kernel
theorem d4_14 : decode prog_58_method_7_code 14 = .ok (.invokevirtual 76, 3) := by decide +kernel
theorem d4_17 : decode prog_58_method_7_code 17 = .ok (.aload_n 0, 1) := by decide +kernel
theorem d4_18 : decode prog_58_method_7_code 18 = .ok (.getfield 68, 3) := by decide +kernel
theorem d4_21 : decode prog_58_method_7_code 21 = .ok (.istore_n 3, 1) := by decide +kernel
theorem d4_22 : decode prog_58_method_7_code 22 = .ok (.iload_n 1, 1) := by decide +kernel
theorem d4_23 : decode prog_58_method_7_code 23 = .ok (.ifCond .eq 8, 3) := by decide +kernel
theorem d4_26 : decode prog_58_method_7_code 26 = .ok (.iload_n 3, 1) := by decide +kernel
theorem d4_27 : decode prog_58_method_7_code 27 = .ok (.bipush 64, 2) := by decide +kernel
theorem d4_29 : decode prog_58_method_7_code 29 = .ok (.ior, 1) := by decide +kernel
theorem d4_30 : decode prog_58_method_7_code 30 = .ok (.istore_n 3, 1) := by decide +kernel
theorem d4_31 : decode prog_58_method_7_code 31 = .ok (.iload_n 2, 1) := by decide +kernel
theorem d4_32 : decode prog_58_method_7_code 32 = .ok (.ifCond .eq 9, 3) := by decide +kernel
theorem d4_35 : decode prog_58_method_7_code 35 = .ok (.iload_n 3, 1) := by decide +kernel
theorem d4_36 : decode prog_58_method_7_code 36 = .ok (.sipush 128, 3) := by decide +kernel
theorem d4_39 : decode prog_58_method_7_code 39 = .ok (.ior, 1) := by decide +kernel
theorem d4_40 : decode prog_58_method_7_code 40 = .ok (.istore_n 3, 1) := by decide +kernel
theorem d4_41 : decode prog_58_method_7_code 41 = .ok (.iload_n 3, 1) := by decide +kernel
theorem d4_42 : decode prog_58_method_7_code 42 = .ok (.ireturn, 1) := by decide +kernel
theorem pd__Z_V : parseMethodDescriptor "(Z)V" = some ⟨[.boolean], none⟩ := by decide +kernel
theorem ef_4 (m : MethodId) (x0 : Addr) (x1 : Int32) (x2 : Int32) : entryFrame m #[(.ref x0), (.int x1), (.int x2)] 4 = mkF m 0 #[.val (.ref x0), .val (.int x1), .val (.int x2), .unset] [] := by first | (simp [entryFrame, mkF, argsToLocals, Value.category]; done) | rfl
def Q4 (Z : State) (a1 : Addr) (t1 r1 c1 : Int32) (w_LIST w_PROPLIST : Addr) (h0 : Heap) (n0 : Nat) (v : Option Value) (h : Heap) (L : List Loc) : Prop := v = some (.int (own_oct c1 t1 r1)) ∧ Fr n0 L ∧ h = h0
set_option maxRecDepth 65536 in
set_option maxHeartbeats 40000000 in
theorem rm4 (l : Launch) (Z : State) (a0 : Array Value) (hw : ∀ d ∈ tables_1, d.before a0 Z = true) (ws : List Jvm.Cond) (a1 : Addr) (t1 r1 c1 : Int32) (w_LIST w_PROPLIST : Addr) (h0 : Heap) (n0 : Nat) (Z0 : n0 ≤ h0.size) (S_LIST : Sta Z h0 "com/example/tidingsd/tidingsd/model/ElementCode" "LIST" "Lcom/example/tidingsd/tidingsd/model/ElementCode;" (.ref w_LIST)) (S_PROPLIST : Sta Z h0 "com/example/tidingsd/tidingsd/model/ElementCode" "PROPLIST" "Lcom/example/tidingsd/tidingsd/model/ElementCode;" (.ref w_PROPLIST)) (E_a : Exa Z h0 a1 "com/example/tidingsd/tidingsd/model/ElementCode") (hl : a1 = w_LIST ∨ a1 = w_PROPLIST) (F_c : Fld Z h0 a1 "com/example/tidingsd/tidingsd/model/ElementCode" "code" "I" (.int c1)) :
    MetFree l (⟨"com/example/tidingsd/tidingsd/model/ElementCode", "octet", "(ZZ)I"⟩ : MethodName) (head1 (Jvm.Cond.code (⟨"com/example/tidingsd/tidingsd/model/ElementCode", "octet", "(ZZ)I"⟩ : MethodName) prog_58_method_7_code 4 (some .int) :: ws) ({ frames := 2, cells := 0, slots := 0, locals := 25 } : Room)) (fun a U => a = #[(.ref a1), (.int t1), (.int r1)] ∧ Z.Warmed39 U.vm ∧ U.heap = h0) (fun _ _ _ _ _ => True) (fun _ U o U' => ∃ v L, o = .returned v ∧ Q4 Z a1 t1 r1 c1 w_LIST w_PROPLIST h0 n0 v U'.heap L ∧ FrameEnd U o U' L ({ frames := 2, cells := 0, slots := 0, locals := 25 } : Room).cells ({ frames := 2, cells := 0, slots := 0, locals := 25 } : Room).slots) := by
  refine MetFree.of_bodySF (plainFor_of_name pn_ElementCode) hisR ?_
  intro p e s m args below meth c s₁ Bd hml0 hP hK
  obtain ⟨rfl, hZ, hh⟩ := hP
  have hx := Bd.exec
  have hby := Bd.bytes
  have hml : c.maxLocals = 4 := hml0
  have hown : s.vm.findClass "com/example/tidingsd/tidingsd/model/ElementCode" = some m.cls := findClass_of_methodNamed Bd.named
  have hnm := (name_of_methodNamed Bd.named Bd.method).1
  have hlk : meth.locks = false := BodyLoose.notSynchronized Bd
  have X0 : Stand p l e ({ frames := 2, cells := 0, slots := 0, locals := 25 } : Room) s m #[(.ref a1), (.int t1), (.int r1)] below meth c s₁ [] 0 0 := Stand.of_body Bd
  have e0 : s₁.heap = h0 := by rw [← hh, Bd.state]; rfl
  have N0 := Fr.nil n0
  refine ogo (U' := s₁.setTop (mkF m 0 #[.val (.ref a1), .val (.int t1), .val (.int r1), .unset] [])) (Q := Q4 Z a1 t1 r1 c1 w_LIST w_PROPLIST h0 n0) (K := ({ frames := 2, cells := 0, slots := 0, locals := 25 } : Room).cells) (N := ({ frames := 2, cells := 0, slots := 0, locals := 25 } : Room).slots) (fun t k => castTop (ef_4 m a1 t1 r1) k) ?_
  show OwnEnds _ _ _ _ _ _ _ (s₁.setTop (mkF m 0 #[.val (.ref a1), .val (.int t1), .val (.int r1), .unset] []))
  refine ogo (fun t k => XS.aloadN X0.here hx rfl (hb hby d4_0) rfl rfl k) ?_
  show OwnEnds _ _ _ _ _ _ _ (s₁.setTop (mkF m 1 #[.val (.ref a1), .val (.int t1), .val (.int r1), .unset] [(.ref a1)]))
  refine ogo (fun t k => XS.iloadN X0.here hx rfl (hb hby d4_1) rfl k) ?_
  show OwnEnds _ _ _ _ _ _ _ (s₁.setTop (mkF m 2 #[.val (.ref a1), .val (.int t1), .val (.int r1), .unset] [(.int t1), (.ref a1)]))
  by_cases hc1 : t1 = (0 : Int32)
  · refine ogo (fun t k => XS.ifNo X0.here hx rfl (hb hby d4_2) rfl ((if0 _ _).trans (teq hc1).2) k) ?_
    show OwnEnds _ _ _ _ _ _ _ (s₁.setTop (mkF m 5 #[.val (.ref a1), .val (.int t1), .val (.int r1), .unset] [(.ref a1)]))
    refine ogo (fun t k => XS.iloadN X0.here hx rfl (hb hby d4_5) rfl k) ?_
    show OwnEnds _ _ _ _ _ _ _ (s₁.setTop (mkF m 6 #[.val (.ref a1), .val (.int t1), .val (.int r1), .unset] [(.int r1), (.ref a1)]))
    by_cases hc2 : r1 = (0 : Int32)
    · refine ogo (fun t k => XS.ifYes X0.here hx rfl (pc0 := 6) (pc' := 13) rfl (hb hby d4_6) rfl ((if0 _ _).trans (teq hc2).1) (by decide) (by decide) k) ?_
      show OwnEnds _ _ _ _ _ _ _ (s₁.setTop (mkF m 13 #[.val (.ref a1), .val (.int t1), .val (.int r1), .unset] [(.ref a1)]))
      refine ogo (fun t k => XS.iconst X0.here hx rfl (hb hby d4_13) k) ?_
      show OwnEnds _ _ _ _ _ _ _ (s₁.setTop (mkF m 14 #[.val (.ref a1), .val (.int t1), .val (.int r1), .unset] [(.int (0 : Int32)), (.ref a1)]))
      obtain ⟨cq3, q3, q3'⟩ := E_a.cell
      obtain ⟨v3, _, ⟨T3, L3, k3, n3⟩, -, X3, ⟨Lc3, hQ3, l3, y3, z3⟩, st3⟩ := X0.privateBack hx (y := (⟨"com/example/tidingsd/tidingsd/model/ElementCode", "refuseShareBitsUnlessList", "(Z)V"⟩ : MethodName)) hown (mvT hZ (hw _ (List.mem_of_getElem? (i := 11) rfl))) (mvT hZ (hw _ (List.mem_of_getElem? (i := 12) rfl))) (own_selP (z := (⟨"com/example/tidingsd/tidingsd/model/ElementCode", "octet", "(ZZ)I"⟩ : MethodName)) (mvT hZ (hw _ (List.mem_of_getElem? (i := 9) rfl))) rfl (Cond.privateMethod_at (mvP hZ (hw _ (List.mem_of_getElem? (i := 13) rfl)) (args := #[]))) (mvT hZ (hw _ (List.mem_of_getElem? (i := 12) rfl))) (by decide)) (Cond.privateMethod_at (mvP hZ (hw _ (List.mem_of_getElem? (i := 13) rfl)) (args := #[]))) (mvT hZ (hw _ (List.mem_of_getElem? (i := 14) rfl))) (by decide) (backOf (W := 0) (rm3 l Z a0 hw [] a1 (0 : Int32) w_LIST w_PROPLIST h0 n0 Z0 S_LIST S_PROPLIST E_a hl) hZ (hw _ (List.mem_of_getElem? (i := 14) rfl)) (hw _ (List.mem_of_getElem? (i := 2) rfl)) (by decide) (by decide)) (g := (mkF m 14 #[.val (.ref a1), .val (.int t1), .val (.int r1), .unset] [(.int (0 : Int32)), (.ref a1)])) rfl (by rw [hml]; rfl) (Steps.refl _) (a := a1) (by rw [e0]; exact q3) q3' (argsL := [(.int (0 : Int32))]) (rest := []) (lenOf pd__Z_V rfl) rfl (by show 2 * 0 + _ ≤ _; exact Nat.le_of_eq rfl) (hb hby d4_14) (fun _ _ => ⟨rfl, e0, (by decide : 0 + 0 ≤ _), (by decide : 0 + 0 ≤ _)⟩)
      dsimp only [Pt.U, Pt.locs, Pt.cells, Pt.slots] at X3 l3 y3 z3 st3 hQ3
      subst l3 y3 z3
      obtain ⟨rfl, N3q, e3⟩ := hQ3
      have N3 := Fr.app N0 N3q
      refine ogo (fun t k => st3.trans k) ?_
      show OwnEnds _ _ _ _ _ _ _ (T3.setTop (mkF m 17 #[.val (.ref a1), .val (.int t1), .val (.int r1), .unset] []))
      refine ogo (fun t k => XS.aloadN X3.here hx rfl (hb hby d4_17) rfl rfl k) ?_
      show OwnEnds _ _ _ _ _ _ _ (T3.setTop (mkF m 18 #[.val (.ref a1), .val (.int t1), .val (.int r1), .unset] [(.ref a1)]))
      obtain ⟨T4, X4, e4, st4⟩ := getF X3 hx hZ hown (host := "") (Or.inl (hw _ (List.mem_of_getElem? (i := 21) rfl))) Via.refl e3 F_c (g := (mkF m 18 #[.val (.ref a1), .val (.int t1), .val (.int r1), .unset] [(.ref a1)])) rfl rfl (hb hby d4_18)
      refine ogo st4 ?_
      show OwnEnds _ _ _ _ _ _ _ (T4.setTop (mkF m 21 #[.val (.ref a1), .val (.int t1), .val (.int r1), .unset] [(.int c1)]))
      refine ogo (fun t k => XS.istoreN X4.here hx rfl (hb hby d4_21) rfl (l' := #[.val (.ref a1), .val (.int t1), .val (.int r1), .val (.int c1)]) rfl k) ?_
      show OwnEnds _ _ _ _ _ _ _ (T4.setTop (mkF m 22 #[.val (.ref a1), .val (.int t1), .val (.int r1), .val (.int c1)] []))
      refine ogo (fun t k => XS.iloadN X4.here hx rfl (hb hby d4_22) rfl k) ?_
      show OwnEnds _ _ _ _ _ _ _ (T4.setTop (mkF m 23 #[.val (.ref a1), .val (.int t1), .val (.int r1), .val (.int c1)] [(.int t1)]))
      refine ogo (fun t k => XS.ifYes X4.here hx rfl (pc0 := 23) (pc' := 31) rfl (hb hby d4_23) rfl ((if0 _ _).trans (teq hc1).1) (by decide) (by decide) k) ?_
      show OwnEnds _ _ _ _ _ _ _ (T4.setTop (mkF m 31 #[.val (.ref a1), .val (.int t1), .val (.int r1), .val (.int c1)] []))
      refine ogo (fun t k => XS.iloadN X4.here hx rfl (hb hby d4_31) rfl k) ?_
      show OwnEnds _ _ _ _ _ _ _ (T4.setTop (mkF m 32 #[.val (.ref a1), .val (.int t1), .val (.int r1), .val (.int c1)] [(.int r1)]))
      refine ogo (fun t k => XS.ifYes X4.here hx rfl (pc0 := 32) (pc' := 41) rfl (hb hby d4_32) rfl ((if0 _ _).trans (teq hc2).1) (by decide) (by decide) k) ?_
      show OwnEnds _ _ _ _ _ _ _ (T4.setTop (mkF m 41 #[.val (.ref a1), .val (.int t1), .val (.int r1), .val (.int c1)] []))
      refine ogo (fun t k => XS.iloadN X4.here hx rfl (hb hby d4_41) rfl k) ?_
      show OwnEnds _ _ _ _ _ _ _ (T4.setTop (mkF m 42 #[.val (.ref a1), .val (.int t1), .val (.int r1), .val (.int c1)] [(.int c1)]))
      refine endI X4 hx hlk Bd.returns (hb hby d4_42) (by decide) (by decide) ?_
      show Q4 Z a1 t1 r1 c1 w_LIST w_PROPLIST h0 n0 _ T4.heap _
      rw [e4]
      exact ⟨by simp [own_oct, hc1, hc2], N3, rfl⟩
    · refine ogo (fun t k => XS.ifNo X0.here hx rfl (hb hby d4_6) rfl ((if0 _ _).trans (feq hc2).1) k) ?_
      show OwnEnds _ _ _ _ _ _ _ (s₁.setTop (mkF m 9 #[.val (.ref a1), .val (.int t1), .val (.int r1), .unset] [(.ref a1)]))
      refine ogo (fun t k => XS.iconst X0.here hx rfl (hb hby d4_9) k) ?_
      show OwnEnds _ _ _ _ _ _ _ (s₁.setTop (mkF m 10 #[.val (.ref a1), .val (.int t1), .val (.int r1), .unset] [(.int (1 : Int32)), (.ref a1)]))
      refine ogo (fun t k => XS.goto X0.here hx rfl (pc0 := 10) (pc' := 14) rfl (hb hby d4_10) (by decide) (by decide) k) ?_
      show OwnEnds _ _ _ _ _ _ _ (s₁.setTop (mkF m 14 #[.val (.ref a1), .val (.int t1), .val (.int r1), .unset] [(.int (1 : Int32)), (.ref a1)]))
      obtain ⟨cq5, q5, q5'⟩ := E_a.cell
      obtain ⟨v5, _, ⟨T5, L5, k5, n5⟩, -, X5, ⟨Lc5, hQ5, l5, y5, z5⟩, st5⟩ := X0.privateBack hx (y := (⟨"com/example/tidingsd/tidingsd/model/ElementCode", "refuseShareBitsUnlessList", "(Z)V"⟩ : MethodName)) hown (mvT hZ (hw _ (List.mem_of_getElem? (i := 11) rfl))) (mvT hZ (hw _ (List.mem_of_getElem? (i := 12) rfl))) (own_selP (z := (⟨"com/example/tidingsd/tidingsd/model/ElementCode", "octet", "(ZZ)I"⟩ : MethodName)) (mvT hZ (hw _ (List.mem_of_getElem? (i := 9) rfl))) rfl (Cond.privateMethod_at (mvP hZ (hw _ (List.mem_of_getElem? (i := 13) rfl)) (args := #[]))) (mvT hZ (hw _ (List.mem_of_getElem? (i := 12) rfl))) (by decide)) (Cond.privateMethod_at (mvP hZ (hw _ (List.mem_of_getElem? (i := 13) rfl)) (args := #[]))) (mvT hZ (hw _ (List.mem_of_getElem? (i := 14) rfl))) (by decide) (backOf (W := 0) (rm3 l Z a0 hw [] a1 (1 : Int32) w_LIST w_PROPLIST h0 n0 Z0 S_LIST S_PROPLIST E_a hl) hZ (hw _ (List.mem_of_getElem? (i := 14) rfl)) (hw _ (List.mem_of_getElem? (i := 2) rfl)) (by decide) (by decide)) (g := (mkF m 14 #[.val (.ref a1), .val (.int t1), .val (.int r1), .unset] [(.int (1 : Int32)), (.ref a1)])) rfl (by rw [hml]; rfl) (Steps.refl _) (a := a1) (by rw [e0]; exact q5) q5' (argsL := [(.int (1 : Int32))]) (rest := []) (lenOf pd__Z_V rfl) rfl (by show 2 * 0 + _ ≤ _; exact Nat.le_of_eq rfl) (hb hby d4_14) (fun _ _ => ⟨rfl, e0, (by decide : 0 + 0 ≤ _), (by decide : 0 + 0 ≤ _)⟩)
      dsimp only [Pt.U, Pt.locs, Pt.cells, Pt.slots] at X5 l5 y5 z5 st5 hQ5
      subst l5 y5 z5
      obtain ⟨rfl, N5q, e5⟩ := hQ5
      have N5 := Fr.app N0 N5q
      refine ogo (fun t k => st5.trans k) ?_
      show OwnEnds _ _ _ _ _ _ _ (T5.setTop (mkF m 17 #[.val (.ref a1), .val (.int t1), .val (.int r1), .unset] []))
      refine ogo (fun t k => XS.aloadN X5.here hx rfl (hb hby d4_17) rfl rfl k) ?_
      show OwnEnds _ _ _ _ _ _ _ (T5.setTop (mkF m 18 #[.val (.ref a1), .val (.int t1), .val (.int r1), .unset] [(.ref a1)]))
      obtain ⟨T6, X6, e6, st6⟩ := getF X5 hx hZ hown (host := "") (Or.inl (hw _ (List.mem_of_getElem? (i := 21) rfl))) Via.refl e5 F_c (g := (mkF m 18 #[.val (.ref a1), .val (.int t1), .val (.int r1), .unset] [(.ref a1)])) rfl rfl (hb hby d4_18)
      refine ogo st6 ?_
      show OwnEnds _ _ _ _ _ _ _ (T6.setTop (mkF m 21 #[.val (.ref a1), .val (.int t1), .val (.int r1), .unset] [(.int c1)]))
      refine ogo (fun t k => XS.istoreN X6.here hx rfl (hb hby d4_21) rfl (l' := #[.val (.ref a1), .val (.int t1), .val (.int r1), .val (.int c1)]) rfl k) ?_
      show OwnEnds _ _ _ _ _ _ _ (T6.setTop (mkF m 22 #[.val (.ref a1), .val (.int t1), .val (.int r1), .val (.int c1)] []))
      refine ogo (fun t k => XS.iloadN X6.here hx rfl (hb hby d4_22) rfl k) ?_
      show OwnEnds _ _ _ _ _ _ _ (T6.setTop (mkF m 23 #[.val (.ref a1), .val (.int t1), .val (.int r1), .val (.int c1)] [(.int t1)]))
      refine ogo (fun t k => XS.ifYes X6.here hx rfl (pc0 := 23) (pc' := 31) rfl (hb hby d4_23) rfl ((if0 _ _).trans (teq hc1).1) (by decide) (by decide) k) ?_
      show OwnEnds _ _ _ _ _ _ _ (T6.setTop (mkF m 31 #[.val (.ref a1), .val (.int t1), .val (.int r1), .val (.int c1)] []))
      refine ogo (fun t k => XS.iloadN X6.here hx rfl (hb hby d4_31) rfl k) ?_
      show OwnEnds _ _ _ _ _ _ _ (T6.setTop (mkF m 32 #[.val (.ref a1), .val (.int t1), .val (.int r1), .val (.int c1)] [(.int r1)]))
      refine ogo (fun t k => XS.ifNo X6.here hx rfl (hb hby d4_32) rfl ((if0 _ _).trans (feq hc2).1) k) ?_
      show OwnEnds _ _ _ _ _ _ _ (T6.setTop (mkF m 35 #[.val (.ref a1), .val (.int t1), .val (.int r1), .val (.int c1)] []))
      refine ogo (fun t k => XS.iloadN X6.here hx rfl (hb hby d4_35) rfl k) ?_
      show OwnEnds _ _ _ _ _ _ _ (T6.setTop (mkF m 36 #[.val (.ref a1), .val (.int t1), .val (.int r1), .val (.int c1)] [(.int c1)]))
      refine ogo (fun t k => XS.sipush X6.here hx rfl (hb hby d4_36) k) ?_
      show OwnEnds _ _ _ _ _ _ _ (T6.setTop (mkF m 39 #[.val (.ref a1), .val (.int t1), .val (.int r1), .val (.int c1)] [(.int (128 : Int32)), (.int c1)]))
      refine ogo (fun t k => XS.ior X6.here hx rfl (hb hby d4_39) rfl k) ?_
      show OwnEnds _ _ _ _ _ _ _ (T6.setTop (mkF m 40 #[.val (.ref a1), .val (.int t1), .val (.int r1), .val (.int c1)] [(.int (c1 ||| (128 : Int32)))]))
      refine ogo (fun t k => XS.istoreN X6.here hx rfl (hb hby d4_40) rfl (l' := #[.val (.ref a1), .val (.int t1), .val (.int r1), .val (.int (c1 ||| (128 : Int32)))]) rfl k) ?_
      show OwnEnds _ _ _ _ _ _ _ (T6.setTop (mkF m 41 #[.val (.ref a1), .val (.int t1), .val (.int r1), .val (.int (c1 ||| (128 : Int32)))] []))
      refine ogo (fun t k => XS.iloadN X6.here hx rfl (hb hby d4_41) rfl k) ?_
      show OwnEnds _ _ _ _ _ _ _ (T6.setTop (mkF m 42 #[.val (.ref a1), .val (.int t1), .val (.int r1), .val (.int (c1 ||| (128 : Int32)))] [(.int (c1 ||| (128 : Int32)))]))
      refine endI X6 hx hlk Bd.returns (hb hby d4_42) (by decide) (by decide) ?_
      show Q4 Z a1 t1 r1 c1 w_LIST w_PROPLIST h0 n0 _ T6.heap _
      rw [e6]
      exact ⟨by simp [own_oct, hc1, hc2], N5, rfl⟩
  · refine ogo (fun t k => XS.ifYes X0.here hx rfl (pc0 := 2) (pc' := 9) rfl (hb hby d4_2) rfl ((if0 _ _).trans (feq hc1).2) (by decide) (by decide) k) ?_
    show OwnEnds _ _ _ _ _ _ _ (s₁.setTop (mkF m 9 #[.val (.ref a1), .val (.int t1), .val (.int r1), .unset] [(.ref a1)]))
    refine ogo (fun t k => XS.iconst X0.here hx rfl (hb hby d4_9) k) ?_
    show OwnEnds _ _ _ _ _ _ _ (s₁.setTop (mkF m 10 #[.val (.ref a1), .val (.int t1), .val (.int r1), .unset] [(.int (1 : Int32)), (.ref a1)]))
    refine ogo (fun t k => XS.goto X0.here hx rfl (pc0 := 10) (pc' := 14) rfl (hb hby d4_10) (by decide) (by decide) k) ?_
    show OwnEnds _ _ _ _ _ _ _ (s₁.setTop (mkF m 14 #[.val (.ref a1), .val (.int t1), .val (.int r1), .unset] [(.int (1 : Int32)), (.ref a1)]))
    obtain ⟨cq7, q7, q7'⟩ := E_a.cell
    obtain ⟨v7, _, ⟨T7, L7, k7, n7⟩, -, X7, ⟨Lc7, hQ7, l7, y7, z7⟩, st7⟩ := X0.privateBack hx (y := (⟨"com/example/tidingsd/tidingsd/model/ElementCode", "refuseShareBitsUnlessList", "(Z)V"⟩ : MethodName)) hown (mvT hZ (hw _ (List.mem_of_getElem? (i := 11) rfl))) (mvT hZ (hw _ (List.mem_of_getElem? (i := 12) rfl))) (own_selP (z := (⟨"com/example/tidingsd/tidingsd/model/ElementCode", "octet", "(ZZ)I"⟩ : MethodName)) (mvT hZ (hw _ (List.mem_of_getElem? (i := 9) rfl))) rfl (Cond.privateMethod_at (mvP hZ (hw _ (List.mem_of_getElem? (i := 13) rfl)) (args := #[]))) (mvT hZ (hw _ (List.mem_of_getElem? (i := 12) rfl))) (by decide)) (Cond.privateMethod_at (mvP hZ (hw _ (List.mem_of_getElem? (i := 13) rfl)) (args := #[]))) (mvT hZ (hw _ (List.mem_of_getElem? (i := 14) rfl))) (by decide) (backOf (W := 0) (rm3 l Z a0 hw [] a1 (1 : Int32) w_LIST w_PROPLIST h0 n0 Z0 S_LIST S_PROPLIST E_a hl) hZ (hw _ (List.mem_of_getElem? (i := 14) rfl)) (hw _ (List.mem_of_getElem? (i := 2) rfl)) (by decide) (by decide)) (g := (mkF m 14 #[.val (.ref a1), .val (.int t1), .val (.int r1), .unset] [(.int (1 : Int32)), (.ref a1)])) rfl (by rw [hml]; rfl) (Steps.refl _) (a := a1) (by rw [e0]; exact q7) q7' (argsL := [(.int (1 : Int32))]) (rest := []) (lenOf pd__Z_V rfl) rfl (by show 2 * 0 + _ ≤ _; exact Nat.le_of_eq rfl) (hb hby d4_14) (fun _ _ => ⟨rfl, e0, (by decide : 0 + 0 ≤ _), (by decide : 0 + 0 ≤ _)⟩)
    dsimp only [Pt.U, Pt.locs, Pt.cells, Pt.slots] at X7 l7 y7 z7 st7 hQ7
    subst l7 y7 z7
    obtain ⟨rfl, N7q, e7⟩ := hQ7
    have N7 := Fr.app N0 N7q
    refine ogo (fun t k => st7.trans k) ?_
    show OwnEnds _ _ _ _ _ _ _ (T7.setTop (mkF m 17 #[.val (.ref a1), .val (.int t1), .val (.int r1), .unset] []))
    refine ogo (fun t k => XS.aloadN X7.here hx rfl (hb hby d4_17) rfl rfl k) ?_
    show OwnEnds _ _ _ _ _ _ _ (T7.setTop (mkF m 18 #[.val (.ref a1), .val (.int t1), .val (.int r1), .unset] [(.ref a1)]))
    obtain ⟨T8, X8, e8, st8⟩ := getF X7 hx hZ hown (host := "") (Or.inl (hw _ (List.mem_of_getElem? (i := 21) rfl))) Via.refl e7 F_c (g := (mkF m 18 #[.val (.ref a1), .val (.int t1), .val (.int r1), .unset] [(.ref a1)])) rfl rfl (hb hby d4_18)
    refine ogo st8 ?_
    show OwnEnds _ _ _ _ _ _ _ (T8.setTop (mkF m 21 #[.val (.ref a1), .val (.int t1), .val (.int r1), .unset] [(.int c1)]))
    refine ogo (fun t k => XS.istoreN X8.here hx rfl (hb hby d4_21) rfl (l' := #[.val (.ref a1), .val (.int t1), .val (.int r1), .val (.int c1)]) rfl k) ?_
    show OwnEnds _ _ _ _ _ _ _ (T8.setTop (mkF m 22 #[.val (.ref a1), .val (.int t1), .val (.int r1), .val (.int c1)] []))
    refine ogo (fun t k => XS.iloadN X8.here hx rfl (hb hby d4_22) rfl k) ?_
    show OwnEnds _ _ _ _ _ _ _ (T8.setTop (mkF m 23 #[.val (.ref a1), .val (.int t1), .val (.int r1), .val (.int c1)] [(.int t1)]))
    refine ogo (fun t k => XS.ifNo X8.here hx rfl (hb hby d4_23) rfl ((if0 _ _).trans (feq hc1).1) k) ?_
    show OwnEnds _ _ _ _ _ _ _ (T8.setTop (mkF m 26 #[.val (.ref a1), .val (.int t1), .val (.int r1), .val (.int c1)] []))
    refine ogo (fun t k => XS.iloadN X8.here hx rfl (hb hby d4_26) rfl k) ?_
    show OwnEnds _ _ _ _ _ _ _ (T8.setTop (mkF m 27 #[.val (.ref a1), .val (.int t1), .val (.int r1), .val (.int c1)] [(.int c1)]))
    refine ogo (fun t k => XS.bipush X8.here hx rfl (hb hby d4_27) k) ?_
    show OwnEnds _ _ _ _ _ _ _ (T8.setTop (mkF m 29 #[.val (.ref a1), .val (.int t1), .val (.int r1), .val (.int c1)] [(.int (64 : Int32)), (.int c1)]))
    refine ogo (fun t k => XS.ior X8.here hx rfl (hb hby d4_29) rfl k) ?_
    show OwnEnds _ _ _ _ _ _ _ (T8.setTop (mkF m 30 #[.val (.ref a1), .val (.int t1), .val (.int r1), .val (.int c1)] [(.int (c1 ||| (64 : Int32)))]))
    refine ogo (fun t k => XS.istoreN X8.here hx rfl (hb hby d4_30) rfl (l' := #[.val (.ref a1), .val (.int t1), .val (.int r1), .val (.int (c1 ||| (64 : Int32)))]) rfl k) ?_
    show OwnEnds _ _ _ _ _ _ _ (T8.setTop (mkF m 31 #[.val (.ref a1), .val (.int t1), .val (.int r1), .val (.int (c1 ||| (64 : Int32)))] []))
    refine ogo (fun t k => XS.iloadN X8.here hx rfl (hb hby d4_31) rfl k) ?_
    show OwnEnds _ _ _ _ _ _ _ (T8.setTop (mkF m 32 #[.val (.ref a1), .val (.int t1), .val (.int r1), .val (.int (c1 ||| (64 : Int32)))] [(.int r1)]))
    by_cases hc9 : r1 = (0 : Int32)
    · refine ogo (fun t k => XS.ifYes X8.here hx rfl (pc0 := 32) (pc' := 41) rfl (hb hby d4_32) rfl ((if0 _ _).trans (teq hc9).1) (by decide) (by decide) k) ?_
      show OwnEnds _ _ _ _ _ _ _ (T8.setTop (mkF m 41 #[.val (.ref a1), .val (.int t1), .val (.int r1), .val (.int (c1 ||| (64 : Int32)))] []))
      refine ogo (fun t k => XS.iloadN X8.here hx rfl (hb hby d4_41) rfl k) ?_
      show OwnEnds _ _ _ _ _ _ _ (T8.setTop (mkF m 42 #[.val (.ref a1), .val (.int t1), .val (.int r1), .val (.int (c1 ||| (64 : Int32)))] [(.int (c1 ||| (64 : Int32)))]))
      refine endI X8 hx hlk Bd.returns (hb hby d4_42) (by decide) (by decide) ?_
      show Q4 Z a1 t1 r1 c1 w_LIST w_PROPLIST h0 n0 _ T8.heap _
      rw [e8]
      exact ⟨by simp [own_oct, hc1, hc9], N7, rfl⟩
    · refine ogo (fun t k => XS.ifNo X8.here hx rfl (hb hby d4_32) rfl ((if0 _ _).trans (feq hc9).1) k) ?_
      show OwnEnds _ _ _ _ _ _ _ (T8.setTop (mkF m 35 #[.val (.ref a1), .val (.int t1), .val (.int r1), .val (.int (c1 ||| (64 : Int32)))] []))
      refine ogo (fun t k => XS.iloadN X8.here hx rfl (hb hby d4_35) rfl k) ?_
      show OwnEnds _ _ _ _ _ _ _ (T8.setTop (mkF m 36 #[.val (.ref a1), .val (.int t1), .val (.int r1), .val (.int (c1 ||| (64 : Int32)))] [(.int (c1 ||| (64 : Int32)))]))
      refine ogo (fun t k => XS.sipush X8.here hx rfl (hb hby d4_36) k) ?_
      show OwnEnds _ _ _ _ _ _ _ (T8.setTop (mkF m 39 #[.val (.ref a1), .val (.int t1), .val (.int r1), .val (.int (c1 ||| (64 : Int32)))] [(.int (128 : Int32)), (.int (c1 ||| (64 : Int32)))]))
      refine ogo (fun t k => XS.ior X8.here hx rfl (hb hby d4_39) rfl k) ?_
      show OwnEnds _ _ _ _ _ _ _ (T8.setTop (mkF m 40 #[.val (.ref a1), .val (.int t1), .val (.int r1), .val (.int (c1 ||| (64 : Int32)))] [(.int ((c1 ||| (64 : Int32)) ||| (128 : Int32)))]))
      refine ogo (fun t k => XS.istoreN X8.here hx rfl (hb hby d4_40) rfl (l' := #[.val (.ref a1), .val (.int t1), .val (.int r1), .val (.int ((c1 ||| (64 : Int32)) ||| (128 : Int32)))]) rfl k) ?_
      show OwnEnds _ _ _ _ _ _ _ (T8.setTop (mkF m 41 #[.val (.ref a1), .val (.int t1), .val (.int r1), .val (.int ((c1 ||| (64 : Int32)) ||| (128 : Int32)))] []))
      refine ogo (fun t k => XS.iloadN X8.here hx rfl (hb hby d4_41) rfl k) ?_
      show OwnEnds _ _ _ _ _ _ _ (T8.setTop (mkF m 42 #[.val (.ref a1), .val (.int t1), .val (.int r1), .val (.int ((c1 ||| (64 : Int32)) ||| (128 : Int32)))] [(.int ((c1 ||| (64 : Int32)) ||| (128 : Int32)))]))
      refine endI X8 hx hlk Bd.returns (hb hby d4_42) (by decide) (by decide) ?_
      show Q4 Z a1 t1 r1 c1 w_LIST w_PROPLIST h0 n0 _ T8.heap _
      rw [e8]
      exact ⟨by simp [own_oct, hc1, hc9], N7, rfl⟩
theorem pn_ElementCodeContainsRefPinLaw : plainName "com/example/tidingsd/tidingsd/model/ElementCodeContainsRefPinLaw" = true := by first | (simp [plainName, overriddenIn]; done) | decide +kernel
theorem pd__I_Z : parseMethodDescriptor "(I)Z" = some ⟨[.int], some .boolean⟩ := by decide +kernel
theorem pd__ZZ_I : parseMethodDescriptor "(ZZ)I" = some ⟨[.boolean, .boolean], some .int⟩ := by decide +kernel
theorem ef_0 (m : MethodId) (x0 : Int32) (x1 : Int32) : entryFrame m #[(.int x0), (.int x1)] maxLocals = mkF m 0 #[.val (.int x0), .val (.int x1), .unset, .unset, .unset, .unset, .unset, .unset, .unset] [] := by first | (simp [entryFrame, mkF, argsToLocals, Value.category, maxLocals]; done) | rfl
def Q0 (Z : State) (p0 p1 : Int32) (w_LIST w_PROPLIST : Addr) (h0 : Heap) (n0 : Nat) (v : Option Value) (h : Heap) (L : List Loc) : Prop := v = some (.int 1) ∧ Fr n0 L
set_option maxRecDepth 65536 in
set_option maxHeartbeats 40000000 in
theorem rm0 (l : Launch) (Z : State) (a0 : Array Value) (hw : ∀ d ∈ tables_1, d.before a0 Z = true) (ws : List Jvm.Cond) (p0 p1 : Int32) (w_LIST w_PROPLIST : Addr) (h0 : Heap) (n0 : Nat) (Z0 : n0 ≤ h0.size) (S_LIST : Sta Z h0 "com/example/tidingsd/tidingsd/model/ElementCode" "LIST" "Lcom/example/tidingsd/tidingsd/model/ElementCode;" (.ref w_LIST)) (E_LIST : Exa Z h0 w_LIST "com/example/tidingsd/tidingsd/model/ElementCode") (F_code_LIST : Fld Z h0 w_LIST "com/example/tidingsd/tidingsd/model/ElementCode" "code" "I" (.int (9 : Int32))) (F_ordinal_LIST : Fld Z h0 w_LIST "java/lang/Enum" "ordinal" "I" (.int (9 : Int32))) (S_PROPLIST : Sta Z h0 "com/example/tidingsd/tidingsd/model/ElementCode" "PROPLIST" "Lcom/example/tidingsd/tidingsd/model/ElementCode;" (.ref w_PROPLIST)) (E_PROPLIST : Exa Z h0 w_PROPLIST "com/example/tidingsd/tidingsd/model/ElementCode") (F_code_PROPLIST : Fld Z h0 w_PROPLIST "com/example/tidingsd/tidingsd/model/ElementCode" "code" "I" (.int (10 : Int32))) (F_ordinal_PROPLIST : Fld Z h0 w_PROPLIST "java/lang/Enum" "ordinal" "I" (.int (10 : Int32))) :
    MetFree l x (head1 (Jvm.Cond.code x code maxLocals ret :: ws) room_1) (fun a U => a = #[(.int p0), (.int p1)] ∧ Z.Warmed39 U.vm ∧ U.heap = h0) (fun _ _ _ _ _ => True) (fun _ U o U' => ∃ v L, o = .returned v ∧ Q0 Z p0 p1 w_LIST w_PROPLIST h0 n0 v U'.heap L ∧ FrameEnd U o U' L 0 0) := by
  refine MetFree.of_bodySF (plainFor_of_name pn_ElementCodeContainsRefPinLaw) hisR ?_
  intro p e s m args below meth c s₁ Bd hml0 hP hK
  obtain ⟨rfl, hZ, hh⟩ := hP
  have hx := Bd.exec
  have hby := Bd.bytes
  have hml : c.maxLocals = 9 := hml0
  have hown : s.vm.findClass "com/example/tidingsd/tidingsd/model/ElementCodeContainsRefPinLaw" = some m.cls := findClass_of_methodNamed Bd.named
  have hnm := (name_of_methodNamed Bd.named Bd.method).1
  have hlk : meth.locks = false := BodyLoose.notSynchronized Bd
  have X0 : Stand p l e room_1 s m #[(.int p0), (.int p1)] below meth c s₁ [] 0 0 := Stand.of_body Bd
  have e0 : s₁.heap = h0 := by rw [← hh, Bd.state]; rfl
  have N0 := Fr.nil n0
  refine ogo (U' := s₁.setTop (mkF m 0 #[.val (.int p0), .val (.int p1), .unset, .unset, .unset, .unset, .unset, .unset, .unset] [])) (Q := Q0 Z p0 p1 w_LIST w_PROPLIST h0 n0) (K := 0) (N := 0) (fun t k => castTop (ef_0 m p0 p1) k) ?_
  show OwnEnds _ _ _ _ _ _ _ (s₁.setTop (mkF m 0 #[.val (.int p0), .val (.int p1), .unset, .unset, .unset, .unset, .unset, .unset, .unset] []))
  refine ogo (fun t k => XS.iloadN X0.here hx rfl (hb hby at_0) rfl k) ?_
  show OwnEnds _ _ _ _ _ _ _ (s₁.setTop (mkF m 1 #[.val (.int p0), .val (.int p1), .unset, .unset, .unset, .unset, .unset, .unset, .unset] [(.int p0)]))
  refine ogo (fun t k => XS.sipush X0.here hx rfl (hb hby at_1) k) ?_
  show OwnEnds _ _ _ _ _ _ _ (s₁.setTop (mkF m 4 #[.val (.int p0), .val (.int p1), .unset, .unset, .unset, .unset, .unset, .unset, .unset] [(.int (255 : Int32)), (.int p0)]))
  refine ogo (fun t k => XS.iand X0.here hx rfl (hb hby at_4) rfl k) ?_
  show OwnEnds _ _ _ _ _ _ _ (s₁.setTop (mkF m 5 #[.val (.int p0), .val (.int p1), .unset, .unset, .unset, .unset, .unset, .unset, .unset] [(.int (p0 &&& (255 : Int32)))]))
  refine ogo (fun t k => XS.sipush X0.here hx rfl (hb hby at_5) k) ?_
  show OwnEnds _ _ _ _ _ _ _ (s₁.setTop (mkF m 8 #[.val (.int p0), .val (.int p1), .unset, .unset, .unset, .unset, .unset, .unset, .unset] [(.int (128 : Int32)), (.int (p0 &&& (255 : Int32)))]))
  by_cases hc1 : (p0 &&& (255 : Int32)) < (128 : Int32)
  · refine ogo (fun t k => XS.icmpYes X0.here hx rfl (pc0 := 8) (pc' := 15) rfl (hb hby at_8) rfl (tlt hc1).1 (by decide) (by decide) k) ?_
    show OwnEnds _ _ _ _ _ _ _ (s₁.setTop (mkF m 15 #[.val (.int p0), .val (.int p1), .unset, .unset, .unset, .unset, .unset, .unset, .unset] []))
    refine ogo (fun t k => XS.iconst X0.here hx rfl (hb hby at_15) k) ?_
    show OwnEnds _ _ _ _ _ _ _ (s₁.setTop (mkF m 16 #[.val (.int p0), .val (.int p1), .unset, .unset, .unset, .unset, .unset, .unset, .unset] [(.int (0 : Int32))]))
    refine ogo (fun t k => XS.istoreN X0.here hx rfl (hb hby at_16) rfl (l' := #[.val (.int p0), .val (.int p1), .val (.int (0 : Int32)), .unset, .unset, .unset, .unset, .unset, .unset]) rfl k) ?_
    show OwnEnds _ _ _ _ _ _ _ (s₁.setTop (mkF m 17 #[.val (.int p0), .val (.int p1), .val (.int (0 : Int32)), .unset, .unset, .unset, .unset, .unset, .unset] []))
    refine ogo (fun t k => XS.iloadN X0.here hx rfl (hb hby at_17) rfl k) ?_
    show OwnEnds _ _ _ _ _ _ _ (s₁.setTop (mkF m 18 #[.val (.int p0), .val (.int p1), .val (.int (0 : Int32)), .unset, .unset, .unset, .unset, .unset, .unset] [(.int p0)]))
    obtain ⟨v2, _, ⟨T2, L2, k2, n2⟩, -, X2, ⟨Lc2, hQ2, l2, y2, z2⟩, st2⟩ := Jvm.LawKit.callS X0 hx (y := (⟨"com/example/tidingsd/tidingsd/model/ElementCode", "containsRef", "(I)Z"⟩ : MethodName)) hown (mvT hZ (hw _ (List.mem_of_getElem? (i := 0) rfl))) (mvT hZ (hw _ (List.mem_of_getElem? (i := 1) rfl))) (mvT hZ (hw _ (List.mem_of_getElem? (i := 2) rfl))) (mvT hZ (hw _ (List.mem_of_getElem? (i := 3) rfl))) (by decide) (backOf (W := 0) (rm1 l Z a0 hw [] p0 h0 n0 Z0 ) hZ (hw _ (List.mem_of_getElem? (i := 3) rfl)) (hw _ (List.mem_of_getElem? (i := 2) rfl)) (by decide) (by decide)) (g := (mkF m 18 #[.val (.int p0), .val (.int p1), .val (.int (0 : Int32)), .unset, .unset, .unset, .unset, .unset, .unset] [(.int p0)])) rfl (by rw [hml]; rfl) (argsL := [(.int p0)]) (rest := []) (lenOf pd__I_Z rfl) rfl (by show 2 * 0 + _ ≤ _; exact Nat.le_of_eq rfl) (hb hby at_18) (fun _ _ => ⟨rfl, e0, (by decide : 0 + 0 ≤ _), (by decide : 0 + 0 ≤ _)⟩)
    dsimp only [Pt.U, Pt.locs, Pt.cells, Pt.slots] at X2 l2 y2 z2 st2 hQ2
    subst l2 y2 z2
    obtain ⟨hv2, N2q, e2⟩ := hQ2
    obtain rfl : v2 = some (.int (0 : Int32)) := hv2.trans (by simp [own_bit, hc1])
    have N2 := Fr.app N0 N2q
    refine ogo (fun t k => st2 t k) ?_
    show OwnEnds _ _ _ _ _ _ _ (T2.setTop (mkF m 21 #[.val (.int p0), .val (.int p1), .val (.int (0 : Int32)), .unset, .unset, .unset, .unset, .unset, .unset] [(.int (0 : Int32))]))
    refine ogo (fun t k => XS.iloadN X2.here hx rfl (hb hby at_21) rfl k) ?_
    show OwnEnds _ _ _ _ _ _ _ (T2.setTop (mkF m 22 #[.val (.int p0), .val (.int p1), .val (.int (0 : Int32)), .unset, .unset, .unset, .unset, .unset, .unset] [(.int (0 : Int32)), (.int (0 : Int32))]))
    refine ogo (fun t k => XS.icmpNo X2.here hx rfl (hb hby at_22) rfl (teq (by decide : (0 : Int32) = (0 : Int32))).2 k) ?_
    show OwnEnds _ _ _ _ _ _ _ (T2.setTop (mkF m 25 #[.val (.int p0), .val (.int p1), .val (.int (0 : Int32)), .unset, .unset, .unset, .unset, .unset, .unset] []))
    refine ogo (fun t k => XS.iconst X2.here hx rfl (hb hby at_25) k) ?_
    show OwnEnds _ _ _ _ _ _ _ (T2.setTop (mkF m 26 #[.val (.int p0), .val (.int p1), .val (.int (0 : Int32)), .unset, .unset, .unset, .unset, .unset, .unset] [(.int (1 : Int32))]))
    refine ogo (fun t k => XS.goto X2.here hx rfl (pc0 := 26) (pc' := 30) rfl (hb hby at_26) (by decide) (by decide) k) ?_
    show OwnEnds _ _ _ _ _ _ _ (T2.setTop (mkF m 30 #[.val (.int p0), .val (.int p1), .val (.int (0 : Int32)), .unset, .unset, .unset, .unset, .unset, .unset] [(.int (1 : Int32))]))
    refine ogo (fun t k => XS.istoreN X2.here hx rfl (hb hby at_30) rfl (l' := #[.val (.int p0), .val (.int p1), .val (.int (0 : Int32)), .val (.int (1 : Int32)), .unset, .unset, .unset, .unset, .unset]) rfl k) ?_
    show OwnEnds _ _ _ _ _ _ _ (T2.setTop (mkF m 31 #[.val (.int p0), .val (.int p1), .val (.int (0 : Int32)), .val (.int (1 : Int32)), .unset, .unset, .unset, .unset, .unset] []))
    refine ogo (fun t k => XS.iloadN X2.here hx rfl (hb hby at_31) rfl k) ?_
    show OwnEnds _ _ _ _ _ _ _ (T2.setTop (mkF m 32 #[.val (.int p0), .val (.int p1), .val (.int (0 : Int32)), .val (.int (1 : Int32)), .unset, .unset, .unset, .unset, .unset] [(.int p1)]))
    refine ogo (fun t k => XS.iconst X2.here hx rfl (hb hby at_32) k) ?_
    show OwnEnds _ _ _ _ _ _ _ (T2.setTop (mkF m 33 #[.val (.int p0), .val (.int p1), .val (.int (0 : Int32)), .val (.int (1 : Int32)), .unset, .unset, .unset, .unset, .unset] [(.int (1 : Int32)), (.int p1)]))
    refine ogo (fun t k => XS.iand X2.here hx rfl (hb hby at_33) rfl k) ?_
    show OwnEnds _ _ _ _ _ _ _ (T2.setTop (mkF m 34 #[.val (.int p0), .val (.int p1), .val (.int (0 : Int32)), .val (.int (1 : Int32)), .unset, .unset, .unset, .unset, .unset] [(.int (p1 &&& (1 : Int32)))]))
    by_cases hc3 : (p1 &&& (1 : Int32)) = (0 : Int32)
    · refine ogo (fun t k => XS.ifYes X2.here hx rfl (pc0 := 34) (pc' := 41) rfl (hb hby at_34) rfl ((if0 _ _).trans (teq hc3).1) (by decide) (by decide) k) ?_
      show OwnEnds _ _ _ _ _ _ _ (T2.setTop (mkF m 41 #[.val (.int p0), .val (.int p1), .val (.int (0 : Int32)), .val (.int (1 : Int32)), .unset, .unset, .unset, .unset, .unset] []))
      refine ogo (fun t k => XS.iconst X2.here hx rfl (hb hby at_41) k) ?_
      show OwnEnds _ _ _ _ _ _ _ (T2.setTop (mkF m 42 #[.val (.int p0), .val (.int p1), .val (.int (0 : Int32)), .val (.int (1 : Int32)), .unset, .unset, .unset, .unset, .unset] [(.int (0 : Int32))]))
      refine ogo (fun t k => XS.istore X2.here hx rfl (hb hby at_42) rfl (l' := #[.val (.int p0), .val (.int p1), .val (.int (0 : Int32)), .val (.int (1 : Int32)), .val (.int (0 : Int32)), .unset, .unset, .unset, .unset]) rfl k) ?_
      show OwnEnds _ _ _ _ _ _ _ (T2.setTop (mkF m 44 #[.val (.int p0), .val (.int p1), .val (.int (0 : Int32)), .val (.int (1 : Int32)), .val (.int (0 : Int32)), .unset, .unset, .unset, .unset] []))
      refine ogo (fun t k => XS.iloadN X2.here hx rfl (hb hby at_44) rfl k) ?_
      show OwnEnds _ _ _ _ _ _ _ (T2.setTop (mkF m 45 #[.val (.int p0), .val (.int p1), .val (.int (0 : Int32)), .val (.int (1 : Int32)), .val (.int (0 : Int32)), .unset, .unset, .unset, .unset] [(.int p1)]))
      refine ogo (fun t k => XS.iconst X2.here hx rfl (hb hby at_45) k) ?_
      show OwnEnds _ _ _ _ _ _ _ (T2.setTop (mkF m 46 #[.val (.int p0), .val (.int p1), .val (.int (0 : Int32)), .val (.int (1 : Int32)), .val (.int (0 : Int32)), .unset, .unset, .unset, .unset] [(.int (2 : Int32)), (.int p1)]))
      refine ogo (fun t k => XS.iand X2.here hx rfl (hb hby at_46) rfl k) ?_
      show OwnEnds _ _ _ _ _ _ _ (T2.setTop (mkF m 47 #[.val (.int p0), .val (.int p1), .val (.int (0 : Int32)), .val (.int (1 : Int32)), .val (.int (0 : Int32)), .unset, .unset, .unset, .unset] [(.int (p1 &&& (2 : Int32)))]))
      by_cases hc4 : (p1 &&& (2 : Int32)) = (0 : Int32)
      · refine ogo (fun t k => XS.ifYes X2.here hx rfl (pc0 := 47) (pc' := 54) rfl (hb hby at_47) rfl ((if0 _ _).trans (teq hc4).1) (by decide) (by decide) k) ?_
        show OwnEnds _ _ _ _ _ _ _ (T2.setTop (mkF m 54 #[.val (.int p0), .val (.int p1), .val (.int (0 : Int32)), .val (.int (1 : Int32)), .val (.int (0 : Int32)), .unset, .unset, .unset, .unset] []))
        refine ogo (fun t k => XS.iconst X2.here hx rfl (hb hby at_54) k) ?_
        show OwnEnds _ _ _ _ _ _ _ (T2.setTop (mkF m 55 #[.val (.int p0), .val (.int p1), .val (.int (0 : Int32)), .val (.int (1 : Int32)), .val (.int (0 : Int32)), .unset, .unset, .unset, .unset] [(.int (0 : Int32))]))
        refine ogo (fun t k => XS.istore X2.here hx rfl (hb hby at_55) rfl (l' := #[.val (.int p0), .val (.int p1), .val (.int (0 : Int32)), .val (.int (1 : Int32)), .val (.int (0 : Int32)), .val (.int (0 : Int32)), .unset, .unset, .unset]) rfl k) ?_
        show OwnEnds _ _ _ _ _ _ _ (T2.setTop (mkF m 57 #[.val (.int p0), .val (.int p1), .val (.int (0 : Int32)), .val (.int (1 : Int32)), .val (.int (0 : Int32)), .val (.int (0 : Int32)), .unset, .unset, .unset] []))
        refine ogo (fun t k => XS.iloadN X2.here hx rfl (hb hby at_57) rfl k) ?_
        show OwnEnds _ _ _ _ _ _ _ (T2.setTop (mkF m 58 #[.val (.int p0), .val (.int p1), .val (.int (0 : Int32)), .val (.int (1 : Int32)), .val (.int (0 : Int32)), .val (.int (0 : Int32)), .unset, .unset, .unset] [(.int p1)]))
        refine ogo (fun t k => XS.iconst X2.here hx rfl (hb hby at_58) k) ?_
        show OwnEnds _ _ _ _ _ _ _ (T2.setTop (mkF m 59 #[.val (.int p0), .val (.int p1), .val (.int (0 : Int32)), .val (.int (1 : Int32)), .val (.int (0 : Int32)), .val (.int (0 : Int32)), .unset, .unset, .unset] [(.int (4 : Int32)), (.int p1)]))
        refine ogo (fun t k => XS.iand X2.here hx rfl (hb hby at_59) rfl k) ?_
        show OwnEnds _ _ _ _ _ _ _ (T2.setTop (mkF m 60 #[.val (.int p0), .val (.int p1), .val (.int (0 : Int32)), .val (.int (1 : Int32)), .val (.int (0 : Int32)), .val (.int (0 : Int32)), .unset, .unset, .unset] [(.int (p1 &&& (4 : Int32)))]))
        by_cases hc5 : (p1 &&& (4 : Int32)) = (0 : Int32)
        · refine ogo (fun t k => XS.ifYes X2.here hx rfl (pc0 := 60) (pc' := 69) rfl (hb hby at_60) rfl ((if0 _ _).trans (teq hc5).1) (by decide) (by decide) k) ?_
          show OwnEnds _ _ _ _ _ _ _ (T2.setTop (mkF m 69 #[.val (.int p0), .val (.int p1), .val (.int (0 : Int32)), .val (.int (1 : Int32)), .val (.int (0 : Int32)), .val (.int (0 : Int32)), .unset, .unset, .unset] []))
          obtain ⟨T6, X6, e6, st6⟩ := getS2 X2 hx hZ hown (host := "") (Or.inl (hw _ (List.mem_of_getElem? (i := 4) rfl))) Via.refl e2 S_LIST (g := (mkF m 69 #[.val (.int p0), .val (.int p1), .val (.int (0 : Int32)), .val (.int (1 : Int32)), .val (.int (0 : Int32)), .val (.int (0 : Int32)), .unset, .unset, .unset] [])) rfl (hb hby at_69)
          refine ogo st6 ?_
          show OwnEnds _ _ _ _ _ _ _ (T6.setTop (mkF m 72 #[.val (.int p0), .val (.int p1), .val (.int (0 : Int32)), .val (.int (1 : Int32)), .val (.int (0 : Int32)), .val (.int (0 : Int32)), .unset, .unset, .unset] [(.ref w_LIST)]))
          refine ogo (fun t k => XS.astore X6.here hx rfl (hb hby at_72) rfl rfl (l' := #[.val (.int p0), .val (.int p1), .val (.int (0 : Int32)), .val (.int (1 : Int32)), .val (.int (0 : Int32)), .val (.int (0 : Int32)), .val (.ref w_LIST), .unset, .unset]) rfl k) ?_
          show OwnEnds _ _ _ _ _ _ _ (T6.setTop (mkF m 74 #[.val (.int p0), .val (.int p1), .val (.int (0 : Int32)), .val (.int (1 : Int32)), .val (.int (0 : Int32)), .val (.int (0 : Int32)), .val (.ref w_LIST), .unset, .unset] []))
          refine ogo (fun t k => XS.aload X6.here hx rfl (hb hby at_74) rfl rfl k) ?_
          show OwnEnds _ _ _ _ _ _ _ (T6.setTop (mkF m 76 #[.val (.int p0), .val (.int p1), .val (.int (0 : Int32)), .val (.int (1 : Int32)), .val (.int (0 : Int32)), .val (.int (0 : Int32)), .val (.ref w_LIST), .unset, .unset] [(.ref w_LIST)]))
          refine ogo (fun t k => XS.iload X6.here hx rfl (hb hby at_76) rfl k) ?_
          show OwnEnds _ _ _ _ _ _ _ (T6.setTop (mkF m 78 #[.val (.int p0), .val (.int p1), .val (.int (0 : Int32)), .val (.int (1 : Int32)), .val (.int (0 : Int32)), .val (.int (0 : Int32)), .val (.ref w_LIST), .unset, .unset] [(.int (0 : Int32)), (.ref w_LIST)]))
          refine ogo (fun t k => XS.iload X6.here hx rfl (hb hby at_78) rfl k) ?_
          show OwnEnds _ _ _ _ _ _ _ (T6.setTop (mkF m 80 #[.val (.int p0), .val (.int p1), .val (.int (0 : Int32)), .val (.int (1 : Int32)), .val (.int (0 : Int32)), .val (.int (0 : Int32)), .val (.ref w_LIST), .unset, .unset] [(.int (0 : Int32)), (.int (0 : Int32)), (.ref w_LIST)]))
          obtain ⟨cq7, kq7, q7a, q7b, q7c⟩ := isOf hZ e6 E_LIST
          obtain ⟨v7, _, ⟨T7, L7, k7, n7⟩, -, X7, ⟨Lc7, hQ7, l7, y7, z7⟩, st7⟩ := X6.virtualBack hx (y := (⟨"com/example/tidingsd/tidingsd/model/ElementCode", "octet", "(ZZ)I"⟩ : MethodName)) (z := (⟨"com/example/tidingsd/tidingsd/model/ElementCode", "octet", "(ZZ)I"⟩ : MethodName)) hown (mvT hZ (hw _ (List.mem_of_getElem? (i := 6) rfl))) (mvT hZ (hw _ (List.mem_of_getElem? (i := 7) rfl))) (notFace_of_selects (args := #[]) (mvT hZ (hw _ (List.mem_of_getElem? (i := 9) rfl)))) (mvT hZ (hw _ (List.mem_of_getElem? (i := 9) rfl))) (mvT hZ (hw _ (List.mem_of_getElem? (i := 8) rfl))) (by decide) (backOf (W := 0) (rm4 l Z a0 hw [] w_LIST (0 : Int32) (0 : Int32) (9 : Int32) w_LIST w_PROPLIST h0 n0 Z0 S_LIST S_PROPLIST E_LIST (Or.inl rfl) F_code_LIST) hZ (hw _ (List.mem_of_getElem? (i := 10) rfl)) (hw _ (List.mem_of_getElem? (i := 2) rfl)) (by decide) (by decide)) q7a q7c (g := (mkF m 80 #[.val (.int p0), .val (.int p1), .val (.int (0 : Int32)), .val (.int (1 : Int32)), .val (.int (0 : Int32)), .val (.int (0 : Int32)), .val (.ref w_LIST), .unset, .unset] [(.int (0 : Int32)), (.int (0 : Int32)), (.ref w_LIST)])) rfl (by rw [hml]; rfl) (Steps.refl _) (argsL := [(.int (0 : Int32)), (.int (0 : Int32))]) (rest := []) (lenOf pd__ZZ_I rfl) rfl (by show 2 * 0 + _ ≤ _; exact Nat.le_of_eq rfl) (hb hby at_80) (fun _ _ => ⟨rfl, e6, (by decide : 0 + 0 ≤ _), (by decide : 0 + 0 ≤ _)⟩)
          dsimp only [Pt.U, Pt.locs, Pt.cells, Pt.slots] at X7 l7 y7 z7 st7 hQ7
          subst l7 y7 z7
          obtain ⟨hv7, N7q, e7⟩ := hQ7
          obtain rfl : v7 = some (.int (9 : Int32)) := hv7.trans (by decide)
          have N7 := Fr.app N2 N7q
          refine ogo (fun t k => st7.trans k) ?_
          show OwnEnds _ _ _ _ _ _ _ (T7.setTop (mkF m 83 #[.val (.int p0), .val (.int p1), .val (.int (0 : Int32)), .val (.int (1 : Int32)), .val (.int (0 : Int32)), .val (.int (0 : Int32)), .val (.ref w_LIST), .unset, .unset] [(.int (9 : Int32))]))
          refine ogo (fun t k => XS.istore X7.here hx rfl (hb hby at_83) rfl (l' := #[.val (.int p0), .val (.int p1), .val (.int (0 : Int32)), .val (.int (1 : Int32)), .val (.int (0 : Int32)), .val (.int (0 : Int32)), .val (.ref w_LIST), .val (.int (9 : Int32)), .unset]) rfl k) ?_
          show OwnEnds _ _ _ _ _ _ _ (T7.setTop (mkF m 85 #[.val (.int p0), .val (.int p1), .val (.int (0 : Int32)), .val (.int (1 : Int32)), .val (.int (0 : Int32)), .val (.int (0 : Int32)), .val (.ref w_LIST), .val (.int (9 : Int32)), .unset] []))
          refine ogo (fun t k => XS.iload X7.here hx rfl (hb hby at_85) rfl k) ?_
          show OwnEnds _ _ _ _ _ _ _ (T7.setTop (mkF m 87 #[.val (.int p0), .val (.int p1), .val (.int (0 : Int32)), .val (.int (1 : Int32)), .val (.int (0 : Int32)), .val (.int (0 : Int32)), .val (.ref w_LIST), .val (.int (9 : Int32)), .unset] [(.int (9 : Int32))]))
          obtain ⟨v8, _, ⟨T8, L8, k8, n8⟩, -, X8, ⟨Lc8, hQ8, l8, y8, z8⟩, st8⟩ := Jvm.LawKit.callS X7 hx (y := (⟨"com/example/tidingsd/tidingsd/model/ElementCode", "containsRef", "(I)Z"⟩ : MethodName)) hown (mvT hZ (hw _ (List.mem_of_getElem? (i := 0) rfl))) (mvT hZ (hw _ (List.mem_of_getElem? (i := 1) rfl))) (mvT hZ (hw _ (List.mem_of_getElem? (i := 2) rfl))) (mvT hZ (hw _ (List.mem_of_getElem? (i := 3) rfl))) (by decide) (backOf (W := 0) (rm1 l Z a0 hw [] (9 : Int32) h0 n0 Z0 ) hZ (hw _ (List.mem_of_getElem? (i := 3) rfl)) (hw _ (List.mem_of_getElem? (i := 2) rfl)) (by decide) (by decide)) (g := (mkF m 87 #[.val (.int p0), .val (.int p1), .val (.int (0 : Int32)), .val (.int (1 : Int32)), .val (.int (0 : Int32)), .val (.int (0 : Int32)), .val (.ref w_LIST), .val (.int (9 : Int32)), .unset] [(.int (9 : Int32))])) rfl (by rw [hml]; rfl) (argsL := [(.int (9 : Int32))]) (rest := []) (lenOf pd__I_Z rfl) rfl (by show 2 * 0 + _ ≤ _; exact Nat.le_of_eq rfl) (hb hby at_87) (fun _ _ => ⟨rfl, e7, (by decide : 0 + 0 ≤ _), (by decide : 0 + 0 ≤ _)⟩)
          dsimp only [Pt.U, Pt.locs, Pt.cells, Pt.slots] at X8 l8 y8 z8 st8 hQ8
          subst l8 y8 z8
          obtain ⟨hv8, N8q, e8⟩ := hQ8
          obtain rfl : v8 = some (.int (0 : Int32)) := hv8.trans (by decide)
          have N8 := Fr.app N7 N8q
          refine ogo (fun t k => st8 t k) ?_
          show OwnEnds _ _ _ _ _ _ _ (T8.setTop (mkF m 90 #[.val (.int p0), .val (.int p1), .val (.int (0 : Int32)), .val (.int (1 : Int32)), .val (.int (0 : Int32)), .val (.int (0 : Int32)), .val (.ref w_LIST), .val (.int (9 : Int32)), .unset] [(.int (0 : Int32))]))
          refine ogo (fun t k => XS.iload X8.here hx rfl (hb hby at_90) rfl k) ?_
          show OwnEnds _ _ _ _ _ _ _ (T8.setTop (mkF m 92 #[.val (.int p0), .val (.int p1), .val (.int (0 : Int32)), .val (.int (1 : Int32)), .val (.int (0 : Int32)), .val (.int (0 : Int32)), .val (.ref w_LIST), .val (.int (9 : Int32)), .unset] [(.int (0 : Int32)), (.int (0 : Int32))]))
          refine ogo (fun t k => XS.icmpNo X8.here hx rfl (hb hby at_92) rfl (teq (by decide : (0 : Int32) = (0 : Int32))).2 k) ?_
          show OwnEnds _ _ _ _ _ _ _ (T8.setTop (mkF m 95 #[.val (.int p0), .val (.int p1), .val (.int (0 : Int32)), .val (.int (1 : Int32)), .val (.int (0 : Int32)), .val (.int (0 : Int32)), .val (.ref w_LIST), .val (.int (9 : Int32)), .unset] []))
          refine ogo (fun t k => XS.iconst X8.here hx rfl (hb hby at_95) k) ?_
          show OwnEnds _ _ _ _ _ _ _ (T8.setTop (mkF m 96 #[.val (.int p0), .val (.int p1), .val (.int (0 : Int32)), .val (.int (1 : Int32)), .val (.int (0 : Int32)), .val (.int (0 : Int32)), .val (.ref w_LIST), .val (.int (9 : Int32)), .unset] [(.int (1 : Int32))]))
          refine ogo (fun t k => XS.goto X8.here hx rfl (pc0 := 96) (pc' := 100) rfl (hb hby at_96) (by decide) (by decide) k) ?_
          show OwnEnds _ _ _ _ _ _ _ (T8.setTop (mkF m 100 #[.val (.int p0), .val (.int p1), .val (.int (0 : Int32)), .val (.int (1 : Int32)), .val (.int (0 : Int32)), .val (.int (0 : Int32)), .val (.ref w_LIST), .val (.int (9 : Int32)), .unset] [(.int (1 : Int32))]))
          refine ogo (fun t k => XS.istore X8.here hx rfl (hb hby at_100) rfl (l' := #[.val (.int p0), .val (.int p1), .val (.int (0 : Int32)), .val (.int (1 : Int32)), .val (.int (0 : Int32)), .val (.int (0 : Int32)), .val (.ref w_LIST), .val (.int (9 : Int32)), .val (.int (1 : Int32))]) rfl k) ?_
          show OwnEnds _ _ _ _ _ _ _ (T8.setTop (mkF m 102 #[.val (.int p0), .val (.int p1), .val (.int (0 : Int32)), .val (.int (1 : Int32)), .val (.int (0 : Int32)), .val (.int (0 : Int32)), .val (.ref w_LIST), .val (.int (9 : Int32)), .val (.int (1 : Int32))] []))
          refine ogo (fun t k => XS.iloadN X8.here hx rfl (hb hby at_102) rfl k) ?_
          show OwnEnds _ _ _ _ _ _ _ (T8.setTop (mkF m 103 #[.val (.int p0), .val (.int p1), .val (.int (0 : Int32)), .val (.int (1 : Int32)), .val (.int (0 : Int32)), .val (.int (0 : Int32)), .val (.ref w_LIST), .val (.int (9 : Int32)), .val (.int (1 : Int32))] [(.int (1 : Int32))]))
          refine ogo (fun t k => XS.ifNo X8.here hx rfl (hb hby at_103) rfl ((if0 _ _).trans (feq (by decide : ¬ ((1 : Int32) = (0 : Int32)))).1) k) ?_
          show OwnEnds _ _ _ _ _ _ _ (T8.setTop (mkF m 106 #[.val (.int p0), .val (.int p1), .val (.int (0 : Int32)), .val (.int (1 : Int32)), .val (.int (0 : Int32)), .val (.int (0 : Int32)), .val (.ref w_LIST), .val (.int (9 : Int32)), .val (.int (1 : Int32))] []))
          refine ogo (fun t k => XS.iload X8.here hx rfl (hb hby at_106) rfl k) ?_
          show OwnEnds _ _ _ _ _ _ _ (T8.setTop (mkF m 108 #[.val (.int p0), .val (.int p1), .val (.int (0 : Int32)), .val (.int (1 : Int32)), .val (.int (0 : Int32)), .val (.int (0 : Int32)), .val (.ref w_LIST), .val (.int (9 : Int32)), .val (.int (1 : Int32))] [(.int (1 : Int32))]))
          refine ogo (fun t k => XS.ifNo X8.here hx rfl (hb hby at_108) rfl ((if0 _ _).trans (feq (by decide : ¬ ((1 : Int32) = (0 : Int32)))).1) k) ?_
          show OwnEnds _ _ _ _ _ _ _ (T8.setTop (mkF m 111 #[.val (.int p0), .val (.int p1), .val (.int (0 : Int32)), .val (.int (1 : Int32)), .val (.int (0 : Int32)), .val (.int (0 : Int32)), .val (.ref w_LIST), .val (.int (9 : Int32)), .val (.int (1 : Int32))] []))
          refine ogo (fun t k => XS.iconst X8.here hx rfl (hb hby at_111) k) ?_
          show OwnEnds _ _ _ _ _ _ _ (T8.setTop (mkF m 112 #[.val (.int p0), .val (.int p1), .val (.int (0 : Int32)), .val (.int (1 : Int32)), .val (.int (0 : Int32)), .val (.int (0 : Int32)), .val (.ref w_LIST), .val (.int (9 : Int32)), .val (.int (1 : Int32))] [(.int (1 : Int32))]))
          refine ogo (fun t k => XS.goto X8.here hx rfl (pc0 := 112) (pc' := 116) rfl (hb hby at_112) (by decide) (by decide) k) ?_
          show OwnEnds _ _ _ _ _ _ _ (T8.setTop (mkF m 116 #[.val (.int p0), .val (.int p1), .val (.int (0 : Int32)), .val (.int (1 : Int32)), .val (.int (0 : Int32)), .val (.int (0 : Int32)), .val (.ref w_LIST), .val (.int (9 : Int32)), .val (.int (1 : Int32))] [(.int (1 : Int32))]))
          refine endZ X8 hx hlk Bd.returns rfl (hb hby at_116) (by decide) (by decide) ?_
          show Q0 Z p0 p1 w_LIST w_PROPLIST h0 n0 _ T8.heap _
          rw [e8]
          exact ⟨rfl, N8⟩
        · refine ogo (fun t k => XS.ifNo X2.here hx rfl (hb hby at_60) rfl ((if0 _ _).trans (feq hc5).1) k) ?_
          show OwnEnds _ _ _ _ _ _ _ (T2.setTop (mkF m 63 #[.val (.int p0), .val (.int p1), .val (.int (0 : Int32)), .val (.int (1 : Int32)), .val (.int (0 : Int32)), .val (.int (0 : Int32)), .unset, .unset, .unset] []))
          obtain ⟨T9, X9, e9, st9⟩ := getS2 X2 hx hZ hown (host := "") (Or.inl (hw _ (List.mem_of_getElem? (i := 23) rfl))) Via.refl e2 S_PROPLIST (g := (mkF m 63 #[.val (.int p0), .val (.int p1), .val (.int (0 : Int32)), .val (.int (1 : Int32)), .val (.int (0 : Int32)), .val (.int (0 : Int32)), .unset, .unset, .unset] [])) rfl (hb hby at_63)
          refine ogo st9 ?_
          show OwnEnds _ _ _ _ _ _ _ (T9.setTop (mkF m 66 #[.val (.int p0), .val (.int p1), .val (.int (0 : Int32)), .val (.int (1 : Int32)), .val (.int (0 : Int32)), .val (.int (0 : Int32)), .unset, .unset, .unset] [(.ref w_PROPLIST)]))
          refine ogo (fun t k => XS.goto X9.here hx rfl (pc0 := 66) (pc' := 72) rfl (hb hby at_66) (by decide) (by decide) k) ?_
          show OwnEnds _ _ _ _ _ _ _ (T9.setTop (mkF m 72 #[.val (.int p0), .val (.int p1), .val (.int (0 : Int32)), .val (.int (1 : Int32)), .val (.int (0 : Int32)), .val (.int (0 : Int32)), .unset, .unset, .unset] [(.ref w_PROPLIST)]))
          refine ogo (fun t k => XS.astore X9.here hx rfl (hb hby at_72) rfl rfl (l' := #[.val (.int p0), .val (.int p1), .val (.int (0 : Int32)), .val (.int (1 : Int32)), .val (.int (0 : Int32)), .val (.int (0 : Int32)), .val (.ref w_PROPLIST), .unset, .unset]) rfl k) ?_
          show OwnEnds _ _ _ _ _ _ _ (T9.setTop (mkF m 74 #[.val (.int p0), .val (.int p1), .val (.int (0 : Int32)), .val (.int (1 : Int32)), .val (.int (0 : Int32)), .val (.int (0 : Int32)), .val (.ref w_PROPLIST), .unset, .unset] []))
          refine ogo (fun t k => XS.aload X9.here hx rfl (hb hby at_74) rfl rfl k) ?_
          show OwnEnds _ _ _ _ _ _ _ (T9.setTop (mkF m 76 #[.val (.int p0), .val (.int p1), .val (.int (0 : Int32)), .val (.int (1 : Int32)), .val (.int (0 : Int32)), .val (.int (0 : Int32)), .val (.ref w_PROPLIST), .unset, .unset] [(.ref w_PROPLIST)]))
          refine ogo (fun t k => XS.iload X9.here hx rfl (hb hby at_76) rfl k) ?_
          show OwnEnds _ _ _ _ _ _ _ (T9.setTop (mkF m 78 #[.val (.int p0), .val (.int p1), .val (.int (0 : Int32)), .val (.int (1 : Int32)), .val (.int (0 : Int32)), .val (.int (0 : Int32)), .val (.ref w_PROPLIST), .unset, .unset] [(.int (0 : Int32)), (.ref w_PROPLIST)]))
          refine ogo (fun t k => XS.iload X9.here hx rfl (hb hby at_78) rfl k) ?_
          show OwnEnds _ _ _ _ _ _ _ (T9.setTop (mkF m 80 #[.val (.int p0), .val (.int p1), .val (.int (0 : Int32)), .val (.int (1 : Int32)), .val (.int (0 : Int32)), .val (.int (0 : Int32)), .val (.ref w_PROPLIST), .unset, .unset] [(.int (0 : Int32)), (.int (0 : Int32)), (.ref w_PROPLIST)]))
          obtain ⟨cq10, kq10, q10a, q10b, q10c⟩ := isOf hZ e9 E_PROPLIST
          obtain ⟨v10, _, ⟨T10, L10, k10, n10⟩, -, X10, ⟨Lc10, hQ10, l10, y10, z10⟩, st10⟩ := X9.virtualBack hx (y := (⟨"com/example/tidingsd/tidingsd/model/ElementCode", "octet", "(ZZ)I"⟩ : MethodName)) (z := (⟨"com/example/tidingsd/tidingsd/model/ElementCode", "octet", "(ZZ)I"⟩ : MethodName)) hown (mvT hZ (hw _ (List.mem_of_getElem? (i := 6) rfl))) (mvT hZ (hw _ (List.mem_of_getElem? (i := 7) rfl))) (notFace_of_selects (args := #[]) (mvT hZ (hw _ (List.mem_of_getElem? (i := 9) rfl)))) (mvT hZ (hw _ (List.mem_of_getElem? (i := 9) rfl))) (mvT hZ (hw _ (List.mem_of_getElem? (i := 8) rfl))) (by decide) (backOf (W := 0) (rm4 l Z a0 hw [] w_PROPLIST (0 : Int32) (0 : Int32) (10 : Int32) w_LIST w_PROPLIST h0 n0 Z0 S_LIST S_PROPLIST E_PROPLIST (Or.inr rfl) F_code_PROPLIST) hZ (hw _ (List.mem_of_getElem? (i := 10) rfl)) (hw _ (List.mem_of_getElem? (i := 2) rfl)) (by decide) (by decide)) q10a q10c (g := (mkF m 80 #[.val (.int p0), .val (.int p1), .val (.int (0 : Int32)), .val (.int (1 : Int32)), .val (.int (0 : Int32)), .val (.int (0 : Int32)), .val (.ref w_PROPLIST), .unset, .unset] [(.int (0 : Int32)), (.int (0 : Int32)), (.ref w_PROPLIST)])) rfl (by rw [hml]; rfl) (Steps.refl _) (argsL := [(.int (0 : Int32)), (.int (0 : Int32))]) (rest := []) (lenOf pd__ZZ_I rfl) rfl (by show 2 * 0 + _ ≤ _; exact Nat.le_of_eq rfl) (hb hby at_80) (fun _ _ => ⟨rfl, e9, (by decide : 0 + 0 ≤ _), (by decide : 0 + 0 ≤ _)⟩)
          dsimp only [Pt.U, Pt.locs, Pt.cells, Pt.slots] at X10 l10 y10 z10 st10 hQ10
          subst l10 y10 z10
          obtain ⟨hv10, N10q, e10⟩ := hQ10
          obtain rfl : v10 = some (.int (10 : Int32)) := hv10.trans (by decide)
          have N10 := Fr.app N2 N10q
          refine ogo (fun t k => st10.trans k) ?_
          show OwnEnds _ _ _ _ _ _ _ (T10.setTop (mkF m 83 #[.val (.int p0), .val (.int p1), .val (.int (0 : Int32)), .val (.int (1 : Int32)), .val (.int (0 : Int32)), .val (.int (0 : Int32)), .val (.ref w_PROPLIST), .unset, .unset] [(.int (10 : Int32))]))
          refine ogo (fun t k => XS.istore X10.here hx rfl (hb hby at_83) rfl (l' := #[.val (.int p0), .val (.int p1), .val (.int (0 : Int32)), .val (.int (1 : Int32)), .val (.int (0 : Int32)), .val (.int (0 : Int32)), .val (.ref w_PROPLIST), .val (.int (10 : Int32)), .unset]) rfl k) ?_
          show OwnEnds _ _ _ _ _ _ _ (T10.setTop (mkF m 85 #[.val (.int p0), .val (.int p1), .val (.int (0 : Int32)), .val (.int (1 : Int32)), .val (.int (0 : Int32)), .val (.int (0 : Int32)), .val (.ref w_PROPLIST), .val (.int (10 : Int32)), .unset] []))
          refine ogo (fun t k => XS.iload X10.here hx rfl (hb hby at_85) rfl k) ?_
          show OwnEnds _ _ _ _ _ _ _ (T10.setTop (mkF m 87 #[.val (.int p0), .val (.int p1), .val (.int (0 : Int32)), .val (.int (1 : Int32)), .val (.int (0 : Int32)), .val (.int (0 : Int32)), .val (.ref w_PROPLIST), .val (.int (10 : Int32)), .unset] [(.int (10 : Int32))]))
          obtain ⟨v11, _, ⟨T11, L11, k11, n11⟩, -, X11, ⟨Lc11, hQ11, l11, y11, z11⟩, st11⟩ := Jvm.LawKit.callS X10 hx (y := (⟨"com/example/tidingsd/tidingsd/model/ElementCode", "containsRef", "(I)Z"⟩ : MethodName)) hown (mvT hZ (hw _ (List.mem_of_getElem? (i := 0) rfl))) (mvT hZ (hw _ (List.mem_of_getElem? (i := 1) rfl))) (mvT hZ (hw _ (List.mem_of_getElem? (i := 2) rfl))) (mvT hZ (hw _ (List.mem_of_getElem? (i := 3) rfl))) (by decide) (backOf (W := 0) (rm1 l Z a0 hw [] (10 : Int32) h0 n0 Z0 ) hZ (hw _ (List.mem_of_getElem? (i := 3) rfl)) (hw _ (List.mem_of_getElem? (i := 2) rfl)) (by decide) (by decide)) (g := (mkF m 87 #[.val (.int p0), .val (.int p1), .val (.int (0 : Int32)), .val (.int (1 : Int32)), .val (.int (0 : Int32)), .val (.int (0 : Int32)), .val (.ref w_PROPLIST), .val (.int (10 : Int32)), .unset] [(.int (10 : Int32))])) rfl (by rw [hml]; rfl) (argsL := [(.int (10 : Int32))]) (rest := []) (lenOf pd__I_Z rfl) rfl (by show 2 * 0 + _ ≤ _; exact Nat.le_of_eq rfl) (hb hby at_87) (fun _ _ => ⟨rfl, e10, (by decide : 0 + 0 ≤ _), (by decide : 0 + 0 ≤ _)⟩)
          dsimp only [Pt.U, Pt.locs, Pt.cells, Pt.slots] at X11 l11 y11 z11 st11 hQ11
          subst l11 y11 z11
          obtain ⟨hv11, N11q, e11⟩ := hQ11
          obtain rfl : v11 = some (.int (0 : Int32)) := hv11.trans (by decide)
          have N11 := Fr.app N10 N11q
          refine ogo (fun t k => st11 t k) ?_
          show OwnEnds _ _ _ _ _ _ _ (T11.setTop (mkF m 90 #[.val (.int p0), .val (.int p1), .val (.int (0 : Int32)), .val (.int (1 : Int32)), .val (.int (0 : Int32)), .val (.int (0 : Int32)), .val (.ref w_PROPLIST), .val (.int (10 : Int32)), .unset] [(.int (0 : Int32))]))
          refine ogo (fun t k => XS.iload X11.here hx rfl (hb hby at_90) rfl k) ?_
          show OwnEnds _ _ _ _ _ _ _ (T11.setTop (mkF m 92 #[.val (.int p0), .val (.int p1), .val (.int (0 : Int32)), .val (.int (1 : Int32)), .val (.int (0 : Int32)), .val (.int (0 : Int32)), .val (.ref w_PROPLIST), .val (.int (10 : Int32)), .unset] [(.int (0 : Int32)), (.int (0 : Int32))]))
          refine ogo (fun t k => XS.icmpNo X11.here hx rfl (hb hby at_92) rfl (teq (by decide : (0 : Int32) = (0 : Int32))).2 k) ?_
          show OwnEnds _ _ _ _ _ _ _ (T11.setTop (mkF m 95 #[.val (.int p0), .val (.int p1), .val (.int (0 : Int32)), .val (.int (1 : Int32)), .val (.int (0 : Int32)), .val (.int (0 : Int32)), .val (.ref w_PROPLIST), .val (.int (10 : Int32)), .unset] []))
          refine ogo (fun t k => XS.iconst X11.here hx rfl (hb hby at_95) k) ?_
          show OwnEnds _ _ _ _ _ _ _ (T11.setTop (mkF m 96 #[.val (.int p0), .val (.int p1), .val (.int (0 : Int32)), .val (.int (1 : Int32)), .val (.int (0 : Int32)), .val (.int (0 : Int32)), .val (.ref w_PROPLIST), .val (.int (10 : Int32)), .unset] [(.int (1 : Int32))]))
          refine ogo (fun t k => XS.goto X11.here hx rfl (pc0 := 96) (pc' := 100) rfl (hb hby at_96) (by decide) (by decide) k) ?_
          show OwnEnds _ _ _ _ _ _ _ (T11.setTop (mkF m 100 #[.val (.int p0), .val (.int p1), .val (.int (0 : Int32)), .val (.int (1 : Int32)), .val (.int (0 : Int32)), .val (.int (0 : Int32)), .val (.ref w_PROPLIST), .val (.int (10 : Int32)), .unset] [(.int (1 : Int32))]))
          refine ogo (fun t k => XS.istore X11.here hx rfl (hb hby at_100) rfl (l' := #[.val (.int p0), .val (.int p1), .val (.int (0 : Int32)), .val (.int (1 : Int32)), .val (.int (0 : Int32)), .val (.int (0 : Int32)), .val (.ref w_PROPLIST), .val (.int (10 : Int32)), .val (.int (1 : Int32))]) rfl k) ?_
          show OwnEnds _ _ _ _ _ _ _ (T11.setTop (mkF m 102 #[.val (.int p0), .val (.int p1), .val (.int (0 : Int32)), .val (.int (1 : Int32)), .val (.int (0 : Int32)), .val (.int (0 : Int32)), .val (.ref w_PROPLIST), .val (.int (10 : Int32)), .val (.int (1 : Int32))] []))
          refine ogo (fun t k => XS.iloadN X11.here hx rfl (hb hby at_102) rfl k) ?_
          show OwnEnds _ _ _ _ _ _ _ (T11.setTop (mkF m 103 #[.val (.int p0), .val (.int p1), .val (.int (0 : Int32)), .val (.int (1 : Int32)), .val (.int (0 : Int32)), .val (.int (0 : Int32)), .val (.ref w_PROPLIST), .val (.int (10 : Int32)), .val (.int (1 : Int32))] [(.int (1 : Int32))]))
          refine ogo (fun t k => XS.ifNo X11.here hx rfl (hb hby at_103) rfl ((if0 _ _).trans (feq (by decide : ¬ ((1 : Int32) = (0 : Int32)))).1) k) ?_
          show OwnEnds _ _ _ _ _ _ _ (T11.setTop (mkF m 106 #[.val (.int p0), .val (.int p1), .val (.int (0 : Int32)), .val (.int (1 : Int32)), .val (.int (0 : Int32)), .val (.int (0 : Int32)), .val (.ref w_PROPLIST), .val (.int (10 : Int32)), .val (.int (1 : Int32))] []))
          refine ogo (fun t k => XS.iload X11.here hx rfl (hb hby at_106) rfl k) ?_
          show OwnEnds _ _ _ _ _ _ _ (T11.setTop (mkF m 108 #[.val (.int p0), .val (.int p1), .val (.int (0 : Int32)), .val (.int (1 : Int32)), .val (.int (0 : Int32)), .val (.int (0 : Int32)), .val (.ref w_PROPLIST), .val (.int (10 : Int32)), .val (.int (1 : Int32))] [(.int (1 : Int32))]))
          refine ogo (fun t k => XS.ifNo X11.here hx rfl (hb hby at_108) rfl ((if0 _ _).trans (feq (by decide : ¬ ((1 : Int32) = (0 : Int32)))).1) k) ?_
          show OwnEnds _ _ _ _ _ _ _ (T11.setTop (mkF m 111 #[.val (.int p0), .val (.int p1), .val (.int (0 : Int32)), .val (.int (1 : Int32)), .val (.int (0 : Int32)), .val (.int (0 : Int32)), .val (.ref w_PROPLIST), .val (.int (10 : Int32)), .val (.int (1 : Int32))] []))
          refine ogo (fun t k => XS.iconst X11.here hx rfl (hb hby at_111) k) ?_
          show OwnEnds _ _ _ _ _ _ _ (T11.setTop (mkF m 112 #[.val (.int p0), .val (.int p1), .val (.int (0 : Int32)), .val (.int (1 : Int32)), .val (.int (0 : Int32)), .val (.int (0 : Int32)), .val (.ref w_PROPLIST), .val (.int (10 : Int32)), .val (.int (1 : Int32))] [(.int (1 : Int32))]))
          refine ogo (fun t k => XS.goto X11.here hx rfl (pc0 := 112) (pc' := 116) rfl (hb hby at_112) (by decide) (by decide) k) ?_
          show OwnEnds _ _ _ _ _ _ _ (T11.setTop (mkF m 116 #[.val (.int p0), .val (.int p1), .val (.int (0 : Int32)), .val (.int (1 : Int32)), .val (.int (0 : Int32)), .val (.int (0 : Int32)), .val (.ref w_PROPLIST), .val (.int (10 : Int32)), .val (.int (1 : Int32))] [(.int (1 : Int32))]))
          refine endZ X11 hx hlk Bd.returns rfl (hb hby at_116) (by decide) (by decide) ?_
          show Q0 Z p0 p1 w_LIST w_PROPLIST h0 n0 _ T11.heap _
          rw [e11]
          exact ⟨rfl, N11⟩
      · refine ogo (fun t k => XS.ifNo X2.here hx rfl (hb hby at_47) rfl ((if0 _ _).trans (feq hc4).1) k) ?_
        show OwnEnds _ _ _ _ _ _ _ (T2.setTop (mkF m 50 #[.val (.int p0), .val (.int p1), .val (.int (0 : Int32)), .val (.int (1 : Int32)), .val (.int (0 : Int32)), .unset, .unset, .unset, .unset] []))
        refine ogo (fun t k => XS.iconst X2.here hx rfl (hb hby at_50) k) ?_
        show OwnEnds _ _ _ _ _ _ _ (T2.setTop (mkF m 51 #[.val (.int p0), .val (.int p1), .val (.int (0 : Int32)), .val (.int (1 : Int32)), .val (.int (0 : Int32)), .unset, .unset, .unset, .unset] [(.int (1 : Int32))]))
        refine ogo (fun t k => XS.goto X2.here hx rfl (pc0 := 51) (pc' := 55) rfl (hb hby at_51) (by decide) (by decide) k) ?_
        show OwnEnds _ _ _ _ _ _ _ (T2.setTop (mkF m 55 #[.val (.int p0), .val (.int p1), .val (.int (0 : Int32)), .val (.int (1 : Int32)), .val (.int (0 : Int32)), .unset, .unset, .unset, .unset] [(.int (1 : Int32))]))
        refine ogo (fun t k => XS.istore X2.here hx rfl (hb hby at_55) rfl (l' := #[.val (.int p0), .val (.int p1), .val (.int (0 : Int32)), .val (.int (1 : Int32)), .val (.int (0 : Int32)), .val (.int (1 : Int32)), .unset, .unset, .unset]) rfl k) ?_
        show OwnEnds _ _ _ _ _ _ _ (T2.setTop (mkF m 57 #[.val (.int p0), .val (.int p1), .val (.int (0 : Int32)), .val (.int (1 : Int32)), .val (.int (0 : Int32)), .val (.int (1 : Int32)), .unset, .unset, .unset] []))
        refine ogo (fun t k => XS.iloadN X2.here hx rfl (hb hby at_57) rfl k) ?_
        show OwnEnds _ _ _ _ _ _ _ (T2.setTop (mkF m 58 #[.val (.int p0), .val (.int p1), .val (.int (0 : Int32)), .val (.int (1 : Int32)), .val (.int (0 : Int32)), .val (.int (1 : Int32)), .unset, .unset, .unset] [(.int p1)]))
        refine ogo (fun t k => XS.iconst X2.here hx rfl (hb hby at_58) k) ?_
        show OwnEnds _ _ _ _ _ _ _ (T2.setTop (mkF m 59 #[.val (.int p0), .val (.int p1), .val (.int (0 : Int32)), .val (.int (1 : Int32)), .val (.int (0 : Int32)), .val (.int (1 : Int32)), .unset, .unset, .unset] [(.int (4 : Int32)), (.int p1)]))
        refine ogo (fun t k => XS.iand X2.here hx rfl (hb hby at_59) rfl k) ?_
        show OwnEnds _ _ _ _ _ _ _ (T2.setTop (mkF m 60 #[.val (.int p0), .val (.int p1), .val (.int (0 : Int32)), .val (.int (1 : Int32)), .val (.int (0 : Int32)), .val (.int (1 : Int32)), .unset, .unset, .unset] [(.int (p1 &&& (4 : Int32)))]))
        by_cases hc12 : (p1 &&& (4 : Int32)) = (0 : Int32)
        · refine ogo (fun t k => XS.ifYes X2.here hx rfl (pc0 := 60) (pc' := 69) rfl (hb hby at_60) rfl ((if0 _ _).trans (teq hc12).1) (by decide) (by decide) k) ?_
          show OwnEnds _ _ _ _ _ _ _ (T2.setTop (mkF m 69 #[.val (.int p0), .val (.int p1), .val (.int (0 : Int32)), .val (.int (1 : Int32)), .val (.int (0 : Int32)), .val (.int (1 : Int32)), .unset, .unset, .unset] []))
          obtain ⟨T13, X13, e13, st13⟩ := getS2 X2 hx hZ hown (host := "") (Or.inl (hw _ (List.mem_of_getElem? (i := 4) rfl))) Via.refl e2 S_LIST (g := (mkF m 69 #[.val (.int p0), .val (.int p1), .val (.int (0 : Int32)), .val (.int (1 : Int32)), .val (.int (0 : Int32)), .val (.int (1 : Int32)), .unset, .unset, .unset] [])) rfl (hb hby at_69)
          refine ogo st13 ?_
          show OwnEnds _ _ _ _ _ _ _ (T13.setTop (mkF m 72 #[.val (.int p0), .val (.int p1), .val (.int (0 : Int32)), .val (.int (1 : Int32)), .val (.int (0 : Int32)), .val (.int (1 : Int32)), .unset, .unset, .unset] [(.ref w_LIST)]))
          refine ogo (fun t k => XS.astore X13.here hx rfl (hb hby at_72) rfl rfl (l' := #[.val (.int p0), .val (.int p1), .val (.int (0 : Int32)), .val (.int (1 : Int32)), .val (.int (0 : Int32)), .val (.int (1 : Int32)), .val (.ref w_LIST), .unset, .unset]) rfl k) ?_
          show OwnEnds _ _ _ _ _ _ _ (T13.setTop (mkF m 74 #[.val (.int p0), .val (.int p1), .val (.int (0 : Int32)), .val (.int (1 : Int32)), .val (.int (0 : Int32)), .val (.int (1 : Int32)), .val (.ref w_LIST), .unset, .unset] []))
          refine ogo (fun t k => XS.aload X13.here hx rfl (hb hby at_74) rfl rfl k) ?_
          show OwnEnds _ _ _ _ _ _ _ (T13.setTop (mkF m 76 #[.val (.int p0), .val (.int p1), .val (.int (0 : Int32)), .val (.int (1 : Int32)), .val (.int (0 : Int32)), .val (.int (1 : Int32)), .val (.ref w_LIST), .unset, .unset] [(.ref w_LIST)]))
          refine ogo (fun t k => XS.iload X13.here hx rfl (hb hby at_76) rfl k) ?_
          show OwnEnds _ _ _ _ _ _ _ (T13.setTop (mkF m 78 #[.val (.int p0), .val (.int p1), .val (.int (0 : Int32)), .val (.int (1 : Int32)), .val (.int (0 : Int32)), .val (.int (1 : Int32)), .val (.ref w_LIST), .unset, .unset] [(.int (0 : Int32)), (.ref w_LIST)]))
          refine ogo (fun t k => XS.iload X13.here hx rfl (hb hby at_78) rfl k) ?_
          show OwnEnds _ _ _ _ _ _ _ (T13.setTop (mkF m 80 #[.val (.int p0), .val (.int p1), .val (.int (0 : Int32)), .val (.int (1 : Int32)), .val (.int (0 : Int32)), .val (.int (1 : Int32)), .val (.ref w_LIST), .unset, .unset] [(.int (1 : Int32)), (.int (0 : Int32)), (.ref w_LIST)]))
          obtain ⟨cq14, kq14, q14a, q14b, q14c⟩ := isOf hZ e13 E_LIST
          obtain ⟨v14, _, ⟨T14, L14, k14, n14⟩, -, X14, ⟨Lc14, hQ14, l14, y14, z14⟩, st14⟩ := X13.virtualBack hx (y := (⟨"com/example/tidingsd/tidingsd/model/ElementCode", "octet", "(ZZ)I"⟩ : MethodName)) (z := (⟨"com/example/tidingsd/tidingsd/model/ElementCode", "octet", "(ZZ)I"⟩ : MethodName)) hown (mvT hZ (hw _ (List.mem_of_getElem? (i := 6) rfl))) (mvT hZ (hw _ (List.mem_of_getElem? (i := 7) rfl))) (notFace_of_selects (args := #[]) (mvT hZ (hw _ (List.mem_of_getElem? (i := 9) rfl)))) (mvT hZ (hw _ (List.mem_of_getElem? (i := 9) rfl))) (mvT hZ (hw _ (List.mem_of_getElem? (i := 8) rfl))) (by decide) (backOf (W := 0) (rm4 l Z a0 hw [] w_LIST (0 : Int32) (1 : Int32) (9 : Int32) w_LIST w_PROPLIST h0 n0 Z0 S_LIST S_PROPLIST E_LIST (Or.inl rfl) F_code_LIST) hZ (hw _ (List.mem_of_getElem? (i := 10) rfl)) (hw _ (List.mem_of_getElem? (i := 2) rfl)) (by decide) (by decide)) q14a q14c (g := (mkF m 80 #[.val (.int p0), .val (.int p1), .val (.int (0 : Int32)), .val (.int (1 : Int32)), .val (.int (0 : Int32)), .val (.int (1 : Int32)), .val (.ref w_LIST), .unset, .unset] [(.int (1 : Int32)), (.int (0 : Int32)), (.ref w_LIST)])) rfl (by rw [hml]; rfl) (Steps.refl _) (argsL := [(.int (0 : Int32)), (.int (1 : Int32))]) (rest := []) (lenOf pd__ZZ_I rfl) rfl (by show 2 * 0 + _ ≤ _; exact Nat.le_of_eq rfl) (hb hby at_80) (fun _ _ => ⟨rfl, e13, (by decide : 0 + 0 ≤ _), (by decide : 0 + 0 ≤ _)⟩)
          dsimp only [Pt.U, Pt.locs, Pt.cells, Pt.slots] at X14 l14 y14 z14 st14 hQ14
          subst l14 y14 z14
          obtain ⟨hv14, N14q, e14⟩ := hQ14
          obtain rfl : v14 = some (.int (137 : Int32)) := hv14.trans (by decide)
          have N14 := Fr.app N2 N14q
          refine ogo (fun t k => st14.trans k) ?_
          show OwnEnds _ _ _ _ _ _ _ (T14.setTop (mkF m 83 #[.val (.int p0), .val (.int p1), .val (.int (0 : Int32)), .val (.int (1 : Int32)), .val (.int (0 : Int32)), .val (.int (1 : Int32)), .val (.ref w_LIST), .unset, .unset] [(.int (137 : Int32))]))
          refine ogo (fun t k => XS.istore X14.here hx rfl (hb hby at_83) rfl (l' := #[.val (.int p0), .val (.int p1), .val (.int (0 : Int32)), .val (.int (1 : Int32)), .val (.int (0 : Int32)), .val (.int (1 : Int32)), .val (.ref w_LIST), .val (.int (137 : Int32)), .unset]) rfl k) ?_
          show OwnEnds _ _ _ _ _ _ _ (T14.setTop (mkF m 85 #[.val (.int p0), .val (.int p1), .val (.int (0 : Int32)), .val (.int (1 : Int32)), .val (.int (0 : Int32)), .val (.int (1 : Int32)), .val (.ref w_LIST), .val (.int (137 : Int32)), .unset] []))
          refine ogo (fun t k => XS.iload X14.here hx rfl (hb hby at_85) rfl k) ?_
          show OwnEnds _ _ _ _ _ _ _ (T14.setTop (mkF m 87 #[.val (.int p0), .val (.int p1), .val (.int (0 : Int32)), .val (.int (1 : Int32)), .val (.int (0 : Int32)), .val (.int (1 : Int32)), .val (.ref w_LIST), .val (.int (137 : Int32)), .unset] [(.int (137 : Int32))]))
          obtain ⟨v15, _, ⟨T15, L15, k15, n15⟩, -, X15, ⟨Lc15, hQ15, l15, y15, z15⟩, st15⟩ := Jvm.LawKit.callS X14 hx (y := (⟨"com/example/tidingsd/tidingsd/model/ElementCode", "containsRef", "(I)Z"⟩ : MethodName)) hown (mvT hZ (hw _ (List.mem_of_getElem? (i := 0) rfl))) (mvT hZ (hw _ (List.mem_of_getElem? (i := 1) rfl))) (mvT hZ (hw _ (List.mem_of_getElem? (i := 2) rfl))) (mvT hZ (hw _ (List.mem_of_getElem? (i := 3) rfl))) (by decide) (backOf (W := 0) (rm1 l Z a0 hw [] (137 : Int32) h0 n0 Z0 ) hZ (hw _ (List.mem_of_getElem? (i := 3) rfl)) (hw _ (List.mem_of_getElem? (i := 2) rfl)) (by decide) (by decide)) (g := (mkF m 87 #[.val (.int p0), .val (.int p1), .val (.int (0 : Int32)), .val (.int (1 : Int32)), .val (.int (0 : Int32)), .val (.int (1 : Int32)), .val (.ref w_LIST), .val (.int (137 : Int32)), .unset] [(.int (137 : Int32))])) rfl (by rw [hml]; rfl) (argsL := [(.int (137 : Int32))]) (rest := []) (lenOf pd__I_Z rfl) rfl (by show 2 * 0 + _ ≤ _; exact Nat.le_of_eq rfl) (hb hby at_87) (fun _ _ => ⟨rfl, e14, (by decide : 0 + 0 ≤ _), (by decide : 0 + 0 ≤ _)⟩)
          dsimp only [Pt.U, Pt.locs, Pt.cells, Pt.slots] at X15 l15 y15 z15 st15 hQ15
          subst l15 y15 z15
          obtain ⟨hv15, N15q, e15⟩ := hQ15
          obtain rfl : v15 = some (.int (1 : Int32)) := hv15.trans (by decide)
          have N15 := Fr.app N14 N15q
          refine ogo (fun t k => st15 t k) ?_
          show OwnEnds _ _ _ _ _ _ _ (T15.setTop (mkF m 90 #[.val (.int p0), .val (.int p1), .val (.int (0 : Int32)), .val (.int (1 : Int32)), .val (.int (0 : Int32)), .val (.int (1 : Int32)), .val (.ref w_LIST), .val (.int (137 : Int32)), .unset] [(.int (1 : Int32))]))
          refine ogo (fun t k => XS.iload X15.here hx rfl (hb hby at_90) rfl k) ?_
          show OwnEnds _ _ _ _ _ _ _ (T15.setTop (mkF m 92 #[.val (.int p0), .val (.int p1), .val (.int (0 : Int32)), .val (.int (1 : Int32)), .val (.int (0 : Int32)), .val (.int (1 : Int32)), .val (.ref w_LIST), .val (.int (137 : Int32)), .unset] [(.int (1 : Int32)), (.int (1 : Int32))]))
          refine ogo (fun t k => XS.icmpNo X15.here hx rfl (hb hby at_92) rfl (teq (by decide : (1 : Int32) = (1 : Int32))).2 k) ?_
          show OwnEnds _ _ _ _ _ _ _ (T15.setTop (mkF m 95 #[.val (.int p0), .val (.int p1), .val (.int (0 : Int32)), .val (.int (1 : Int32)), .val (.int (0 : Int32)), .val (.int (1 : Int32)), .val (.ref w_LIST), .val (.int (137 : Int32)), .unset] []))
          refine ogo (fun t k => XS.iconst X15.here hx rfl (hb hby at_95) k) ?_
          show OwnEnds _ _ _ _ _ _ _ (T15.setTop (mkF m 96 #[.val (.int p0), .val (.int p1), .val (.int (0 : Int32)), .val (.int (1 : Int32)), .val (.int (0 : Int32)), .val (.int (1 : Int32)), .val (.ref w_LIST), .val (.int (137 : Int32)), .unset] [(.int (1 : Int32))]))
          refine ogo (fun t k => XS.goto X15.here hx rfl (pc0 := 96) (pc' := 100) rfl (hb hby at_96) (by decide) (by decide) k) ?_
          show OwnEnds _ _ _ _ _ _ _ (T15.setTop (mkF m 100 #[.val (.int p0), .val (.int p1), .val (.int (0 : Int32)), .val (.int (1 : Int32)), .val (.int (0 : Int32)), .val (.int (1 : Int32)), .val (.ref w_LIST), .val (.int (137 : Int32)), .unset] [(.int (1 : Int32))]))
          refine ogo (fun t k => XS.istore X15.here hx rfl (hb hby at_100) rfl (l' := #[.val (.int p0), .val (.int p1), .val (.int (0 : Int32)), .val (.int (1 : Int32)), .val (.int (0 : Int32)), .val (.int (1 : Int32)), .val (.ref w_LIST), .val (.int (137 : Int32)), .val (.int (1 : Int32))]) rfl k) ?_
          show OwnEnds _ _ _ _ _ _ _ (T15.setTop (mkF m 102 #[.val (.int p0), .val (.int p1), .val (.int (0 : Int32)), .val (.int (1 : Int32)), .val (.int (0 : Int32)), .val (.int (1 : Int32)), .val (.ref w_LIST), .val (.int (137 : Int32)), .val (.int (1 : Int32))] []))
          refine ogo (fun t k => XS.iloadN X15.here hx rfl (hb hby at_102) rfl k) ?_
          show OwnEnds _ _ _ _ _ _ _ (T15.setTop (mkF m 103 #[.val (.int p0), .val (.int p1), .val (.int (0 : Int32)), .val (.int (1 : Int32)), .val (.int (0 : Int32)), .val (.int (1 : Int32)), .val (.ref w_LIST), .val (.int (137 : Int32)), .val (.int (1 : Int32))] [(.int (1 : Int32))]))
          refine ogo (fun t k => XS.ifNo X15.here hx rfl (hb hby at_103) rfl ((if0 _ _).trans (feq (by decide : ¬ ((1 : Int32) = (0 : Int32)))).1) k) ?_
          show OwnEnds _ _ _ _ _ _ _ (T15.setTop (mkF m 106 #[.val (.int p0), .val (.int p1), .val (.int (0 : Int32)), .val (.int (1 : Int32)), .val (.int (0 : Int32)), .val (.int (1 : Int32)), .val (.ref w_LIST), .val (.int (137 : Int32)), .val (.int (1 : Int32))] []))
          refine ogo (fun t k => XS.iload X15.here hx rfl (hb hby at_106) rfl k) ?_
          show OwnEnds _ _ _ _ _ _ _ (T15.setTop (mkF m 108 #[.val (.int p0), .val (.int p1), .val (.int (0 : Int32)), .val (.int (1 : Int32)), .val (.int (0 : Int32)), .val (.int (1 : Int32)), .val (.ref w_LIST), .val (.int (137 : Int32)), .val (.int (1 : Int32))] [(.int (1 : Int32))]))
          refine ogo (fun t k => XS.ifNo X15.here hx rfl (hb hby at_108) rfl ((if0 _ _).trans (feq (by decide : ¬ ((1 : Int32) = (0 : Int32)))).1) k) ?_
          show OwnEnds _ _ _ _ _ _ _ (T15.setTop (mkF m 111 #[.val (.int p0), .val (.int p1), .val (.int (0 : Int32)), .val (.int (1 : Int32)), .val (.int (0 : Int32)), .val (.int (1 : Int32)), .val (.ref w_LIST), .val (.int (137 : Int32)), .val (.int (1 : Int32))] []))
          refine ogo (fun t k => XS.iconst X15.here hx rfl (hb hby at_111) k) ?_
          show OwnEnds _ _ _ _ _ _ _ (T15.setTop (mkF m 112 #[.val (.int p0), .val (.int p1), .val (.int (0 : Int32)), .val (.int (1 : Int32)), .val (.int (0 : Int32)), .val (.int (1 : Int32)), .val (.ref w_LIST), .val (.int (137 : Int32)), .val (.int (1 : Int32))] [(.int (1 : Int32))]))
          refine ogo (fun t k => XS.goto X15.here hx rfl (pc0 := 112) (pc' := 116) rfl (hb hby at_112) (by decide) (by decide) k) ?_
          show OwnEnds _ _ _ _ _ _ _ (T15.setTop (mkF m 116 #[.val (.int p0), .val (.int p1), .val (.int (0 : Int32)), .val (.int (1 : Int32)), .val (.int (0 : Int32)), .val (.int (1 : Int32)), .val (.ref w_LIST), .val (.int (137 : Int32)), .val (.int (1 : Int32))] [(.int (1 : Int32))]))
          refine endZ X15 hx hlk Bd.returns rfl (hb hby at_116) (by decide) (by decide) ?_
          show Q0 Z p0 p1 w_LIST w_PROPLIST h0 n0 _ T15.heap _
          rw [e15]
          exact ⟨rfl, N15⟩
        · refine ogo (fun t k => XS.ifNo X2.here hx rfl (hb hby at_60) rfl ((if0 _ _).trans (feq hc12).1) k) ?_
          show OwnEnds _ _ _ _ _ _ _ (T2.setTop (mkF m 63 #[.val (.int p0), .val (.int p1), .val (.int (0 : Int32)), .val (.int (1 : Int32)), .val (.int (0 : Int32)), .val (.int (1 : Int32)), .unset, .unset, .unset] []))
          obtain ⟨T16, X16, e16, st16⟩ := getS2 X2 hx hZ hown (host := "") (Or.inl (hw _ (List.mem_of_getElem? (i := 23) rfl))) Via.refl e2 S_PROPLIST (g := (mkF m 63 #[.val (.int p0), .val (.int p1), .val (.int (0 : Int32)), .val (.int (1 : Int32)), .val (.int (0 : Int32)), .val (.int (1 : Int32)), .unset, .unset, .unset] [])) rfl (hb hby at_63)
          refine ogo st16 ?_
          show OwnEnds _ _ _ _ _ _ _ (T16.setTop (mkF m 66 #[.val (.int p0), .val (.int p1), .val (.int (0 : Int32)), .val (.int (1 : Int32)), .val (.int (0 : Int32)), .val (.int (1 : Int32)), .unset, .unset, .unset] [(.ref w_PROPLIST)]))
          refine ogo (fun t k => XS.goto X16.here hx rfl (pc0 := 66) (pc' := 72) rfl (hb hby at_66) (by decide) (by decide) k) ?_
          show OwnEnds _ _ _ _ _ _ _ (T16.setTop (mkF m 72 #[.val (.int p0), .val (.int p1), .val (.int (0 : Int32)), .val (.int (1 : Int32)), .val (.int (0 : Int32)), .val (.int (1 : Int32)), .unset, .unset, .unset] [(.ref w_PROPLIST)]))
          refine ogo (fun t k => XS.astore X16.here hx rfl (hb hby at_72) rfl rfl (l' := #[.val (.int p0), .val (.int p1), .val (.int (0 : Int32)), .val (.int (1 : Int32)), .val (.int (0 : Int32)), .val (.int (1 : Int32)), .val (.ref w_PROPLIST), .unset, .unset]) rfl k) ?_
          show OwnEnds _ _ _ _ _ _ _ (T16.setTop (mkF m 74 #[.val (.int p0), .val (.int p1), .val (.int (0 : Int32)), .val (.int (1 : Int32)), .val (.int (0 : Int32)), .val (.int (1 : Int32)), .val (.ref w_PROPLIST), .unset, .unset] []))
          refine ogo (fun t k => XS.aload X16.here hx rfl (hb hby at_74) rfl rfl k) ?_
          show OwnEnds _ _ _ _ _ _ _ (T16.setTop (mkF m 76 #[.val (.int p0), .val (.int p1), .val (.int (0 : Int32)), .val (.int (1 : Int32)), .val (.int (0 : Int32)), .val (.int (1 : Int32)), .val (.ref w_PROPLIST), .unset, .unset] [(.ref w_PROPLIST)]))
          refine ogo (fun t k => XS.iload X16.here hx rfl (hb hby at_76) rfl k) ?_
          show OwnEnds _ _ _ _ _ _ _ (T16.setTop (mkF m 78 #[.val (.int p0), .val (.int p1), .val (.int (0 : Int32)), .val (.int (1 : Int32)), .val (.int (0 : Int32)), .val (.int (1 : Int32)), .val (.ref w_PROPLIST), .unset, .unset] [(.int (0 : Int32)), (.ref w_PROPLIST)]))
          refine ogo (fun t k => XS.iload X16.here hx rfl (hb hby at_78) rfl k) ?_
          show OwnEnds _ _ _ _ _ _ _ (T16.setTop (mkF m 80 #[.val (.int p0), .val (.int p1), .val (.int (0 : Int32)), .val (.int (1 : Int32)), .val (.int (0 : Int32)), .val (.int (1 : Int32)), .val (.ref w_PROPLIST), .unset, .unset] [(.int (1 : Int32)), (.int (0 : Int32)), (.ref w_PROPLIST)]))
          obtain ⟨cq17, kq17, q17a, q17b, q17c⟩ := isOf hZ e16 E_PROPLIST
          obtain ⟨v17, _, ⟨T17, L17, k17, n17⟩, -, X17, ⟨Lc17, hQ17, l17, y17, z17⟩, st17⟩ := X16.virtualBack hx (y := (⟨"com/example/tidingsd/tidingsd/model/ElementCode", "octet", "(ZZ)I"⟩ : MethodName)) (z := (⟨"com/example/tidingsd/tidingsd/model/ElementCode", "octet", "(ZZ)I"⟩ : MethodName)) hown (mvT hZ (hw _ (List.mem_of_getElem? (i := 6) rfl))) (mvT hZ (hw _ (List.mem_of_getElem? (i := 7) rfl))) (notFace_of_selects (args := #[]) (mvT hZ (hw _ (List.mem_of_getElem? (i := 9) rfl)))) (mvT hZ (hw _ (List.mem_of_getElem? (i := 9) rfl))) (mvT hZ (hw _ (List.mem_of_getElem? (i := 8) rfl))) (by decide) (backOf (W := 0) (rm4 l Z a0 hw [] w_PROPLIST (0 : Int32) (1 : Int32) (10 : Int32) w_LIST w_PROPLIST h0 n0 Z0 S_LIST S_PROPLIST E_PROPLIST (Or.inr rfl) F_code_PROPLIST) hZ (hw _ (List.mem_of_getElem? (i := 10) rfl)) (hw _ (List.mem_of_getElem? (i := 2) rfl)) (by decide) (by decide)) q17a q17c (g := (mkF m 80 #[.val (.int p0), .val (.int p1), .val (.int (0 : Int32)), .val (.int (1 : Int32)), .val (.int (0 : Int32)), .val (.int (1 : Int32)), .val (.ref w_PROPLIST), .unset, .unset] [(.int (1 : Int32)), (.int (0 : Int32)), (.ref w_PROPLIST)])) rfl (by rw [hml]; rfl) (Steps.refl _) (argsL := [(.int (0 : Int32)), (.int (1 : Int32))]) (rest := []) (lenOf pd__ZZ_I rfl) rfl (by show 2 * 0 + _ ≤ _; exact Nat.le_of_eq rfl) (hb hby at_80) (fun _ _ => ⟨rfl, e16, (by decide : 0 + 0 ≤ _), (by decide : 0 + 0 ≤ _)⟩)
          dsimp only [Pt.U, Pt.locs, Pt.cells, Pt.slots] at X17 l17 y17 z17 st17 hQ17
          subst l17 y17 z17
          obtain ⟨hv17, N17q, e17⟩ := hQ17
          obtain rfl : v17 = some (.int (138 : Int32)) := hv17.trans (by decide)
          have N17 := Fr.app N2 N17q
          refine ogo (fun t k => st17.trans k) ?_
          show OwnEnds _ _ _ _ _ _ _ (T17.setTop (mkF m 83 #[.val (.int p0), .val (.int p1), .val (.int (0 : Int32)), .val (.int (1 : Int32)), .val (.int (0 : Int32)), .val (.int (1 : Int32)), .val (.ref w_PROPLIST), .unset, .unset] [(.int (138 : Int32))]))
          refine ogo (fun t k => XS.istore X17.here hx rfl (hb hby at_83) rfl (l' := #[.val (.int p0), .val (.int p1), .val (.int (0 : Int32)), .val (.int (1 : Int32)), .val (.int (0 : Int32)), .val (.int (1 : Int32)), .val (.ref w_PROPLIST), .val (.int (138 : Int32)), .unset]) rfl k) ?_
          show OwnEnds _ _ _ _ _ _ _ (T17.setTop (mkF m 85 #[.val (.int p0), .val (.int p1), .val (.int (0 : Int32)), .val (.int (1 : Int32)), .val (.int (0 : Int32)), .val (.int (1 : Int32)), .val (.ref w_PROPLIST), .val (.int (138 : Int32)), .unset] []))
          refine ogo (fun t k => XS.iload X17.here hx rfl (hb hby at_85) rfl k) ?_
          show OwnEnds _ _ _ _ _ _ _ (T17.setTop (mkF m 87 #[.val (.int p0), .val (.int p1), .val (.int (0 : Int32)), .val (.int (1 : Int32)), .val (.int (0 : Int32)), .val (.int (1 : Int32)), .val (.ref w_PROPLIST), .val (.int (138 : Int32)), .unset] [(.int (138 : Int32))]))
          obtain ⟨v18, _, ⟨T18, L18, k18, n18⟩, -, X18, ⟨Lc18, hQ18, l18, y18, z18⟩, st18⟩ := Jvm.LawKit.callS X17 hx (y := (⟨"com/example/tidingsd/tidingsd/model/ElementCode", "containsRef", "(I)Z"⟩ : MethodName)) hown (mvT hZ (hw _ (List.mem_of_getElem? (i := 0) rfl))) (mvT hZ (hw _ (List.mem_of_getElem? (i := 1) rfl))) (mvT hZ (hw _ (List.mem_of_getElem? (i := 2) rfl))) (mvT hZ (hw _ (List.mem_of_getElem? (i := 3) rfl))) (by decide) (backOf (W := 0) (rm1 l Z a0 hw [] (138 : Int32) h0 n0 Z0 ) hZ (hw _ (List.mem_of_getElem? (i := 3) rfl)) (hw _ (List.mem_of_getElem? (i := 2) rfl)) (by decide) (by decide)) (g := (mkF m 87 #[.val (.int p0), .val (.int p1), .val (.int (0 : Int32)), .val (.int (1 : Int32)), .val (.int (0 : Int32)), .val (.int (1 : Int32)), .val (.ref w_PROPLIST), .val (.int (138 : Int32)), .unset] [(.int (138 : Int32))])) rfl (by rw [hml]; rfl) (argsL := [(.int (138 : Int32))]) (rest := []) (lenOf pd__I_Z rfl) rfl (by show 2 * 0 + _ ≤ _; exact Nat.le_of_eq rfl) (hb hby at_87) (fun _ _ => ⟨rfl, e17, (by decide : 0 + 0 ≤ _), (by decide : 0 + 0 ≤ _)⟩)
          dsimp only [Pt.U, Pt.locs, Pt.cells, Pt.slots] at X18 l18 y18 z18 st18 hQ18
          subst l18 y18 z18
          obtain ⟨hv18, N18q, e18⟩ := hQ18
          obtain rfl : v18 = some (.int (1 : Int32)) := hv18.trans (by decide)
          have N18 := Fr.app N17 N18q
          refine ogo (fun t k => st18 t k) ?_
          show OwnEnds _ _ _ _ _ _ _ (T18.setTop (mkF m 90 #[.val (.int p0), .val (.int p1), .val (.int (0 : Int32)), .val (.int (1 : Int32)), .val (.int (0 : Int32)), .val (.int (1 : Int32)), .val (.ref w_PROPLIST), .val (.int (138 : Int32)), .unset] [(.int (1 : Int32))]))
          refine ogo (fun t k => XS.iload X18.here hx rfl (hb hby at_90) rfl k) ?_
          show OwnEnds _ _ _ _ _ _ _ (T18.setTop (mkF m 92 #[.val (.int p0), .val (.int p1), .val (.int (0 : Int32)), .val (.int (1 : Int32)), .val (.int (0 : Int32)), .val (.int (1 : Int32)), .val (.ref w_PROPLIST), .val (.int (138 : Int32)), .unset] [(.int (1 : Int32)), (.int (1 : Int32))]))
          refine ogo (fun t k => XS.icmpNo X18.here hx rfl (hb hby at_92) rfl (teq (by decide : (1 : Int32) = (1 : Int32))).2 k) ?_
          show OwnEnds _ _ _ _ _ _ _ (T18.setTop (mkF m 95 #[.val (.int p0), .val (.int p1), .val (.int (0 : Int32)), .val (.int (1 : Int32)), .val (.int (0 : Int32)), .val (.int (1 : Int32)), .val (.ref w_PROPLIST), .val (.int (138 : Int32)), .unset] []))
          refine ogo (fun t k => XS.iconst X18.here hx rfl (hb hby at_95) k) ?_
          show OwnEnds _ _ _ _ _ _ _ (T18.setTop (mkF m 96 #[.val (.int p0), .val (.int p1), .val (.int (0 : Int32)), .val (.int (1 : Int32)), .val (.int (0 : Int32)), .val (.int (1 : Int32)), .val (.ref w_PROPLIST), .val (.int (138 : Int32)), .unset] [(.int (1 : Int32))]))
          refine ogo (fun t k => XS.goto X18.here hx rfl (pc0 := 96) (pc' := 100) rfl (hb hby at_96) (by decide) (by decide) k) ?_
          show OwnEnds _ _ _ _ _ _ _ (T18.setTop (mkF m 100 #[.val (.int p0), .val (.int p1), .val (.int (0 : Int32)), .val (.int (1 : Int32)), .val (.int (0 : Int32)), .val (.int (1 : Int32)), .val (.ref w_PROPLIST), .val (.int (138 : Int32)), .unset] [(.int (1 : Int32))]))
          refine ogo (fun t k => XS.istore X18.here hx rfl (hb hby at_100) rfl (l' := #[.val (.int p0), .val (.int p1), .val (.int (0 : Int32)), .val (.int (1 : Int32)), .val (.int (0 : Int32)), .val (.int (1 : Int32)), .val (.ref w_PROPLIST), .val (.int (138 : Int32)), .val (.int (1 : Int32))]) rfl k) ?_
          show OwnEnds _ _ _ _ _ _ _ (T18.setTop (mkF m 102 #[.val (.int p0), .val (.int p1), .val (.int (0 : Int32)), .val (.int (1 : Int32)), .val (.int (0 : Int32)), .val (.int (1 : Int32)), .val (.ref w_PROPLIST), .val (.int (138 : Int32)), .val (.int (1 : Int32))] []))
          refine ogo (fun t k => XS.iloadN X18.here hx rfl (hb hby at_102) rfl k) ?_
          show OwnEnds _ _ _ _ _ _ _ (T18.setTop (mkF m 103 #[.val (.int p0), .val (.int p1), .val (.int (0 : Int32)), .val (.int (1 : Int32)), .val (.int (0 : Int32)), .val (.int (1 : Int32)), .val (.ref w_PROPLIST), .val (.int (138 : Int32)), .val (.int (1 : Int32))] [(.int (1 : Int32))]))
          refine ogo (fun t k => XS.ifNo X18.here hx rfl (hb hby at_103) rfl ((if0 _ _).trans (feq (by decide : ¬ ((1 : Int32) = (0 : Int32)))).1) k) ?_
          show OwnEnds _ _ _ _ _ _ _ (T18.setTop (mkF m 106 #[.val (.int p0), .val (.int p1), .val (.int (0 : Int32)), .val (.int (1 : Int32)), .val (.int (0 : Int32)), .val (.int (1 : Int32)), .val (.ref w_PROPLIST), .val (.int (138 : Int32)), .val (.int (1 : Int32))] []))
          refine ogo (fun t k => XS.iload X18.here hx rfl (hb hby at_106) rfl k) ?_
          show OwnEnds _ _ _ _ _ _ _ (T18.setTop (mkF m 108 #[.val (.int p0), .val (.int p1), .val (.int (0 : Int32)), .val (.int (1 : Int32)), .val (.int (0 : Int32)), .val (.int (1 : Int32)), .val (.ref w_PROPLIST), .val (.int (138 : Int32)), .val (.int (1 : Int32))] [(.int (1 : Int32))]))
          refine ogo (fun t k => XS.ifNo X18.here hx rfl (hb hby at_108) rfl ((if0 _ _).trans (feq (by decide : ¬ ((1 : Int32) = (0 : Int32)))).1) k) ?_
          show OwnEnds _ _ _ _ _ _ _ (T18.setTop (mkF m 111 #[.val (.int p0), .val (.int p1), .val (.int (0 : Int32)), .val (.int (1 : Int32)), .val (.int (0 : Int32)), .val (.int (1 : Int32)), .val (.ref w_PROPLIST), .val (.int (138 : Int32)), .val (.int (1 : Int32))] []))
          refine ogo (fun t k => XS.iconst X18.here hx rfl (hb hby at_111) k) ?_
          show OwnEnds _ _ _ _ _ _ _ (T18.setTop (mkF m 112 #[.val (.int p0), .val (.int p1), .val (.int (0 : Int32)), .val (.int (1 : Int32)), .val (.int (0 : Int32)), .val (.int (1 : Int32)), .val (.ref w_PROPLIST), .val (.int (138 : Int32)), .val (.int (1 : Int32))] [(.int (1 : Int32))]))
          refine ogo (fun t k => XS.goto X18.here hx rfl (pc0 := 112) (pc' := 116) rfl (hb hby at_112) (by decide) (by decide) k) ?_
          show OwnEnds _ _ _ _ _ _ _ (T18.setTop (mkF m 116 #[.val (.int p0), .val (.int p1), .val (.int (0 : Int32)), .val (.int (1 : Int32)), .val (.int (0 : Int32)), .val (.int (1 : Int32)), .val (.ref w_PROPLIST), .val (.int (138 : Int32)), .val (.int (1 : Int32))] [(.int (1 : Int32))]))
          refine endZ X18 hx hlk Bd.returns rfl (hb hby at_116) (by decide) (by decide) ?_
          show Q0 Z p0 p1 w_LIST w_PROPLIST h0 n0 _ T18.heap _
          rw [e18]
          exact ⟨rfl, N18⟩
    · refine ogo (fun t k => XS.ifNo X2.here hx rfl (hb hby at_34) rfl ((if0 _ _).trans (feq hc3).1) k) ?_
      show OwnEnds _ _ _ _ _ _ _ (T2.setTop (mkF m 37 #[.val (.int p0), .val (.int p1), .val (.int (0 : Int32)), .val (.int (1 : Int32)), .unset, .unset, .unset, .unset, .unset] []))
      refine ogo (fun t k => XS.iconst X2.here hx rfl (hb hby at_37) k) ?_
      show OwnEnds _ _ _ _ _ _ _ (T2.setTop (mkF m 38 #[.val (.int p0), .val (.int p1), .val (.int (0 : Int32)), .val (.int (1 : Int32)), .unset, .unset, .unset, .unset, .unset] [(.int (1 : Int32))]))
      refine ogo (fun t k => XS.goto X2.here hx rfl (pc0 := 38) (pc' := 42) rfl (hb hby at_38) (by decide) (by decide) k) ?_
      show OwnEnds _ _ _ _ _ _ _ (T2.setTop (mkF m 42 #[.val (.int p0), .val (.int p1), .val (.int (0 : Int32)), .val (.int (1 : Int32)), .unset, .unset, .unset, .unset, .unset] [(.int (1 : Int32))]))
      refine ogo (fun t k => XS.istore X2.here hx rfl (hb hby at_42) rfl (l' := #[.val (.int p0), .val (.int p1), .val (.int (0 : Int32)), .val (.int (1 : Int32)), .val (.int (1 : Int32)), .unset, .unset, .unset, .unset]) rfl k) ?_
      show OwnEnds _ _ _ _ _ _ _ (T2.setTop (mkF m 44 #[.val (.int p0), .val (.int p1), .val (.int (0 : Int32)), .val (.int (1 : Int32)), .val (.int (1 : Int32)), .unset, .unset, .unset, .unset] []))
      refine ogo (fun t k => XS.iloadN X2.here hx rfl (hb hby at_44) rfl k) ?_
      show OwnEnds _ _ _ _ _ _ _ (T2.setTop (mkF m 45 #[.val (.int p0), .val (.int p1), .val (.int (0 : Int32)), .val (.int (1 : Int32)), .val (.int (1 : Int32)), .unset, .unset, .unset, .unset] [(.int p1)]))
      refine ogo (fun t k => XS.iconst X2.here hx rfl (hb hby at_45) k) ?_
      show OwnEnds _ _ _ _ _ _ _ (T2.setTop (mkF m 46 #[.val (.int p0), .val (.int p1), .val (.int (0 : Int32)), .val (.int (1 : Int32)), .val (.int (1 : Int32)), .unset, .unset, .unset, .unset] [(.int (2 : Int32)), (.int p1)]))
      refine ogo (fun t k => XS.iand X2.here hx rfl (hb hby at_46) rfl k) ?_
      show OwnEnds _ _ _ _ _ _ _ (T2.setTop (mkF m 47 #[.val (.int p0), .val (.int p1), .val (.int (0 : Int32)), .val (.int (1 : Int32)), .val (.int (1 : Int32)), .unset, .unset, .unset, .unset] [(.int (p1 &&& (2 : Int32)))]))
      by_cases hc19 : (p1 &&& (2 : Int32)) = (0 : Int32)
      · refine ogo (fun t k => XS.ifYes X2.here hx rfl (pc0 := 47) (pc' := 54) rfl (hb hby at_47) rfl ((if0 _ _).trans (teq hc19).1) (by decide) (by decide) k) ?_
        show OwnEnds _ _ _ _ _ _ _ (T2.setTop (mkF m 54 #[.val (.int p0), .val (.int p1), .val (.int (0 : Int32)), .val (.int (1 : Int32)), .val (.int (1 : Int32)), .unset, .unset, .unset, .unset] []))
        refine ogo (fun t k => XS.iconst X2.here hx rfl (hb hby at_54) k) ?_
        show OwnEnds _ _ _ _ _ _ _ (T2.setTop (mkF m 55 #[.val (.int p0), .val (.int p1), .val (.int (0 : Int32)), .val (.int (1 : Int32)), .val (.int (1 : Int32)), .unset, .unset, .unset, .unset] [(.int (0 : Int32))]))
        refine ogo (fun t k => XS.istore X2.here hx rfl (hb hby at_55) rfl (l' := #[.val (.int p0), .val (.int p1), .val (.int (0 : Int32)), .val (.int (1 : Int32)), .val (.int (1 : Int32)), .val (.int (0 : Int32)), .unset, .unset, .unset]) rfl k) ?_
        show OwnEnds _ _ _ _ _ _ _ (T2.setTop (mkF m 57 #[.val (.int p0), .val (.int p1), .val (.int (0 : Int32)), .val (.int (1 : Int32)), .val (.int (1 : Int32)), .val (.int (0 : Int32)), .unset, .unset, .unset] []))
        refine ogo (fun t k => XS.iloadN X2.here hx rfl (hb hby at_57) rfl k) ?_
        show OwnEnds _ _ _ _ _ _ _ (T2.setTop (mkF m 58 #[.val (.int p0), .val (.int p1), .val (.int (0 : Int32)), .val (.int (1 : Int32)), .val (.int (1 : Int32)), .val (.int (0 : Int32)), .unset, .unset, .unset] [(.int p1)]))
        refine ogo (fun t k => XS.iconst X2.here hx rfl (hb hby at_58) k) ?_
        show OwnEnds _ _ _ _ _ _ _ (T2.setTop (mkF m 59 #[.val (.int p0), .val (.int p1), .val (.int (0 : Int32)), .val (.int (1 : Int32)), .val (.int (1 : Int32)), .val (.int (0 : Int32)), .unset, .unset, .unset] [(.int (4 : Int32)), (.int p1)]))
        refine ogo (fun t k => XS.iand X2.here hx rfl (hb hby at_59) rfl k) ?_
        show OwnEnds _ _ _ _ _ _ _ (T2.setTop (mkF m 60 #[.val (.int p0), .val (.int p1), .val (.int (0 : Int32)), .val (.int (1 : Int32)), .val (.int (1 : Int32)), .val (.int (0 : Int32)), .unset, .unset, .unset] [(.int (p1 &&& (4 : Int32)))]))
        by_cases hc20 : (p1 &&& (4 : Int32)) = (0 : Int32)
        · refine ogo (fun t k => XS.ifYes X2.here hx rfl (pc0 := 60) (pc' := 69) rfl (hb hby at_60) rfl ((if0 _ _).trans (teq hc20).1) (by decide) (by decide) k) ?_
          show OwnEnds _ _ _ _ _ _ _ (T2.setTop (mkF m 69 #[.val (.int p0), .val (.int p1), .val (.int (0 : Int32)), .val (.int (1 : Int32)), .val (.int (1 : Int32)), .val (.int (0 : Int32)), .unset, .unset, .unset] []))
          obtain ⟨T21, X21, e21, st21⟩ := getS2 X2 hx hZ hown (host := "") (Or.inl (hw _ (List.mem_of_getElem? (i := 4) rfl))) Via.refl e2 S_LIST (g := (mkF m 69 #[.val (.int p0), .val (.int p1), .val (.int (0 : Int32)), .val (.int (1 : Int32)), .val (.int (1 : Int32)), .val (.int (0 : Int32)), .unset, .unset, .unset] [])) rfl (hb hby at_69)
          refine ogo st21 ?_
          show OwnEnds _ _ _ _ _ _ _ (T21.setTop (mkF m 72 #[.val (.int p0), .val (.int p1), .val (.int (0 : Int32)), .val (.int (1 : Int32)), .val (.int (1 : Int32)), .val (.int (0 : Int32)), .unset, .unset, .unset] [(.ref w_LIST)]))
          refine ogo (fun t k => XS.astore X21.here hx rfl (hb hby at_72) rfl rfl (l' := #[.val (.int p0), .val (.int p1), .val (.int (0 : Int32)), .val (.int (1 : Int32)), .val (.int (1 : Int32)), .val (.int (0 : Int32)), .val (.ref w_LIST), .unset, .unset]) rfl k) ?_
          show OwnEnds _ _ _ _ _ _ _ (T21.setTop (mkF m 74 #[.val (.int p0), .val (.int p1), .val (.int (0 : Int32)), .val (.int (1 : Int32)), .val (.int (1 : Int32)), .val (.int (0 : Int32)), .val (.ref w_LIST), .unset, .unset] []))
          refine ogo (fun t k => XS.aload X21.here hx rfl (hb hby at_74) rfl rfl k) ?_
          show OwnEnds _ _ _ _ _ _ _ (T21.setTop (mkF m 76 #[.val (.int p0), .val (.int p1), .val (.int (0 : Int32)), .val (.int (1 : Int32)), .val (.int (1 : Int32)), .val (.int (0 : Int32)), .val (.ref w_LIST), .unset, .unset] [(.ref w_LIST)]))
          refine ogo (fun t k => XS.iload X21.here hx rfl (hb hby at_76) rfl k) ?_
          show OwnEnds _ _ _ _ _ _ _ (T21.setTop (mkF m 78 #[.val (.int p0), .val (.int p1), .val (.int (0 : Int32)), .val (.int (1 : Int32)), .val (.int (1 : Int32)), .val (.int (0 : Int32)), .val (.ref w_LIST), .unset, .unset] [(.int (1 : Int32)), (.ref w_LIST)]))
          refine ogo (fun t k => XS.iload X21.here hx rfl (hb hby at_78) rfl k) ?_
          show OwnEnds _ _ _ _ _ _ _ (T21.setTop (mkF m 80 #[.val (.int p0), .val (.int p1), .val (.int (0 : Int32)), .val (.int (1 : Int32)), .val (.int (1 : Int32)), .val (.int (0 : Int32)), .val (.ref w_LIST), .unset, .unset] [(.int (0 : Int32)), (.int (1 : Int32)), (.ref w_LIST)]))
          obtain ⟨cq22, kq22, q22a, q22b, q22c⟩ := isOf hZ e21 E_LIST
          obtain ⟨v22, _, ⟨T22, L22, k22, n22⟩, -, X22, ⟨Lc22, hQ22, l22, y22, z22⟩, st22⟩ := X21.virtualBack hx (y := (⟨"com/example/tidingsd/tidingsd/model/ElementCode", "octet", "(ZZ)I"⟩ : MethodName)) (z := (⟨"com/example/tidingsd/tidingsd/model/ElementCode", "octet", "(ZZ)I"⟩ : MethodName)) hown (mvT hZ (hw _ (List.mem_of_getElem? (i := 6) rfl))) (mvT hZ (hw _ (List.mem_of_getElem? (i := 7) rfl))) (notFace_of_selects (args := #[]) (mvT hZ (hw _ (List.mem_of_getElem? (i := 9) rfl)))) (mvT hZ (hw _ (List.mem_of_getElem? (i := 9) rfl))) (mvT hZ (hw _ (List.mem_of_getElem? (i := 8) rfl))) (by decide) (backOf (W := 0) (rm4 l Z a0 hw [] w_LIST (1 : Int32) (0 : Int32) (9 : Int32) w_LIST w_PROPLIST h0 n0 Z0 S_LIST S_PROPLIST E_LIST (Or.inl rfl) F_code_LIST) hZ (hw _ (List.mem_of_getElem? (i := 10) rfl)) (hw _ (List.mem_of_getElem? (i := 2) rfl)) (by decide) (by decide)) q22a q22c (g := (mkF m 80 #[.val (.int p0), .val (.int p1), .val (.int (0 : Int32)), .val (.int (1 : Int32)), .val (.int (1 : Int32)), .val (.int (0 : Int32)), .val (.ref w_LIST), .unset, .unset] [(.int (0 : Int32)), (.int (1 : Int32)), (.ref w_LIST)])) rfl (by rw [hml]; rfl) (Steps.refl _) (argsL := [(.int (1 : Int32)), (.int (0 : Int32))]) (rest := []) (lenOf pd__ZZ_I rfl) rfl (by show 2 * 0 + _ ≤ _; exact Nat.le_of_eq rfl) (hb hby at_80) (fun _ _ => ⟨rfl, e21, (by decide : 0 + 0 ≤ _), (by decide : 0 + 0 ≤ _)⟩)
          dsimp only [Pt.U, Pt.locs, Pt.cells, Pt.slots] at X22 l22 y22 z22 st22 hQ22
          subst l22 y22 z22
          obtain ⟨hv22, N22q, e22⟩ := hQ22
          obtain rfl : v22 = some (.int (73 : Int32)) := hv22.trans (by decide)
          have N22 := Fr.app N2 N22q
          refine ogo (fun t k => st22.trans k) ?_
          show OwnEnds _ _ _ _ _ _ _ (T22.setTop (mkF m 83 #[.val (.int p0), .val (.int p1), .val (.int (0 : Int32)), .val (.int (1 : Int32)), .val (.int (1 : Int32)), .val (.int (0 : Int32)), .val (.ref w_LIST), .unset, .unset] [(.int (73 : Int32))]))
          refine ogo (fun t k => XS.istore X22.here hx rfl (hb hby at_83) rfl (l' := #[.val (.int p0), .val (.int p1), .val (.int (0 : Int32)), .val (.int (1 : Int32)), .val (.int (1 : Int32)), .val (.int (0 : Int32)), .val (.ref w_LIST), .val (.int (73 : Int32)), .unset]) rfl k) ?_
          show OwnEnds _ _ _ _ _ _ _ (T22.setTop (mkF m 85 #[.val (.int p0), .val (.int p1), .val (.int (0 : Int32)), .val (.int (1 : Int32)), .val (.int (1 : Int32)), .val (.int (0 : Int32)), .val (.ref w_LIST), .val (.int (73 : Int32)), .unset] []))
          refine ogo (fun t k => XS.iload X22.here hx rfl (hb hby at_85) rfl k) ?_
          show OwnEnds _ _ _ _ _ _ _ (T22.setTop (mkF m 87 #[.val (.int p0), .val (.int p1), .val (.int (0 : Int32)), .val (.int (1 : Int32)), .val (.int (1 : Int32)), .val (.int (0 : Int32)), .val (.ref w_LIST), .val (.int (73 : Int32)), .unset] [(.int (73 : Int32))]))
          obtain ⟨v23, _, ⟨T23, L23, k23, n23⟩, -, X23, ⟨Lc23, hQ23, l23, y23, z23⟩, st23⟩ := Jvm.LawKit.callS X22 hx (y := (⟨"com/example/tidingsd/tidingsd/model/ElementCode", "containsRef", "(I)Z"⟩ : MethodName)) hown (mvT hZ (hw _ (List.mem_of_getElem? (i := 0) rfl))) (mvT hZ (hw _ (List.mem_of_getElem? (i := 1) rfl))) (mvT hZ (hw _ (List.mem_of_getElem? (i := 2) rfl))) (mvT hZ (hw _ (List.mem_of_getElem? (i := 3) rfl))) (by decide) (backOf (W := 0) (rm1 l Z a0 hw [] (73 : Int32) h0 n0 Z0 ) hZ (hw _ (List.mem_of_getElem? (i := 3) rfl)) (hw _ (List.mem_of_getElem? (i := 2) rfl)) (by decide) (by decide)) (g := (mkF m 87 #[.val (.int p0), .val (.int p1), .val (.int (0 : Int32)), .val (.int (1 : Int32)), .val (.int (1 : Int32)), .val (.int (0 : Int32)), .val (.ref w_LIST), .val (.int (73 : Int32)), .unset] [(.int (73 : Int32))])) rfl (by rw [hml]; rfl) (argsL := [(.int (73 : Int32))]) (rest := []) (lenOf pd__I_Z rfl) rfl (by show 2 * 0 + _ ≤ _; exact Nat.le_of_eq rfl) (hb hby at_87) (fun _ _ => ⟨rfl, e22, (by decide : 0 + 0 ≤ _), (by decide : 0 + 0 ≤ _)⟩)
          dsimp only [Pt.U, Pt.locs, Pt.cells, Pt.slots] at X23 l23 y23 z23 st23 hQ23
          subst l23 y23 z23
          obtain ⟨hv23, N23q, e23⟩ := hQ23
          obtain rfl : v23 = some (.int (0 : Int32)) := hv23.trans (by decide)
          have N23 := Fr.app N22 N23q
          refine ogo (fun t k => st23 t k) ?_
          show OwnEnds _ _ _ _ _ _ _ (T23.setTop (mkF m 90 #[.val (.int p0), .val (.int p1), .val (.int (0 : Int32)), .val (.int (1 : Int32)), .val (.int (1 : Int32)), .val (.int (0 : Int32)), .val (.ref w_LIST), .val (.int (73 : Int32)), .unset] [(.int (0 : Int32))]))
          refine ogo (fun t k => XS.iload X23.here hx rfl (hb hby at_90) rfl k) ?_
          show OwnEnds _ _ _ _ _ _ _ (T23.setTop (mkF m 92 #[.val (.int p0), .val (.int p1), .val (.int (0 : Int32)), .val (.int (1 : Int32)), .val (.int (1 : Int32)), .val (.int (0 : Int32)), .val (.ref w_LIST), .val (.int (73 : Int32)), .unset] [(.int (0 : Int32)), (.int (0 : Int32))]))
          refine ogo (fun t k => XS.icmpNo X23.here hx rfl (hb hby at_92) rfl (teq (by decide : (0 : Int32) = (0 : Int32))).2 k) ?_
          show OwnEnds _ _ _ _ _ _ _ (T23.setTop (mkF m 95 #[.val (.int p0), .val (.int p1), .val (.int (0 : Int32)), .val (.int (1 : Int32)), .val (.int (1 : Int32)), .val (.int (0 : Int32)), .val (.ref w_LIST), .val (.int (73 : Int32)), .unset] []))
          refine ogo (fun t k => XS.iconst X23.here hx rfl (hb hby at_95) k) ?_
          show OwnEnds _ _ _ _ _ _ _ (T23.setTop (mkF m 96 #[.val (.int p0), .val (.int p1), .val (.int (0 : Int32)), .val (.int (1 : Int32)), .val (.int (1 : Int32)), .val (.int (0 : Int32)), .val (.ref w_LIST), .val (.int (73 : Int32)), .unset] [(.int (1 : Int32))]))
          refine ogo (fun t k => XS.goto X23.here hx rfl (pc0 := 96) (pc' := 100) rfl (hb hby at_96) (by decide) (by decide) k) ?_
          show OwnEnds _ _ _ _ _ _ _ (T23.setTop (mkF m 100 #[.val (.int p0), .val (.int p1), .val (.int (0 : Int32)), .val (.int (1 : Int32)), .val (.int (1 : Int32)), .val (.int (0 : Int32)), .val (.ref w_LIST), .val (.int (73 : Int32)), .unset] [(.int (1 : Int32))]))
          refine ogo (fun t k => XS.istore X23.here hx rfl (hb hby at_100) rfl (l' := #[.val (.int p0), .val (.int p1), .val (.int (0 : Int32)), .val (.int (1 : Int32)), .val (.int (1 : Int32)), .val (.int (0 : Int32)), .val (.ref w_LIST), .val (.int (73 : Int32)), .val (.int (1 : Int32))]) rfl k) ?_
          show OwnEnds _ _ _ _ _ _ _ (T23.setTop (mkF m 102 #[.val (.int p0), .val (.int p1), .val (.int (0 : Int32)), .val (.int (1 : Int32)), .val (.int (1 : Int32)), .val (.int (0 : Int32)), .val (.ref w_LIST), .val (.int (73 : Int32)), .val (.int (1 : Int32))] []))
          refine ogo (fun t k => XS.iloadN X23.here hx rfl (hb hby at_102) rfl k) ?_
          show OwnEnds _ _ _ _ _ _ _ (T23.setTop (mkF m 103 #[.val (.int p0), .val (.int p1), .val (.int (0 : Int32)), .val (.int (1 : Int32)), .val (.int (1 : Int32)), .val (.int (0 : Int32)), .val (.ref w_LIST), .val (.int (73 : Int32)), .val (.int (1 : Int32))] [(.int (1 : Int32))]))
          refine ogo (fun t k => XS.ifNo X23.here hx rfl (hb hby at_103) rfl ((if0 _ _).trans (feq (by decide : ¬ ((1 : Int32) = (0 : Int32)))).1) k) ?_
          show OwnEnds _ _ _ _ _ _ _ (T23.setTop (mkF m 106 #[.val (.int p0), .val (.int p1), .val (.int (0 : Int32)), .val (.int (1 : Int32)), .val (.int (1 : Int32)), .val (.int (0 : Int32)), .val (.ref w_LIST), .val (.int (73 : Int32)), .val (.int (1 : Int32))] []))
          refine ogo (fun t k => XS.iload X23.here hx rfl (hb hby at_106) rfl k) ?_
          show OwnEnds _ _ _ _ _ _ _ (T23.setTop (mkF m 108 #[.val (.int p0), .val (.int p1), .val (.int (0 : Int32)), .val (.int (1 : Int32)), .val (.int (1 : Int32)), .val (.int (0 : Int32)), .val (.ref w_LIST), .val (.int (73 : Int32)), .val (.int (1 : Int32))] [(.int (1 : Int32))]))
          refine ogo (fun t k => XS.ifNo X23.here hx rfl (hb hby at_108) rfl ((if0 _ _).trans (feq (by decide : ¬ ((1 : Int32) = (0 : Int32)))).1) k) ?_
          show OwnEnds _ _ _ _ _ _ _ (T23.setTop (mkF m 111 #[.val (.int p0), .val (.int p1), .val (.int (0 : Int32)), .val (.int (1 : Int32)), .val (.int (1 : Int32)), .val (.int (0 : Int32)), .val (.ref w_LIST), .val (.int (73 : Int32)), .val (.int (1 : Int32))] []))
          refine ogo (fun t k => XS.iconst X23.here hx rfl (hb hby at_111) k) ?_
          show OwnEnds _ _ _ _ _ _ _ (T23.setTop (mkF m 112 #[.val (.int p0), .val (.int p1), .val (.int (0 : Int32)), .val (.int (1 : Int32)), .val (.int (1 : Int32)), .val (.int (0 : Int32)), .val (.ref w_LIST), .val (.int (73 : Int32)), .val (.int (1 : Int32))] [(.int (1 : Int32))]))
          refine ogo (fun t k => XS.goto X23.here hx rfl (pc0 := 112) (pc' := 116) rfl (hb hby at_112) (by decide) (by decide) k) ?_
          show OwnEnds _ _ _ _ _ _ _ (T23.setTop (mkF m 116 #[.val (.int p0), .val (.int p1), .val (.int (0 : Int32)), .val (.int (1 : Int32)), .val (.int (1 : Int32)), .val (.int (0 : Int32)), .val (.ref w_LIST), .val (.int (73 : Int32)), .val (.int (1 : Int32))] [(.int (1 : Int32))]))
          refine endZ X23 hx hlk Bd.returns rfl (hb hby at_116) (by decide) (by decide) ?_
          show Q0 Z p0 p1 w_LIST w_PROPLIST h0 n0 _ T23.heap _
          rw [e23]
          exact ⟨rfl, N23⟩
        · refine ogo (fun t k => XS.ifNo X2.here hx rfl (hb hby at_60) rfl ((if0 _ _).trans (feq hc20).1) k) ?_
          show OwnEnds _ _ _ _ _ _ _ (T2.setTop (mkF m 63 #[.val (.int p0), .val (.int p1), .val (.int (0 : Int32)), .val (.int (1 : Int32)), .val (.int (1 : Int32)), .val (.int (0 : Int32)), .unset, .unset, .unset] []))
          obtain ⟨T24, X24, e24, st24⟩ := getS2 X2 hx hZ hown (host := "") (Or.inl (hw _ (List.mem_of_getElem? (i := 23) rfl))) Via.refl e2 S_PROPLIST (g := (mkF m 63 #[.val (.int p0), .val (.int p1), .val (.int (0 : Int32)), .val (.int (1 : Int32)), .val (.int (1 : Int32)), .val (.int (0 : Int32)), .unset, .unset, .unset] [])) rfl (hb hby at_63)
          refine ogo st24 ?_
          show OwnEnds _ _ _ _ _ _ _ (T24.setTop (mkF m 66 #[.val (.int p0), .val (.int p1), .val (.int (0 : Int32)), .val (.int (1 : Int32)), .val (.int (1 : Int32)), .val (.int (0 : Int32)), .unset, .unset, .unset] [(.ref w_PROPLIST)]))
          refine ogo (fun t k => XS.goto X24.here hx rfl (pc0 := 66) (pc' := 72) rfl (hb hby at_66) (by decide) (by decide) k) ?_
          show OwnEnds _ _ _ _ _ _ _ (T24.setTop (mkF m 72 #[.val (.int p0), .val (.int p1), .val (.int (0 : Int32)), .val (.int (1 : Int32)), .val (.int (1 : Int32)), .val (.int (0 : Int32)), .unset, .unset, .unset] [(.ref w_PROPLIST)]))
          refine ogo (fun t k => XS.astore X24.here hx rfl (hb hby at_72) rfl rfl (l' := #[.val (.int p0), .val (.int p1), .val (.int (0 : Int32)), .val (.int (1 : Int32)), .val (.int (1 : Int32)), .val (.int (0 : Int32)), .val (.ref w_PROPLIST), .unset, .unset]) rfl k) ?_
          show OwnEnds _ _ _ _ _ _ _ (T24.setTop (mkF m 74 #[.val (.int p0), .val (.int p1), .val (.int (0 : Int32)), .val (.int (1 : Int32)), .val (.int (1 : Int32)), .val (.int (0 : Int32)), .val (.ref w_PROPLIST), .unset, .unset] []))
          refine ogo (fun t k => XS.aload X24.here hx rfl (hb hby at_74) rfl rfl k) ?_
          show OwnEnds _ _ _ _ _ _ _ (T24.setTop (mkF m 76 #[.val (.int p0), .val (.int p1), .val (.int (0 : Int32)), .val (.int (1 : Int32)), .val (.int (1 : Int32)), .val (.int (0 : Int32)), .val (.ref w_PROPLIST), .unset, .unset] [(.ref w_PROPLIST)]))
          refine ogo (fun t k => XS.iload X24.here hx rfl (hb hby at_76) rfl k) ?_
          show OwnEnds _ _ _ _ _ _ _ (T24.setTop (mkF m 78 #[.val (.int p0), .val (.int p1), .val (.int (0 : Int32)), .val (.int (1 : Int32)), .val (.int (1 : Int32)), .val (.int (0 : Int32)), .val (.ref w_PROPLIST), .unset, .unset] [(.int (1 : Int32)), (.ref w_PROPLIST)]))
          refine ogo (fun t k => XS.iload X24.here hx rfl (hb hby at_78) rfl k) ?_
          show OwnEnds _ _ _ _ _ _ _ (T24.setTop (mkF m 80 #[.val (.int p0), .val (.int p1), .val (.int (0 : Int32)), .val (.int (1 : Int32)), .val (.int (1 : Int32)), .val (.int (0 : Int32)), .val (.ref w_PROPLIST), .unset, .unset] [(.int (0 : Int32)), (.int (1 : Int32)), (.ref w_PROPLIST)]))
          obtain ⟨cq25, kq25, q25a, q25b, q25c⟩ := isOf hZ e24 E_PROPLIST
          obtain ⟨v25, _, ⟨T25, L25, k25, n25⟩, -, X25, ⟨Lc25, hQ25, l25, y25, z25⟩, st25⟩ := X24.virtualBack hx (y := (⟨"com/example/tidingsd/tidingsd/model/ElementCode", "octet", "(ZZ)I"⟩ : MethodName)) (z := (⟨"com/example/tidingsd/tidingsd/model/ElementCode", "octet", "(ZZ)I"⟩ : MethodName)) hown (mvT hZ (hw _ (List.mem_of_getElem? (i := 6) rfl))) (mvT hZ (hw _ (List.mem_of_getElem? (i := 7) rfl))) (notFace_of_selects (args := #[]) (mvT hZ (hw _ (List.mem_of_getElem? (i := 9) rfl)))) (mvT hZ (hw _ (List.mem_of_getElem? (i := 9) rfl))) (mvT hZ (hw _ (List.mem_of_getElem? (i := 8) rfl))) (by decide) (backOf (W := 0) (rm4 l Z a0 hw [] w_PROPLIST (1 : Int32) (0 : Int32) (10 : Int32) w_LIST w_PROPLIST h0 n0 Z0 S_LIST S_PROPLIST E_PROPLIST (Or.inr rfl) F_code_PROPLIST) hZ (hw _ (List.mem_of_getElem? (i := 10) rfl)) (hw _ (List.mem_of_getElem? (i := 2) rfl)) (by decide) (by decide)) q25a q25c (g := (mkF m 80 #[.val (.int p0), .val (.int p1), .val (.int (0 : Int32)), .val (.int (1 : Int32)), .val (.int (1 : Int32)), .val (.int (0 : Int32)), .val (.ref w_PROPLIST), .unset, .unset] [(.int (0 : Int32)), (.int (1 : Int32)), (.ref w_PROPLIST)])) rfl (by rw [hml]; rfl) (Steps.refl _) (argsL := [(.int (1 : Int32)), (.int (0 : Int32))]) (rest := []) (lenOf pd__ZZ_I rfl) rfl (by show 2 * 0 + _ ≤ _; exact Nat.le_of_eq rfl) (hb hby at_80) (fun _ _ => ⟨rfl, e24, (by decide : 0 + 0 ≤ _), (by decide : 0 + 0 ≤ _)⟩)
          dsimp only [Pt.U, Pt.locs, Pt.cells, Pt.slots] at X25 l25 y25 z25 st25 hQ25
          subst l25 y25 z25
          obtain ⟨hv25, N25q, e25⟩ := hQ25
          obtain rfl : v25 = some (.int (74 : Int32)) := hv25.trans (by decide)
          have N25 := Fr.app N2 N25q
          refine ogo (fun t k => st25.trans k) ?_
          show OwnEnds _ _ _ _ _ _ _ (T25.setTop (mkF m 83 #[.val (.int p0), .val (.int p1), .val (.int (0 : Int32)), .val (.int (1 : Int32)), .val (.int (1 : Int32)), .val (.int (0 : Int32)), .val (.ref w_PROPLIST), .unset, .unset] [(.int (74 : Int32))]))
          refine ogo (fun t k => XS.istore X25.here hx rfl (hb hby at_83) rfl (l' := #[.val (.int p0), .val (.int p1), .val (.int (0 : Int32)), .val (.int (1 : Int32)), .val (.int (1 : Int32)), .val (.int (0 : Int32)), .val (.ref w_PROPLIST), .val (.int (74 : Int32)), .unset]) rfl k) ?_
          show OwnEnds _ _ _ _ _ _ _ (T25.setTop (mkF m 85 #[.val (.int p0), .val (.int p1), .val (.int (0 : Int32)), .val (.int (1 : Int32)), .val (.int (1 : Int32)), .val (.int (0 : Int32)), .val (.ref w_PROPLIST), .val (.int (74 : Int32)), .unset] []))
          refine ogo (fun t k => XS.iload X25.here hx rfl (hb hby at_85) rfl k) ?_
          show OwnEnds _ _ _ _ _ _ _ (T25.setTop (mkF m 87 #[.val (.int p0), .val (.int p1), .val (.int (0 : Int32)), .val (.int (1 : Int32)), .val (.int (1 : Int32)), .val (.int (0 : Int32)), .val (.ref w_PROPLIST), .val (.int (74 : Int32)), .unset] [(.int (74 : Int32))]))
          obtain ⟨v26, _, ⟨T26, L26, k26, n26⟩, -, X26, ⟨Lc26, hQ26, l26, y26, z26⟩, st26⟩ := Jvm.LawKit.callS X25 hx (y := (⟨"com/example/tidingsd/tidingsd/model/ElementCode", "containsRef", "(I)Z"⟩ : MethodName)) hown (mvT hZ (hw _ (List.mem_of_getElem? (i := 0) rfl))) (mvT hZ (hw _ (List.mem_of_getElem? (i := 1) rfl))) (mvT hZ (hw _ (List.mem_of_getElem? (i := 2) rfl))) (mvT hZ (hw _ (List.mem_of_getElem? (i := 3) rfl))) (by decide) (backOf (W := 0) (rm1 l Z a0 hw [] (74 : Int32) h0 n0 Z0 ) hZ (hw _ (List.mem_of_getElem? (i := 3) rfl)) (hw _ (List.mem_of_getElem? (i := 2) rfl)) (by decide) (by decide)) (g := (mkF m 87 #[.val (.int p0), .val (.int p1), .val (.int (0 : Int32)), .val (.int (1 : Int32)), .val (.int (1 : Int32)), .val (.int (0 : Int32)), .val (.ref w_PROPLIST), .val (.int (74 : Int32)), .unset] [(.int (74 : Int32))])) rfl (by rw [hml]; rfl) (argsL := [(.int (74 : Int32))]) (rest := []) (lenOf pd__I_Z rfl) rfl (by show 2 * 0 + _ ≤ _; exact Nat.le_of_eq rfl) (hb hby at_87) (fun _ _ => ⟨rfl, e25, (by decide : 0 + 0 ≤ _), (by decide : 0 + 0 ≤ _)⟩)
          dsimp only [Pt.U, Pt.locs, Pt.cells, Pt.slots] at X26 l26 y26 z26 st26 hQ26
          subst l26 y26 z26
          obtain ⟨hv26, N26q, e26⟩ := hQ26
          obtain rfl : v26 = some (.int (0 : Int32)) := hv26.trans (by decide)
          have N26 := Fr.app N25 N26q
          refine ogo (fun t k => st26 t k) ?_
          show OwnEnds _ _ _ _ _ _ _ (T26.setTop (mkF m 90 #[.val (.int p0), .val (.int p1), .val (.int (0 : Int32)), .val (.int (1 : Int32)), .val (.int (1 : Int32)), .val (.int (0 : Int32)), .val (.ref w_PROPLIST), .val (.int (74 : Int32)), .unset] [(.int (0 : Int32))]))
          refine ogo (fun t k => XS.iload X26.here hx rfl (hb hby at_90) rfl k) ?_
          show OwnEnds _ _ _ _ _ _ _ (T26.setTop (mkF m 92 #[.val (.int p0), .val (.int p1), .val (.int (0 : Int32)), .val (.int (1 : Int32)), .val (.int (1 : Int32)), .val (.int (0 : Int32)), .val (.ref w_PROPLIST), .val (.int (74 : Int32)), .unset] [(.int (0 : Int32)), (.int (0 : Int32))]))
          refine ogo (fun t k => XS.icmpNo X26.here hx rfl (hb hby at_92) rfl (teq (by decide : (0 : Int32) = (0 : Int32))).2 k) ?_
          show OwnEnds _ _ _ _ _ _ _ (T26.setTop (mkF m 95 #[.val (.int p0), .val (.int p1), .val (.int (0 : Int32)), .val (.int (1 : Int32)), .val (.int (1 : Int32)), .val (.int (0 : Int32)), .val (.ref w_PROPLIST), .val (.int (74 : Int32)), .unset] []))
          refine ogo (fun t k => XS.iconst X26.here hx rfl (hb hby at_95) k) ?_
          show OwnEnds _ _ _ _ _ _ _ (T26.setTop (mkF m 96 #[.val (.int p0), .val (.int p1), .val (.int (0 : Int32)), .val (.int (1 : Int32)), .val (.int (1 : Int32)), .val (.int (0 : Int32)), .val (.ref w_PROPLIST), .val (.int (74 : Int32)), .unset] [(.int (1 : Int32))]))
          refine ogo (fun t k => XS.goto X26.here hx rfl (pc0 := 96) (pc' := 100) rfl (hb hby at_96) (by decide) (by decide) k) ?_
          show OwnEnds _ _ _ _ _ _ _ (T26.setTop (mkF m 100 #[.val (.int p0), .val (.int p1), .val (.int (0 : Int32)), .val (.int (1 : Int32)), .val (.int (1 : Int32)), .val (.int (0 : Int32)), .val (.ref w_PROPLIST), .val (.int (74 : Int32)), .unset] [(.int (1 : Int32))]))
          refine ogo (fun t k => XS.istore X26.here hx rfl (hb hby at_100) rfl (l' := #[.val (.int p0), .val (.int p1), .val (.int (0 : Int32)), .val (.int (1 : Int32)), .val (.int (1 : Int32)), .val (.int (0 : Int32)), .val (.ref w_PROPLIST), .val (.int (74 : Int32)), .val (.int (1 : Int32))]) rfl k) ?_
          show OwnEnds _ _ _ _ _ _ _ (T26.setTop (mkF m 102 #[.val (.int p0), .val (.int p1), .val (.int (0 : Int32)), .val (.int (1 : Int32)), .val (.int (1 : Int32)), .val (.int (0 : Int32)), .val (.ref w_PROPLIST), .val (.int (74 : Int32)), .val (.int (1 : Int32))] []))
          refine ogo (fun t k => XS.iloadN X26.here hx rfl (hb hby at_102) rfl k) ?_
          show OwnEnds _ _ _ _ _ _ _ (T26.setTop (mkF m 103 #[.val (.int p0), .val (.int p1), .val (.int (0 : Int32)), .val (.int (1 : Int32)), .val (.int (1 : Int32)), .val (.int (0 : Int32)), .val (.ref w_PROPLIST), .val (.int (74 : Int32)), .val (.int (1 : Int32))] [(.int (1 : Int32))]))
          refine ogo (fun t k => XS.ifNo X26.here hx rfl (hb hby at_103) rfl ((if0 _ _).trans (feq (by decide : ¬ ((1 : Int32) = (0 : Int32)))).1) k) ?_
          show OwnEnds _ _ _ _ _ _ _ (T26.setTop (mkF m 106 #[.val (.int p0), .val (.int p1), .val (.int (0 : Int32)), .val (.int (1 : Int32)), .val (.int (1 : Int32)), .val (.int (0 : Int32)), .val (.ref w_PROPLIST), .val (.int (74 : Int32)), .val (.int (1 : Int32))] []))
          refine ogo (fun t k => XS.iload X26.here hx rfl (hb hby at_106) rfl k) ?_
          show OwnEnds _ _ _ _ _ _ _ (T26.setTop (mkF m 108 #[.val (.int p0), .val (.int p1), .val (.int (0 : Int32)), .val (.int (1 : Int32)), .val (.int (1 : Int32)), .val (.int (0 : Int32)), .val (.ref w_PROPLIST), .val (.int (74 : Int32)), .val (.int (1 : Int32))] [(.int (1 : Int32))]))
          refine ogo (fun t k => XS.ifNo X26.here hx rfl (hb hby at_108) rfl ((if0 _ _).trans (feq (by decide : ¬ ((1 : Int32) = (0 : Int32)))).1) k) ?_
          show OwnEnds _ _ _ _ _ _ _ (T26.setTop (mkF m 111 #[.val (.int p0), .val (.int p1), .val (.int (0 : Int32)), .val (.int (1 : Int32)), .val (.int (1 : Int32)), .val (.int (0 : Int32)), .val (.ref w_PROPLIST), .val (.int (74 : Int32)), .val (.int (1 : Int32))] []))
          refine ogo (fun t k => XS.iconst X26.here hx rfl (hb hby at_111) k) ?_
          show OwnEnds _ _ _ _ _ _ _ (T26.setTop (mkF m 112 #[.val (.int p0), .val (.int p1), .val (.int (0 : Int32)), .val (.int (1 : Int32)), .val (.int (1 : Int32)), .val (.int (0 : Int32)), .val (.ref w_PROPLIST), .val (.int (74 : Int32)), .val (.int (1 : Int32))] [(.int (1 : Int32))]))
          refine ogo (fun t k => XS.goto X26.here hx rfl (pc0 := 112) (pc' := 116) rfl (hb hby at_112) (by decide) (by decide) k) ?_
          show OwnEnds _ _ _ _ _ _ _ (T26.setTop (mkF m 116 #[.val (.int p0), .val (.int p1), .val (.int (0 : Int32)), .val (.int (1 : Int32)), .val (.int (1 : Int32)), .val (.int (0 : Int32)), .val (.ref w_PROPLIST), .val (.int (74 : Int32)), .val (.int (1 : Int32))] [(.int (1 : Int32))]))
          refine endZ X26 hx hlk Bd.returns rfl (hb hby at_116) (by decide) (by decide) ?_
          show Q0 Z p0 p1 w_LIST w_PROPLIST h0 n0 _ T26.heap _
          rw [e26]
          exact ⟨rfl, N26⟩
      · refine ogo (fun t k => XS.ifNo X2.here hx rfl (hb hby at_47) rfl ((if0 _ _).trans (feq hc19).1) k) ?_
        show OwnEnds _ _ _ _ _ _ _ (T2.setTop (mkF m 50 #[.val (.int p0), .val (.int p1), .val (.int (0 : Int32)), .val (.int (1 : Int32)), .val (.int (1 : Int32)), .unset, .unset, .unset, .unset] []))
        refine ogo (fun t k => XS.iconst X2.here hx rfl (hb hby at_50) k) ?_
        show OwnEnds _ _ _ _ _ _ _ (T2.setTop (mkF m 51 #[.val (.int p0), .val (.int p1), .val (.int (0 : Int32)), .val (.int (1 : Int32)), .val (.int (1 : Int32)), .unset, .unset, .unset, .unset] [(.int (1 : Int32))]))
        refine ogo (fun t k => XS.goto X2.here hx rfl (pc0 := 51) (pc' := 55) rfl (hb hby at_51) (by decide) (by decide) k) ?_
        show OwnEnds _ _ _ _ _ _ _ (T2.setTop (mkF m 55 #[.val (.int p0), .val (.int p1), .val (.int (0 : Int32)), .val (.int (1 : Int32)), .val (.int (1 : Int32)), .unset, .unset, .unset, .unset] [(.int (1 : Int32))]))
        refine ogo (fun t k => XS.istore X2.here hx rfl (hb hby at_55) rfl (l' := #[.val (.int p0), .val (.int p1), .val (.int (0 : Int32)), .val (.int (1 : Int32)), .val (.int (1 : Int32)), .val (.int (1 : Int32)), .unset, .unset, .unset]) rfl k) ?_
        show OwnEnds _ _ _ _ _ _ _ (T2.setTop (mkF m 57 #[.val (.int p0), .val (.int p1), .val (.int (0 : Int32)), .val (.int (1 : Int32)), .val (.int (1 : Int32)), .val (.int (1 : Int32)), .unset, .unset, .unset] []))
        refine ogo (fun t k => XS.iloadN X2.here hx rfl (hb hby at_57) rfl k) ?_
        show OwnEnds _ _ _ _ _ _ _ (T2.setTop (mkF m 58 #[.val (.int p0), .val (.int p1), .val (.int (0 : Int32)), .val (.int (1 : Int32)), .val (.int (1 : Int32)), .val (.int (1 : Int32)), .unset, .unset, .unset] [(.int p1)]))
        refine ogo (fun t k => XS.iconst X2.here hx rfl (hb hby at_58) k) ?_
        show OwnEnds _ _ _ _ _ _ _ (T2.setTop (mkF m 59 #[.val (.int p0), .val (.int p1), .val (.int (0 : Int32)), .val (.int (1 : Int32)), .val (.int (1 : Int32)), .val (.int (1 : Int32)), .unset, .unset, .unset] [(.int (4 : Int32)), (.int p1)]))
        refine ogo (fun t k => XS.iand X2.here hx rfl (hb hby at_59) rfl k) ?_
        show OwnEnds _ _ _ _ _ _ _ (T2.setTop (mkF m 60 #[.val (.int p0), .val (.int p1), .val (.int (0 : Int32)), .val (.int (1 : Int32)), .val (.int (1 : Int32)), .val (.int (1 : Int32)), .unset, .unset, .unset] [(.int (p1 &&& (4 : Int32)))]))
        by_cases hc27 : (p1 &&& (4 : Int32)) = (0 : Int32)
        · refine ogo (fun t k => XS.ifYes X2.here hx rfl (pc0 := 60) (pc' := 69) rfl (hb hby at_60) rfl ((if0 _ _).trans (teq hc27).1) (by decide) (by decide) k) ?_
          show OwnEnds _ _ _ _ _ _ _ (T2.setTop (mkF m 69 #[.val (.int p0), .val (.int p1), .val (.int (0 : Int32)), .val (.int (1 : Int32)), .val (.int (1 : Int32)), .val (.int (1 : Int32)), .unset, .unset, .unset] []))
          obtain ⟨T28, X28, e28, st28⟩ := getS2 X2 hx hZ hown (host := "") (Or.inl (hw _ (List.mem_of_getElem? (i := 4) rfl))) Via.refl e2 S_LIST (g := (mkF m 69 #[.val (.int p0), .val (.int p1), .val (.int (0 : Int32)), .val (.int (1 : Int32)), .val (.int (1 : Int32)), .val (.int (1 : Int32)), .unset, .unset, .unset] [])) rfl (hb hby at_69)
          refine ogo st28 ?_
          show OwnEnds _ _ _ _ _ _ _ (T28.setTop (mkF m 72 #[.val (.int p0), .val (.int p1), .val (.int (0 : Int32)), .val (.int (1 : Int32)), .val (.int (1 : Int32)), .val (.int (1 : Int32)), .unset, .unset, .unset] [(.ref w_LIST)]))
          refine ogo (fun t k => XS.astore X28.here hx rfl (hb hby at_72) rfl rfl (l' := #[.val (.int p0), .val (.int p1), .val (.int (0 : Int32)), .val (.int (1 : Int32)), .val (.int (1 : Int32)), .val (.int (1 : Int32)), .val (.ref w_LIST), .unset, .unset]) rfl k) ?_
          show OwnEnds _ _ _ _ _ _ _ (T28.setTop (mkF m 74 #[.val (.int p0), .val (.int p1), .val (.int (0 : Int32)), .val (.int (1 : Int32)), .val (.int (1 : Int32)), .val (.int (1 : Int32)), .val (.ref w_LIST), .unset, .unset] []))
          refine ogo (fun t k => XS.aload X28.here hx rfl (hb hby at_74) rfl rfl k) ?_
          show OwnEnds _ _ _ _ _ _ _ (T28.setTop (mkF m 76 #[.val (.int p0), .val (.int p1), .val (.int (0 : Int32)), .val (.int (1 : Int32)), .val (.int (1 : Int32)), .val (.int (1 : Int32)), .val (.ref w_LIST), .unset, .unset] [(.ref w_LIST)]))
          refine ogo (fun t k => XS.iload X28.here hx rfl (hb hby at_76) rfl k) ?_
          show OwnEnds _ _ _ _ _ _ _ (T28.setTop (mkF m 78 #[.val (.int p0), .val (.int p1), .val (.int (0 : Int32)), .val (.int (1 : Int32)), .val (.int (1 : Int32)), .val (.int (1 : Int32)), .val (.ref w_LIST), .unset, .unset] [(.int (1 : Int32)), (.ref w_LIST)]))
          refine ogo (fun t k => XS.iload X28.here hx rfl (hb hby at_78) rfl k) ?_
          show OwnEnds _ _ _ _ _ _ _ (T28.setTop (mkF m 80 #[.val (.int p0), .val (.int p1), .val (.int (0 : Int32)), .val (.int (1 : Int32)), .val (.int (1 : Int32)), .val (.int (1 : Int32)), .val (.ref w_LIST), .unset, .unset] [(.int (1 : Int32)), (.int (1 : Int32)), (.ref w_LIST)]))
          obtain ⟨cq29, kq29, q29a, q29b, q29c⟩ := isOf hZ e28 E_LIST
          obtain ⟨v29, _, ⟨T29, L29, k29, n29⟩, -, X29, ⟨Lc29, hQ29, l29, y29, z29⟩, st29⟩ := X28.virtualBack hx (y := (⟨"com/example/tidingsd/tidingsd/model/ElementCode", "octet", "(ZZ)I"⟩ : MethodName)) (z := (⟨"com/example/tidingsd/tidingsd/model/ElementCode", "octet", "(ZZ)I"⟩ : MethodName)) hown (mvT hZ (hw _ (List.mem_of_getElem? (i := 6) rfl))) (mvT hZ (hw _ (List.mem_of_getElem? (i := 7) rfl))) (notFace_of_selects (args := #[]) (mvT hZ (hw _ (List.mem_of_getElem? (i := 9) rfl)))) (mvT hZ (hw _ (List.mem_of_getElem? (i := 9) rfl))) (mvT hZ (hw _ (List.mem_of_getElem? (i := 8) rfl))) (by decide) (backOf (W := 0) (rm4 l Z a0 hw [] w_LIST (1 : Int32) (1 : Int32) (9 : Int32) w_LIST w_PROPLIST h0 n0 Z0 S_LIST S_PROPLIST E_LIST (Or.inl rfl) F_code_LIST) hZ (hw _ (List.mem_of_getElem? (i := 10) rfl)) (hw _ (List.mem_of_getElem? (i := 2) rfl)) (by decide) (by decide)) q29a q29c (g := (mkF m 80 #[.val (.int p0), .val (.int p1), .val (.int (0 : Int32)), .val (.int (1 : Int32)), .val (.int (1 : Int32)), .val (.int (1 : Int32)), .val (.ref w_LIST), .unset, .unset] [(.int (1 : Int32)), (.int (1 : Int32)), (.ref w_LIST)])) rfl (by rw [hml]; rfl) (Steps.refl _) (argsL := [(.int (1 : Int32)), (.int (1 : Int32))]) (rest := []) (lenOf pd__ZZ_I rfl) rfl (by show 2 * 0 + _ ≤ _; exact Nat.le_of_eq rfl) (hb hby at_80) (fun _ _ => ⟨rfl, e28, (by decide : 0 + 0 ≤ _), (by decide : 0 + 0 ≤ _)⟩)
          dsimp only [Pt.U, Pt.locs, Pt.cells, Pt.slots] at X29 l29 y29 z29 st29 hQ29
          subst l29 y29 z29
          obtain ⟨hv29, N29q, e29⟩ := hQ29
          obtain rfl : v29 = some (.int (201 : Int32)) := hv29.trans (by decide)
          have N29 := Fr.app N2 N29q
          refine ogo (fun t k => st29.trans k) ?_
          show OwnEnds _ _ _ _ _ _ _ (T29.setTop (mkF m 83 #[.val (.int p0), .val (.int p1), .val (.int (0 : Int32)), .val (.int (1 : Int32)), .val (.int (1 : Int32)), .val (.int (1 : Int32)), .val (.ref w_LIST), .unset, .unset] [(.int (201 : Int32))]))
          refine ogo (fun t k => XS.istore X29.here hx rfl (hb hby at_83) rfl (l' := #[.val (.int p0), .val (.int p1), .val (.int (0 : Int32)), .val (.int (1 : Int32)), .val (.int (1 : Int32)), .val (.int (1 : Int32)), .val (.ref w_LIST), .val (.int (201 : Int32)), .unset]) rfl k) ?_
          show OwnEnds _ _ _ _ _ _ _ (T29.setTop (mkF m 85 #[.val (.int p0), .val (.int p1), .val (.int (0 : Int32)), .val (.int (1 : Int32)), .val (.int (1 : Int32)), .val (.int (1 : Int32)), .val (.ref w_LIST), .val (.int (201 : Int32)), .unset] []))
          refine ogo (fun t k => XS.iload X29.here hx rfl (hb hby at_85) rfl k) ?_
          show OwnEnds _ _ _ _ _ _ _ (T29.setTop (mkF m 87 #[.val (.int p0), .val (.int p1), .val (.int (0 : Int32)), .val (.int (1 : Int32)), .val (.int (1 : Int32)), .val (.int (1 : Int32)), .val (.ref w_LIST), .val (.int (201 : Int32)), .unset] [(.int (201 : Int32))]))
          obtain ⟨v30, _, ⟨T30, L30, k30, n30⟩, -, X30, ⟨Lc30, hQ30, l30, y30, z30⟩, st30⟩ := Jvm.LawKit.callS X29 hx (y := (⟨"com/example/tidingsd/tidingsd/model/ElementCode", "containsRef", "(I)Z"⟩ : MethodName)) hown (mvT hZ (hw _ (List.mem_of_getElem? (i := 0) rfl))) (mvT hZ (hw _ (List.mem_of_getElem? (i := 1) rfl))) (mvT hZ (hw _ (List.mem_of_getElem? (i := 2) rfl))) (mvT hZ (hw _ (List.mem_of_getElem? (i := 3) rfl))) (by decide) (backOf (W := 0) (rm1 l Z a0 hw [] (201 : Int32) h0 n0 Z0 ) hZ (hw _ (List.mem_of_getElem? (i := 3) rfl)) (hw _ (List.mem_of_getElem? (i := 2) rfl)) (by decide) (by decide)) (g := (mkF m 87 #[.val (.int p0), .val (.int p1), .val (.int (0 : Int32)), .val (.int (1 : Int32)), .val (.int (1 : Int32)), .val (.int (1 : Int32)), .val (.ref w_LIST), .val (.int (201 : Int32)), .unset] [(.int (201 : Int32))])) rfl (by rw [hml]; rfl) (argsL := [(.int (201 : Int32))]) (rest := []) (lenOf pd__I_Z rfl) rfl (by show 2 * 0 + _ ≤ _; exact Nat.le_of_eq rfl) (hb hby at_87) (fun _ _ => ⟨rfl, e29, (by decide : 0 + 0 ≤ _), (by decide : 0 + 0 ≤ _)⟩)
          dsimp only [Pt.U, Pt.locs, Pt.cells, Pt.slots] at X30 l30 y30 z30 st30 hQ30
          subst l30 y30 z30
          obtain ⟨hv30, N30q, e30⟩ := hQ30
          obtain rfl : v30 = some (.int (1 : Int32)) := hv30.trans (by decide)
          have N30 := Fr.app N29 N30q
          refine ogo (fun t k => st30 t k) ?_
          show OwnEnds _ _ _ _ _ _ _ (T30.setTop (mkF m 90 #[.val (.int p0), .val (.int p1), .val (.int (0 : Int32)), .val (.int (1 : Int32)), .val (.int (1 : Int32)), .val (.int (1 : Int32)), .val (.ref w_LIST), .val (.int (201 : Int32)), .unset] [(.int (1 : Int32))]))
          refine ogo (fun t k => XS.iload X30.here hx rfl (hb hby at_90) rfl k) ?_
          show OwnEnds _ _ _ _ _ _ _ (T30.setTop (mkF m 92 #[.val (.int p0), .val (.int p1), .val (.int (0 : Int32)), .val (.int (1 : Int32)), .val (.int (1 : Int32)), .val (.int (1 : Int32)), .val (.ref w_LIST), .val (.int (201 : Int32)), .unset] [(.int (1 : Int32)), (.int (1 : Int32))]))
          refine ogo (fun t k => XS.icmpNo X30.here hx rfl (hb hby at_92) rfl (teq (by decide : (1 : Int32) = (1 : Int32))).2 k) ?_
          show OwnEnds _ _ _ _ _ _ _ (T30.setTop (mkF m 95 #[.val (.int p0), .val (.int p1), .val (.int (0 : Int32)), .val (.int (1 : Int32)), .val (.int (1 : Int32)), .val (.int (1 : Int32)), .val (.ref w_LIST), .val (.int (201 : Int32)), .unset] []))
          refine ogo (fun t k => XS.iconst X30.here hx rfl (hb hby at_95) k) ?_
          show OwnEnds _ _ _ _ _ _ _ (T30.setTop (mkF m 96 #[.val (.int p0), .val (.int p1), .val (.int (0 : Int32)), .val (.int (1 : Int32)), .val (.int (1 : Int32)), .val (.int (1 : Int32)), .val (.ref w_LIST), .val (.int (201 : Int32)), .unset] [(.int (1 : Int32))]))
          refine ogo (fun t k => XS.goto X30.here hx rfl (pc0 := 96) (pc' := 100) rfl (hb hby at_96) (by decide) (by decide) k) ?_
          show OwnEnds _ _ _ _ _ _ _ (T30.setTop (mkF m 100 #[.val (.int p0), .val (.int p1), .val (.int (0 : Int32)), .val (.int (1 : Int32)), .val (.int (1 : Int32)), .val (.int (1 : Int32)), .val (.ref w_LIST), .val (.int (201 : Int32)), .unset] [(.int (1 : Int32))]))
          refine ogo (fun t k => XS.istore X30.here hx rfl (hb hby at_100) rfl (l' := #[.val (.int p0), .val (.int p1), .val (.int (0 : Int32)), .val (.int (1 : Int32)), .val (.int (1 : Int32)), .val (.int (1 : Int32)), .val (.ref w_LIST), .val (.int (201 : Int32)), .val (.int (1 : Int32))]) rfl k) ?_
          show OwnEnds _ _ _ _ _ _ _ (T30.setTop (mkF m 102 #[.val (.int p0), .val (.int p1), .val (.int (0 : Int32)), .val (.int (1 : Int32)), .val (.int (1 : Int32)), .val (.int (1 : Int32)), .val (.ref w_LIST), .val (.int (201 : Int32)), .val (.int (1 : Int32))] []))
          refine ogo (fun t k => XS.iloadN X30.here hx rfl (hb hby at_102) rfl k) ?_
          show OwnEnds _ _ _ _ _ _ _ (T30.setTop (mkF m 103 #[.val (.int p0), .val (.int p1), .val (.int (0 : Int32)), .val (.int (1 : Int32)), .val (.int (1 : Int32)), .val (.int (1 : Int32)), .val (.ref w_LIST), .val (.int (201 : Int32)), .val (.int (1 : Int32))] [(.int (1 : Int32))]))
          refine ogo (fun t k => XS.ifNo X30.here hx rfl (hb hby at_103) rfl ((if0 _ _).trans (feq (by decide : ¬ ((1 : Int32) = (0 : Int32)))).1) k) ?_
          show OwnEnds _ _ _ _ _ _ _ (T30.setTop (mkF m 106 #[.val (.int p0), .val (.int p1), .val (.int (0 : Int32)), .val (.int (1 : Int32)), .val (.int (1 : Int32)), .val (.int (1 : Int32)), .val (.ref w_LIST), .val (.int (201 : Int32)), .val (.int (1 : Int32))] []))
          refine ogo (fun t k => XS.iload X30.here hx rfl (hb hby at_106) rfl k) ?_
          show OwnEnds _ _ _ _ _ _ _ (T30.setTop (mkF m 108 #[.val (.int p0), .val (.int p1), .val (.int (0 : Int32)), .val (.int (1 : Int32)), .val (.int (1 : Int32)), .val (.int (1 : Int32)), .val (.ref w_LIST), .val (.int (201 : Int32)), .val (.int (1 : Int32))] [(.int (1 : Int32))]))
          refine ogo (fun t k => XS.ifNo X30.here hx rfl (hb hby at_108) rfl ((if0 _ _).trans (feq (by decide : ¬ ((1 : Int32) = (0 : Int32)))).1) k) ?_
          show OwnEnds _ _ _ _ _ _ _ (T30.setTop (mkF m 111 #[.val (.int p0), .val (.int p1), .val (.int (0 : Int32)), .val (.int (1 : Int32)), .val (.int (1 : Int32)), .val (.int (1 : Int32)), .val (.ref w_LIST), .val (.int (201 : Int32)), .val (.int (1 : Int32))] []))
          refine ogo (fun t k => XS.iconst X30.here hx rfl (hb hby at_111) k) ?_
          show OwnEnds _ _ _ _ _ _ _ (T30.setTop (mkF m 112 #[.val (.int p0), .val (.int p1), .val (.int (0 : Int32)), .val (.int (1 : Int32)), .val (.int (1 : Int32)), .val (.int (1 : Int32)), .val (.ref w_LIST), .val (.int (201 : Int32)), .val (.int (1 : Int32))] [(.int (1 : Int32))]))
          refine ogo (fun t k => XS.goto X30.here hx rfl (pc0 := 112) (pc' := 116) rfl (hb hby at_112) (by decide) (by decide) k) ?_
          show OwnEnds _ _ _ _ _ _ _ (T30.setTop (mkF m 116 #[.val (.int p0), .val (.int p1), .val (.int (0 : Int32)), .val (.int (1 : Int32)), .val (.int (1 : Int32)), .val (.int (1 : Int32)), .val (.ref w_LIST), .val (.int (201 : Int32)), .val (.int (1 : Int32))] [(.int (1 : Int32))]))
          refine endZ X30 hx hlk Bd.returns rfl (hb hby at_116) (by decide) (by decide) ?_
          show Q0 Z p0 p1 w_LIST w_PROPLIST h0 n0 _ T30.heap _
          rw [e30]
          exact ⟨rfl, N30⟩
        · refine ogo (fun t k => XS.ifNo X2.here hx rfl (hb hby at_60) rfl ((if0 _ _).trans (feq hc27).1) k) ?_
          show OwnEnds _ _ _ _ _ _ _ (T2.setTop (mkF m 63 #[.val (.int p0), .val (.int p1), .val (.int (0 : Int32)), .val (.int (1 : Int32)), .val (.int (1 : Int32)), .val (.int (1 : Int32)), .unset, .unset, .unset] []))
          obtain ⟨T31, X31, e31, st31⟩ := getS2 X2 hx hZ hown (host := "") (Or.inl (hw _ (List.mem_of_getElem? (i := 23) rfl))) Via.refl e2 S_PROPLIST (g := (mkF m 63 #[.val (.int p0), .val (.int p1), .val (.int (0 : Int32)), .val (.int (1 : Int32)), .val (.int (1 : Int32)), .val (.int (1 : Int32)), .unset, .unset, .unset] [])) rfl (hb hby at_63)
          refine ogo st31 ?_
          show OwnEnds _ _ _ _ _ _ _ (T31.setTop (mkF m 66 #[.val (.int p0), .val (.int p1), .val (.int (0 : Int32)), .val (.int (1 : Int32)), .val (.int (1 : Int32)), .val (.int (1 : Int32)), .unset, .unset, .unset] [(.ref w_PROPLIST)]))
          refine ogo (fun t k => XS.goto X31.here hx rfl (pc0 := 66) (pc' := 72) rfl (hb hby at_66) (by decide) (by decide) k) ?_
          show OwnEnds _ _ _ _ _ _ _ (T31.setTop (mkF m 72 #[.val (.int p0), .val (.int p1), .val (.int (0 : Int32)), .val (.int (1 : Int32)), .val (.int (1 : Int32)), .val (.int (1 : Int32)), .unset, .unset, .unset] [(.ref w_PROPLIST)]))
          refine ogo (fun t k => XS.astore X31.here hx rfl (hb hby at_72) rfl rfl (l' := #[.val (.int p0), .val (.int p1), .val (.int (0 : Int32)), .val (.int (1 : Int32)), .val (.int (1 : Int32)), .val (.int (1 : Int32)), .val (.ref w_PROPLIST), .unset, .unset]) rfl k) ?_
          show OwnEnds _ _ _ _ _ _ _ (T31.setTop (mkF m 74 #[.val (.int p0), .val (.int p1), .val (.int (0 : Int32)), .val (.int (1 : Int32)), .val (.int (1 : Int32)), .val (.int (1 : Int32)), .val (.ref w_PROPLIST), .unset, .unset] []))
          refine ogo (fun t k => XS.aload X31.here hx rfl (hb hby at_74) rfl rfl k) ?_
          show OwnEnds _ _ _ _ _ _ _ (T31.setTop (mkF m 76 #[.val (.int p0), .val (.int p1), .val (.int (0 : Int32)), .val (.int (1 : Int32)), .val (.int (1 : Int32)), .val (.int (1 : Int32)), .val (.ref w_PROPLIST), .unset, .unset] [(.ref w_PROPLIST)]))
          refine ogo (fun t k => XS.iload X31.here hx rfl (hb hby at_76) rfl k) ?_
          show OwnEnds _ _ _ _ _ _ _ (T31.setTop (mkF m 78 #[.val (.int p0), .val (.int p1), .val (.int (0 : Int32)), .val (.int (1 : Int32)), .val (.int (1 : Int32)), .val (.int (1 : Int32)), .val (.ref w_PROPLIST), .unset, .unset] [(.int (1 : Int32)), (.ref w_PROPLIST)]))
          refine ogo (fun t k => XS.iload X31.here hx rfl (hb hby at_78) rfl k) ?_
          show OwnEnds _ _ _ _ _ _ _ (T31.setTop (mkF m 80 #[.val (.int p0), .val (.int p1), .val (.int (0 : Int32)), .val (.int (1 : Int32)), .val (.int (1 : Int32)), .val (.int (1 : Int32)), .val (.ref w_PROPLIST), .unset, .unset] [(.int (1 : Int32)), (.int (1 : Int32)), (.ref w_PROPLIST)]))
          obtain ⟨cq32, kq32, q32a, q32b, q32c⟩ := isOf hZ e31 E_PROPLIST
          obtain ⟨v32, _, ⟨T32, L32, k32, n32⟩, -, X32, ⟨Lc32, hQ32, l32, y32, z32⟩, st32⟩ := X31.virtualBack hx (y := (⟨"com/example/tidingsd/tidingsd/model/ElementCode", "octet", "(ZZ)I"⟩ : MethodName)) (z := (⟨"com/example/tidingsd/tidingsd/model/ElementCode", "octet", "(ZZ)I"⟩ : MethodName)) hown (mvT hZ (hw _ (List.mem_of_getElem? (i := 6) rfl))) (mvT hZ (hw _ (List.mem_of_getElem? (i := 7) rfl))) (notFace_of_selects (args := #[]) (mvT hZ (hw _ (List.mem_of_getElem? (i := 9) rfl)))) (mvT hZ (hw _ (List.mem_of_getElem? (i := 9) rfl))) (mvT hZ (hw _ (List.mem_of_getElem? (i := 8) rfl))) (by decide) (backOf (W := 0) (rm4 l Z a0 hw [] w_PROPLIST (1 : Int32) (1 : Int32) (10 : Int32) w_LIST w_PROPLIST h0 n0 Z0 S_LIST S_PROPLIST E_PROPLIST (Or.inr rfl) F_code_PROPLIST) hZ (hw _ (List.mem_of_getElem? (i := 10) rfl)) (hw _ (List.mem_of_getElem? (i := 2) rfl)) (by decide) (by decide)) q32a q32c (g := (mkF m 80 #[.val (.int p0), .val (.int p1), .val (.int (0 : Int32)), .val (.int (1 : Int32)), .val (.int (1 : Int32)), .val (.int (1 : Int32)), .val (.ref w_PROPLIST), .unset, .unset] [(.int (1 : Int32)), (.int (1 : Int32)), (.ref w_PROPLIST)])) rfl (by rw [hml]; rfl) (Steps.refl _) (argsL := [(.int (1 : Int32)), (.int (1 : Int32))]) (rest := []) (lenOf pd__ZZ_I rfl) rfl (by show 2 * 0 + _ ≤ _; exact Nat.le_of_eq rfl) (hb hby at_80) (fun _ _ => ⟨rfl, e31, (by decide : 0 + 0 ≤ _), (by decide : 0 + 0 ≤ _)⟩)
          dsimp only [Pt.U, Pt.locs, Pt.cells, Pt.slots] at X32 l32 y32 z32 st32 hQ32
          subst l32 y32 z32
          obtain ⟨hv32, N32q, e32⟩ := hQ32
          obtain rfl : v32 = some (.int (202 : Int32)) := hv32.trans (by decide)
          have N32 := Fr.app N2 N32q
          refine ogo (fun t k => st32.trans k) ?_
          show OwnEnds _ _ _ _ _ _ _ (T32.setTop (mkF m 83 #[.val (.int p0), .val (.int p1), .val (.int (0 : Int32)), .val (.int (1 : Int32)), .val (.int (1 : Int32)), .val (.int (1 : Int32)), .val (.ref w_PROPLIST), .unset, .unset] [(.int (202 : Int32))]))
          refine ogo (fun t k => XS.istore X32.here hx rfl (hb hby at_83) rfl (l' := #[.val (.int p0), .val (.int p1), .val (.int (0 : Int32)), .val (.int (1 : Int32)), .val (.int (1 : Int32)), .val (.int (1 : Int32)), .val (.ref w_PROPLIST), .val (.int (202 : Int32)), .unset]) rfl k) ?_
          show OwnEnds _ _ _ _ _ _ _ (T32.setTop (mkF m 85 #[.val (.int p0), .val (.int p1), .val (.int (0 : Int32)), .val (.int (1 : Int32)), .val (.int (1 : Int32)), .val (.int (1 : Int32)), .val (.ref w_PROPLIST), .val (.int (202 : Int32)), .unset] []))
          refine ogo (fun t k => XS.iload X32.here hx rfl (hb hby at_85) rfl k) ?_
          show OwnEnds _ _ _ _ _ _ _ (T32.setTop (mkF m 87 #[.val (.int p0), .val (.int p1), .val (.int (0 : Int32)), .val (.int (1 : Int32)), .val (.int (1 : Int32)), .val (.int (1 : Int32)), .val (.ref w_PROPLIST), .val (.int (202 : Int32)), .unset] [(.int (202 : Int32))]))
          obtain ⟨v33, _, ⟨T33, L33, k33, n33⟩, -, X33, ⟨Lc33, hQ33, l33, y33, z33⟩, st33⟩ := Jvm.LawKit.callS X32 hx (y := (⟨"com/example/tidingsd/tidingsd/model/ElementCode", "containsRef", "(I)Z"⟩ : MethodName)) hown (mvT hZ (hw _ (List.mem_of_getElem? (i := 0) rfl))) (mvT hZ (hw _ (List.mem_of_getElem? (i := 1) rfl))) (mvT hZ (hw _ (List.mem_of_getElem? (i := 2) rfl))) (mvT hZ (hw _ (List.mem_of_getElem? (i := 3) rfl))) (by decide) (backOf (W := 0) (rm1 l Z a0 hw [] (202 : Int32) h0 n0 Z0 ) hZ (hw _ (List.mem_of_getElem? (i := 3) rfl)) (hw _ (List.mem_of_getElem? (i := 2) rfl)) (by decide) (by decide)) (g := (mkF m 87 #[.val (.int p0), .val (.int p1), .val (.int (0 : Int32)), .val (.int (1 : Int32)), .val (.int (1 : Int32)), .val (.int (1 : Int32)), .val (.ref w_PROPLIST), .val (.int (202 : Int32)), .unset] [(.int (202 : Int32))])) rfl (by rw [hml]; rfl) (argsL := [(.int (202 : Int32))]) (rest := []) (lenOf pd__I_Z rfl) rfl (by show 2 * 0 + _ ≤ _; exact Nat.le_of_eq rfl) (hb hby at_87) (fun _ _ => ⟨rfl, e32, (by decide : 0 + 0 ≤ _), (by decide : 0 + 0 ≤ _)⟩)
          dsimp only [Pt.U, Pt.locs, Pt.cells, Pt.slots] at X33 l33 y33 z33 st33 hQ33
          subst l33 y33 z33
          obtain ⟨hv33, N33q, e33⟩ := hQ33
          obtain rfl : v33 = some (.int (1 : Int32)) := hv33.trans (by decide)
          have N33 := Fr.app N32 N33q
          refine ogo (fun t k => st33 t k) ?_
          show OwnEnds _ _ _ _ _ _ _ (T33.setTop (mkF m 90 #[.val (.int p0), .val (.int p1), .val (.int (0 : Int32)), .val (.int (1 : Int32)), .val (.int (1 : Int32)), .val (.int (1 : Int32)), .val (.ref w_PROPLIST), .val (.int (202 : Int32)), .unset] [(.int (1 : Int32))]))
          refine ogo (fun t k => XS.iload X33.here hx rfl (hb hby at_90) rfl k) ?_
          show OwnEnds _ _ _ _ _ _ _ (T33.setTop (mkF m 92 #[.val (.int p0), .val (.int p1), .val (.int (0 : Int32)), .val (.int (1 : Int32)), .val (.int (1 : Int32)), .val (.int (1 : Int32)), .val (.ref w_PROPLIST), .val (.int (202 : Int32)), .unset] [(.int (1 : Int32)), (.int (1 : Int32))]))
          refine ogo (fun t k => XS.icmpNo X33.here hx rfl (hb hby at_92) rfl (teq (by decide : (1 : Int32) = (1 : Int32))).2 k) ?_
          show OwnEnds _ _ _ _ _ _ _ (T33.setTop (mkF m 95 #[.val (.int p0), .val (.int p1), .val (.int (0 : Int32)), .val (.int (1 : Int32)), .val (.int (1 : Int32)), .val (.int (1 : Int32)), .val (.ref w_PROPLIST), .val (.int (202 : Int32)), .unset] []))
          refine ogo (fun t k => XS.iconst X33.here hx rfl (hb hby at_95) k) ?_
          show OwnEnds _ _ _ _ _ _ _ (T33.setTop (mkF m 96 #[.val (.int p0), .val (.int p1), .val (.int (0 : Int32)), .val (.int (1 : Int32)), .val (.int (1 : Int32)), .val (.int (1 : Int32)), .val (.ref w_PROPLIST), .val (.int (202 : Int32)), .unset] [(.int (1 : Int32))]))
          refine ogo (fun t k => XS.goto X33.here hx rfl (pc0 := 96) (pc' := 100) rfl (hb hby at_96) (by decide) (by decide) k) ?_
          show OwnEnds _ _ _ _ _ _ _ (T33.setTop (mkF m 100 #[.val (.int p0), .val (.int p1), .val (.int (0 : Int32)), .val (.int (1 : Int32)), .val (.int (1 : Int32)), .val (.int (1 : Int32)), .val (.ref w_PROPLIST), .val (.int (202 : Int32)), .unset] [(.int (1 : Int32))]))
          refine ogo (fun t k => XS.istore X33.here hx rfl (hb hby at_100) rfl (l' := #[.val (.int p0), .val (.int p1), .val (.int (0 : Int32)), .val (.int (1 : Int32)), .val (.int (1 : Int32)), .val (.int (1 : Int32)), .val (.ref w_PROPLIST), .val (.int (202 : Int32)), .val (.int (1 : Int32))]) rfl k) ?_
          show OwnEnds _ _ _ _ _ _ _ (T33.setTop (mkF m 102 #[.val (.int p0), .val (.int p1), .val (.int (0 : Int32)), .val (.int (1 : Int32)), .val (.int (1 : Int32)), .val (.int (1 : Int32)), .val (.ref w_PROPLIST), .val (.int (202 : Int32)), .val (.int (1 : Int32))] []))
          refine ogo (fun t k => XS.iloadN X33.here hx rfl (hb hby at_102) rfl k) ?_
          show OwnEnds _ _ _ _ _ _ _ (T33.setTop (mkF m 103 #[.val (.int p0), .val (.int p1), .val (.int (0 : Int32)), .val (.int (1 : Int32)), .val (.int (1 : Int32)), .val (.int (1 : Int32)), .val (.ref w_PROPLIST), .val (.int (202 : Int32)), .val (.int (1 : Int32))] [(.int (1 : Int32))]))
          refine ogo (fun t k => XS.ifNo X33.here hx rfl (hb hby at_103) rfl ((if0 _ _).trans (feq (by decide : ¬ ((1 : Int32) = (0 : Int32)))).1) k) ?_
          show OwnEnds _ _ _ _ _ _ _ (T33.setTop (mkF m 106 #[.val (.int p0), .val (.int p1), .val (.int (0 : Int32)), .val (.int (1 : Int32)), .val (.int (1 : Int32)), .val (.int (1 : Int32)), .val (.ref w_PROPLIST), .val (.int (202 : Int32)), .val (.int (1 : Int32))] []))
          refine ogo (fun t k => XS.iload X33.here hx rfl (hb hby at_106) rfl k) ?_
          show OwnEnds _ _ _ _ _ _ _ (T33.setTop (mkF m 108 #[.val (.int p0), .val (.int p1), .val (.int (0 : Int32)), .val (.int (1 : Int32)), .val (.int (1 : Int32)), .val (.int (1 : Int32)), .val (.ref w_PROPLIST), .val (.int (202 : Int32)), .val (.int (1 : Int32))] [(.int (1 : Int32))]))
          refine ogo (fun t k => XS.ifNo X33.here hx rfl (hb hby at_108) rfl ((if0 _ _).trans (feq (by decide : ¬ ((1 : Int32) = (0 : Int32)))).1) k) ?_
          show OwnEnds _ _ _ _ _ _ _ (T33.setTop (mkF m 111 #[.val (.int p0), .val (.int p1), .val (.int (0 : Int32)), .val (.int (1 : Int32)), .val (.int (1 : Int32)), .val (.int (1 : Int32)), .val (.ref w_PROPLIST), .val (.int (202 : Int32)), .val (.int (1 : Int32))] []))
          refine ogo (fun t k => XS.iconst X33.here hx rfl (hb hby at_111) k) ?_
          show OwnEnds _ _ _ _ _ _ _ (T33.setTop (mkF m 112 #[.val (.int p0), .val (.int p1), .val (.int (0 : Int32)), .val (.int (1 : Int32)), .val (.int (1 : Int32)), .val (.int (1 : Int32)), .val (.ref w_PROPLIST), .val (.int (202 : Int32)), .val (.int (1 : Int32))] [(.int (1 : Int32))]))
          refine ogo (fun t k => XS.goto X33.here hx rfl (pc0 := 112) (pc' := 116) rfl (hb hby at_112) (by decide) (by decide) k) ?_
          show OwnEnds _ _ _ _ _ _ _ (T33.setTop (mkF m 116 #[.val (.int p0), .val (.int p1), .val (.int (0 : Int32)), .val (.int (1 : Int32)), .val (.int (1 : Int32)), .val (.int (1 : Int32)), .val (.ref w_PROPLIST), .val (.int (202 : Int32)), .val (.int (1 : Int32))] [(.int (1 : Int32))]))
          refine endZ X33 hx hlk Bd.returns rfl (hb hby at_116) (by decide) (by decide) ?_
          show Q0 Z p0 p1 w_LIST w_PROPLIST h0 n0 _ T33.heap _
          rw [e33]
          exact ⟨rfl, N33⟩
  · refine ogo (fun t k => XS.icmpNo X0.here hx rfl (hb hby at_8) rfl (flt hc1).1 k) ?_
    show OwnEnds _ _ _ _ _ _ _ (s₁.setTop (mkF m 11 #[.val (.int p0), .val (.int p1), .unset, .unset, .unset, .unset, .unset, .unset, .unset] []))
    refine ogo (fun t k => XS.iconst X0.here hx rfl (hb hby at_11) k) ?_
    show OwnEnds _ _ _ _ _ _ _ (s₁.setTop (mkF m 12 #[.val (.int p0), .val (.int p1), .unset, .unset, .unset, .unset, .unset, .unset, .unset] [(.int (1 : Int32))]))
    refine ogo (fun t k => XS.goto X0.here hx rfl (pc0 := 12) (pc' := 16) rfl (hb hby at_12) (by decide) (by decide) k) ?_
    show OwnEnds _ _ _ _ _ _ _ (s₁.setTop (mkF m 16 #[.val (.int p0), .val (.int p1), .unset, .unset, .unset, .unset, .unset, .unset, .unset] [(.int (1 : Int32))]))
    refine ogo (fun t k => XS.istoreN X0.here hx rfl (hb hby at_16) rfl (l' := #[.val (.int p0), .val (.int p1), .val (.int (1 : Int32)), .unset, .unset, .unset, .unset, .unset, .unset]) rfl k) ?_
    show OwnEnds _ _ _ _ _ _ _ (s₁.setTop (mkF m 17 #[.val (.int p0), .val (.int p1), .val (.int (1 : Int32)), .unset, .unset, .unset, .unset, .unset, .unset] []))
    refine ogo (fun t k => XS.iloadN X0.here hx rfl (hb hby at_17) rfl k) ?_
    show OwnEnds _ _ _ _ _ _ _ (s₁.setTop (mkF m 18 #[.val (.int p0), .val (.int p1), .val (.int (1 : Int32)), .unset, .unset, .unset, .unset, .unset, .unset] [(.int p0)]))
    obtain ⟨v34, _, ⟨T34, L34, k34, n34⟩, -, X34, ⟨Lc34, hQ34, l34, y34, z34⟩, st34⟩ := Jvm.LawKit.callS X0 hx (y := (⟨"com/example/tidingsd/tidingsd/model/ElementCode", "containsRef", "(I)Z"⟩ : MethodName)) hown (mvT hZ (hw _ (List.mem_of_getElem? (i := 0) rfl))) (mvT hZ (hw _ (List.mem_of_getElem? (i := 1) rfl))) (mvT hZ (hw _ (List.mem_of_getElem? (i := 2) rfl))) (mvT hZ (hw _ (List.mem_of_getElem? (i := 3) rfl))) (by decide) (backOf (W := 0) (rm1 l Z a0 hw [] p0 h0 n0 Z0 ) hZ (hw _ (List.mem_of_getElem? (i := 3) rfl)) (hw _ (List.mem_of_getElem? (i := 2) rfl)) (by decide) (by decide)) (g := (mkF m 18 #[.val (.int p0), .val (.int p1), .val (.int (1 : Int32)), .unset, .unset, .unset, .unset, .unset, .unset] [(.int p0)])) rfl (by rw [hml]; rfl) (argsL := [(.int p0)]) (rest := []) (lenOf pd__I_Z rfl) rfl (by show 2 * 0 + _ ≤ _; exact Nat.le_of_eq rfl) (hb hby at_18) (fun _ _ => ⟨rfl, e0, (by decide : 0 + 0 ≤ _), (by decide : 0 + 0 ≤ _)⟩)
    dsimp only [Pt.U, Pt.locs, Pt.cells, Pt.slots] at X34 l34 y34 z34 st34 hQ34
    subst l34 y34 z34
    obtain ⟨hv34, N34q, e34⟩ := hQ34
    obtain rfl : v34 = some (.int (1 : Int32)) := hv34.trans (by simp [own_bit, hc1])
    have N34 := Fr.app N0 N34q
    refine ogo (fun t k => st34 t k) ?_
    show OwnEnds _ _ _ _ _ _ _ (T34.setTop (mkF m 21 #[.val (.int p0), .val (.int p1), .val (.int (1 : Int32)), .unset, .unset, .unset, .unset, .unset, .unset] [(.int (1 : Int32))]))
    refine ogo (fun t k => XS.iloadN X34.here hx rfl (hb hby at_21) rfl k) ?_
    show OwnEnds _ _ _ _ _ _ _ (T34.setTop (mkF m 22 #[.val (.int p0), .val (.int p1), .val (.int (1 : Int32)), .unset, .unset, .unset, .unset, .unset, .unset] [(.int (1 : Int32)), (.int (1 : Int32))]))
    refine ogo (fun t k => XS.icmpNo X34.here hx rfl (hb hby at_22) rfl (teq (by decide : (1 : Int32) = (1 : Int32))).2 k) ?_
    show OwnEnds _ _ _ _ _ _ _ (T34.setTop (mkF m 25 #[.val (.int p0), .val (.int p1), .val (.int (1 : Int32)), .unset, .unset, .unset, .unset, .unset, .unset] []))
    refine ogo (fun t k => XS.iconst X34.here hx rfl (hb hby at_25) k) ?_
    show OwnEnds _ _ _ _ _ _ _ (T34.setTop (mkF m 26 #[.val (.int p0), .val (.int p1), .val (.int (1 : Int32)), .unset, .unset, .unset, .unset, .unset, .unset] [(.int (1 : Int32))]))
    refine ogo (fun t k => XS.goto X34.here hx rfl (pc0 := 26) (pc' := 30) rfl (hb hby at_26) (by decide) (by decide) k) ?_
    show OwnEnds _ _ _ _ _ _ _ (T34.setTop (mkF m 30 #[.val (.int p0), .val (.int p1), .val (.int (1 : Int32)), .unset, .unset, .unset, .unset, .unset, .unset] [(.int (1 : Int32))]))
    refine ogo (fun t k => XS.istoreN X34.here hx rfl (hb hby at_30) rfl (l' := #[.val (.int p0), .val (.int p1), .val (.int (1 : Int32)), .val (.int (1 : Int32)), .unset, .unset, .unset, .unset, .unset]) rfl k) ?_
    show OwnEnds _ _ _ _ _ _ _ (T34.setTop (mkF m 31 #[.val (.int p0), .val (.int p1), .val (.int (1 : Int32)), .val (.int (1 : Int32)), .unset, .unset, .unset, .unset, .unset] []))
    refine ogo (fun t k => XS.iloadN X34.here hx rfl (hb hby at_31) rfl k) ?_
    show OwnEnds _ _ _ _ _ _ _ (T34.setTop (mkF m 32 #[.val (.int p0), .val (.int p1), .val (.int (1 : Int32)), .val (.int (1 : Int32)), .unset, .unset, .unset, .unset, .unset] [(.int p1)]))
    refine ogo (fun t k => XS.iconst X34.here hx rfl (hb hby at_32) k) ?_
    show OwnEnds _ _ _ _ _ _ _ (T34.setTop (mkF m 33 #[.val (.int p0), .val (.int p1), .val (.int (1 : Int32)), .val (.int (1 : Int32)), .unset, .unset, .unset, .unset, .unset] [(.int (1 : Int32)), (.int p1)]))
    refine ogo (fun t k => XS.iand X34.here hx rfl (hb hby at_33) rfl k) ?_
    show OwnEnds _ _ _ _ _ _ _ (T34.setTop (mkF m 34 #[.val (.int p0), .val (.int p1), .val (.int (1 : Int32)), .val (.int (1 : Int32)), .unset, .unset, .unset, .unset, .unset] [(.int (p1 &&& (1 : Int32)))]))
    by_cases hc35 : (p1 &&& (1 : Int32)) = (0 : Int32)
    · refine ogo (fun t k => XS.ifYes X34.here hx rfl (pc0 := 34) (pc' := 41) rfl (hb hby at_34) rfl ((if0 _ _).trans (teq hc35).1) (by decide) (by decide) k) ?_
      show OwnEnds _ _ _ _ _ _ _ (T34.setTop (mkF m 41 #[.val (.int p0), .val (.int p1), .val (.int (1 : Int32)), .val (.int (1 : Int32)), .unset, .unset, .unset, .unset, .unset] []))
      refine ogo (fun t k => XS.iconst X34.here hx rfl (hb hby at_41) k) ?_
      show OwnEnds _ _ _ _ _ _ _ (T34.setTop (mkF m 42 #[.val (.int p0), .val (.int p1), .val (.int (1 : Int32)), .val (.int (1 : Int32)), .unset, .unset, .unset, .unset, .unset] [(.int (0 : Int32))]))
      refine ogo (fun t k => XS.istore X34.here hx rfl (hb hby at_42) rfl (l' := #[.val (.int p0), .val (.int p1), .val (.int (1 : Int32)), .val (.int (1 : Int32)), .val (.int (0 : Int32)), .unset, .unset, .unset, .unset]) rfl k) ?_
      show OwnEnds _ _ _ _ _ _ _ (T34.setTop (mkF m 44 #[.val (.int p0), .val (.int p1), .val (.int (1 : Int32)), .val (.int (1 : Int32)), .val (.int (0 : Int32)), .unset, .unset, .unset, .unset] []))
      refine ogo (fun t k => XS.iloadN X34.here hx rfl (hb hby at_44) rfl k) ?_
      show OwnEnds _ _ _ _ _ _ _ (T34.setTop (mkF m 45 #[.val (.int p0), .val (.int p1), .val (.int (1 : Int32)), .val (.int (1 : Int32)), .val (.int (0 : Int32)), .unset, .unset, .unset, .unset] [(.int p1)]))
      refine ogo (fun t k => XS.iconst X34.here hx rfl (hb hby at_45) k) ?_
      show OwnEnds _ _ _ _ _ _ _ (T34.setTop (mkF m 46 #[.val (.int p0), .val (.int p1), .val (.int (1 : Int32)), .val (.int (1 : Int32)), .val (.int (0 : Int32)), .unset, .unset, .unset, .unset] [(.int (2 : Int32)), (.int p1)]))
      refine ogo (fun t k => XS.iand X34.here hx rfl (hb hby at_46) rfl k) ?_
      show OwnEnds _ _ _ _ _ _ _ (T34.setTop (mkF m 47 #[.val (.int p0), .val (.int p1), .val (.int (1 : Int32)), .val (.int (1 : Int32)), .val (.int (0 : Int32)), .unset, .unset, .unset, .unset] [(.int (p1 &&& (2 : Int32)))]))
      by_cases hc36 : (p1 &&& (2 : Int32)) = (0 : Int32)
      · refine ogo (fun t k => XS.ifYes X34.here hx rfl (pc0 := 47) (pc' := 54) rfl (hb hby at_47) rfl ((if0 _ _).trans (teq hc36).1) (by decide) (by decide) k) ?_
        show OwnEnds _ _ _ _ _ _ _ (T34.setTop (mkF m 54 #[.val (.int p0), .val (.int p1), .val (.int (1 : Int32)), .val (.int (1 : Int32)), .val (.int (0 : Int32)), .unset, .unset, .unset, .unset] []))
        refine ogo (fun t k => XS.iconst X34.here hx rfl (hb hby at_54) k) ?_
        show OwnEnds _ _ _ _ _ _ _ (T34.setTop (mkF m 55 #[.val (.int p0), .val (.int p1), .val (.int (1 : Int32)), .val (.int (1 : Int32)), .val (.int (0 : Int32)), .unset, .unset, .unset, .unset] [(.int (0 : Int32))]))
        refine ogo (fun t k => XS.istore X34.here hx rfl (hb hby at_55) rfl (l' := #[.val (.int p0), .val (.int p1), .val (.int (1 : Int32)), .val (.int (1 : Int32)), .val (.int (0 : Int32)), .val (.int (0 : Int32)), .unset, .unset, .unset]) rfl k) ?_
        show OwnEnds _ _ _ _ _ _ _ (T34.setTop (mkF m 57 #[.val (.int p0), .val (.int p1), .val (.int (1 : Int32)), .val (.int (1 : Int32)), .val (.int (0 : Int32)), .val (.int (0 : Int32)), .unset, .unset, .unset] []))
        refine ogo (fun t k => XS.iloadN X34.here hx rfl (hb hby at_57) rfl k) ?_
        show OwnEnds _ _ _ _ _ _ _ (T34.setTop (mkF m 58 #[.val (.int p0), .val (.int p1), .val (.int (1 : Int32)), .val (.int (1 : Int32)), .val (.int (0 : Int32)), .val (.int (0 : Int32)), .unset, .unset, .unset] [(.int p1)]))
        refine ogo (fun t k => XS.iconst X34.here hx rfl (hb hby at_58) k) ?_
        show OwnEnds _ _ _ _ _ _ _ (T34.setTop (mkF m 59 #[.val (.int p0), .val (.int p1), .val (.int (1 : Int32)), .val (.int (1 : Int32)), .val (.int (0 : Int32)), .val (.int (0 : Int32)), .unset, .unset, .unset] [(.int (4 : Int32)), (.int p1)]))
        refine ogo (fun t k => XS.iand X34.here hx rfl (hb hby at_59) rfl k) ?_
        show OwnEnds _ _ _ _ _ _ _ (T34.setTop (mkF m 60 #[.val (.int p0), .val (.int p1), .val (.int (1 : Int32)), .val (.int (1 : Int32)), .val (.int (0 : Int32)), .val (.int (0 : Int32)), .unset, .unset, .unset] [(.int (p1 &&& (4 : Int32)))]))
        by_cases hc37 : (p1 &&& (4 : Int32)) = (0 : Int32)
        · refine ogo (fun t k => XS.ifYes X34.here hx rfl (pc0 := 60) (pc' := 69) rfl (hb hby at_60) rfl ((if0 _ _).trans (teq hc37).1) (by decide) (by decide) k) ?_
          show OwnEnds _ _ _ _ _ _ _ (T34.setTop (mkF m 69 #[.val (.int p0), .val (.int p1), .val (.int (1 : Int32)), .val (.int (1 : Int32)), .val (.int (0 : Int32)), .val (.int (0 : Int32)), .unset, .unset, .unset] []))
          obtain ⟨T38, X38, e38, st38⟩ := getS2 X34 hx hZ hown (host := "") (Or.inl (hw _ (List.mem_of_getElem? (i := 4) rfl))) Via.refl e34 S_LIST (g := (mkF m 69 #[.val (.int p0), .val (.int p1), .val (.int (1 : Int32)), .val (.int (1 : Int32)), .val (.int (0 : Int32)), .val (.int (0 : Int32)), .unset, .unset, .unset] [])) rfl (hb hby at_69)
          refine ogo st38 ?_
          show OwnEnds _ _ _ _ _ _ _ (T38.setTop (mkF m 72 #[.val (.int p0), .val (.int p1), .val (.int (1 : Int32)), .val (.int (1 : Int32)), .val (.int (0 : Int32)), .val (.int (0 : Int32)), .unset, .unset, .unset] [(.ref w_LIST)]))
          refine ogo (fun t k => XS.astore X38.here hx rfl (hb hby at_72) rfl rfl (l' := #[.val (.int p0), .val (.int p1), .val (.int (1 : Int32)), .val (.int (1 : Int32)), .val (.int (0 : Int32)), .val (.int (0 : Int32)), .val (.ref w_LIST), .unset, .unset]) rfl k) ?_
          show OwnEnds _ _ _ _ _ _ _ (T38.setTop (mkF m 74 #[.val (.int p0), .val (.int p1), .val (.int (1 : Int32)), .val (.int (1 : Int32)), .val (.int (0 : Int32)), .val (.int (0 : Int32)), .val (.ref w_LIST), .unset, .unset] []))
          refine ogo (fun t k => XS.aload X38.here hx rfl (hb hby at_74) rfl rfl k) ?_
          show OwnEnds _ _ _ _ _ _ _ (T38.setTop (mkF m 76 #[.val (.int p0), .val (.int p1), .val (.int (1 : Int32)), .val (.int (1 : Int32)), .val (.int (0 : Int32)), .val (.int (0 : Int32)), .val (.ref w_LIST), .unset, .unset] [(.ref w_LIST)]))
          refine ogo (fun t k => XS.iload X38.here hx rfl (hb hby at_76) rfl k) ?_
          show OwnEnds _ _ _ _ _ _ _ (T38.setTop (mkF m 78 #[.val (.int p0), .val (.int p1), .val (.int (1 : Int32)), .val (.int (1 : Int32)), .val (.int (0 : Int32)), .val (.int (0 : Int32)), .val (.ref w_LIST), .unset, .unset] [(.int (0 : Int32)), (.ref w_LIST)]))
          refine ogo (fun t k => XS.iload X38.here hx rfl (hb hby at_78) rfl k) ?_
          show OwnEnds _ _ _ _ _ _ _ (T38.setTop (mkF m 80 #[.val (.int p0), .val (.int p1), .val (.int (1 : Int32)), .val (.int (1 : Int32)), .val (.int (0 : Int32)), .val (.int (0 : Int32)), .val (.ref w_LIST), .unset, .unset] [(.int (0 : Int32)), (.int (0 : Int32)), (.ref w_LIST)]))
          obtain ⟨cq39, kq39, q39a, q39b, q39c⟩ := isOf hZ e38 E_LIST
          obtain ⟨v39, _, ⟨T39, L39, k39, n39⟩, -, X39, ⟨Lc39, hQ39, l39, y39, z39⟩, st39⟩ := X38.virtualBack hx (y := (⟨"com/example/tidingsd/tidingsd/model/ElementCode", "octet", "(ZZ)I"⟩ : MethodName)) (z := (⟨"com/example/tidingsd/tidingsd/model/ElementCode", "octet", "(ZZ)I"⟩ : MethodName)) hown (mvT hZ (hw _ (List.mem_of_getElem? (i := 6) rfl))) (mvT hZ (hw _ (List.mem_of_getElem? (i := 7) rfl))) (notFace_of_selects (args := #[]) (mvT hZ (hw _ (List.mem_of_getElem? (i := 9) rfl)))) (mvT hZ (hw _ (List.mem_of_getElem? (i := 9) rfl))) (mvT hZ (hw _ (List.mem_of_getElem? (i := 8) rfl))) (by decide) (backOf (W := 0) (rm4 l Z a0 hw [] w_LIST (0 : Int32) (0 : Int32) (9 : Int32) w_LIST w_PROPLIST h0 n0 Z0 S_LIST S_PROPLIST E_LIST (Or.inl rfl) F_code_LIST) hZ (hw _ (List.mem_of_getElem? (i := 10) rfl)) (hw _ (List.mem_of_getElem? (i := 2) rfl)) (by decide) (by decide)) q39a q39c (g := (mkF m 80 #[.val (.int p0), .val (.int p1), .val (.int (1 : Int32)), .val (.int (1 : Int32)), .val (.int (0 : Int32)), .val (.int (0 : Int32)), .val (.ref w_LIST), .unset, .unset] [(.int (0 : Int32)), (.int (0 : Int32)), (.ref w_LIST)])) rfl (by rw [hml]; rfl) (Steps.refl _) (argsL := [(.int (0 : Int32)), (.int (0 : Int32))]) (rest := []) (lenOf pd__ZZ_I rfl) rfl (by show 2 * 0 + _ ≤ _; exact Nat.le_of_eq rfl) (hb hby at_80) (fun _ _ => ⟨rfl, e38, (by decide : 0 + 0 ≤ _), (by decide : 0 + 0 ≤ _)⟩)
          dsimp only [Pt.U, Pt.locs, Pt.cells, Pt.slots] at X39 l39 y39 z39 st39 hQ39
          subst l39 y39 z39
          obtain ⟨hv39, N39q, e39⟩ := hQ39
          obtain rfl : v39 = some (.int (9 : Int32)) := hv39.trans (by decide)
          have N39 := Fr.app N34 N39q
          refine ogo (fun t k => st39.trans k) ?_
          show OwnEnds _ _ _ _ _ _ _ (T39.setTop (mkF m 83 #[.val (.int p0), .val (.int p1), .val (.int (1 : Int32)), .val (.int (1 : Int32)), .val (.int (0 : Int32)), .val (.int (0 : Int32)), .val (.ref w_LIST), .unset, .unset] [(.int (9 : Int32))]))
          refine ogo (fun t k => XS.istore X39.here hx rfl (hb hby at_83) rfl (l' := #[.val (.int p0), .val (.int p1), .val (.int (1 : Int32)), .val (.int (1 : Int32)), .val (.int (0 : Int32)), .val (.int (0 : Int32)), .val (.ref w_LIST), .val (.int (9 : Int32)), .unset]) rfl k) ?_
          show OwnEnds _ _ _ _ _ _ _ (T39.setTop (mkF m 85 #[.val (.int p0), .val (.int p1), .val (.int (1 : Int32)), .val (.int (1 : Int32)), .val (.int (0 : Int32)), .val (.int (0 : Int32)), .val (.ref w_LIST), .val (.int (9 : Int32)), .unset] []))
          refine ogo (fun t k => XS.iload X39.here hx rfl (hb hby at_85) rfl k) ?_
          show OwnEnds _ _ _ _ _ _ _ (T39.setTop (mkF m 87 #[.val (.int p0), .val (.int p1), .val (.int (1 : Int32)), .val (.int (1 : Int32)), .val (.int (0 : Int32)), .val (.int (0 : Int32)), .val (.ref w_LIST), .val (.int (9 : Int32)), .unset] [(.int (9 : Int32))]))
          obtain ⟨v40, _, ⟨T40, L40, k40, n40⟩, -, X40, ⟨Lc40, hQ40, l40, y40, z40⟩, st40⟩ := Jvm.LawKit.callS X39 hx (y := (⟨"com/example/tidingsd/tidingsd/model/ElementCode", "containsRef", "(I)Z"⟩ : MethodName)) hown (mvT hZ (hw _ (List.mem_of_getElem? (i := 0) rfl))) (mvT hZ (hw _ (List.mem_of_getElem? (i := 1) rfl))) (mvT hZ (hw _ (List.mem_of_getElem? (i := 2) rfl))) (mvT hZ (hw _ (List.mem_of_getElem? (i := 3) rfl))) (by decide) (backOf (W := 0) (rm1 l Z a0 hw [] (9 : Int32) h0 n0 Z0 ) hZ (hw _ (List.mem_of_getElem? (i := 3) rfl)) (hw _ (List.mem_of_getElem? (i := 2) rfl)) (by decide) (by decide)) (g := (mkF m 87 #[.val (.int p0), .val (.int p1), .val (.int (1 : Int32)), .val (.int (1 : Int32)), .val (.int (0 : Int32)), .val (.int (0 : Int32)), .val (.ref w_LIST), .val (.int (9 : Int32)), .unset] [(.int (9 : Int32))])) rfl (by rw [hml]; rfl) (argsL := [(.int (9 : Int32))]) (rest := []) (lenOf pd__I_Z rfl) rfl (by show 2 * 0 + _ ≤ _; exact Nat.le_of_eq rfl) (hb hby at_87) (fun _ _ => ⟨rfl, e39, (by decide : 0 + 0 ≤ _), (by decide : 0 + 0 ≤ _)⟩)
          dsimp only [Pt.U, Pt.locs, Pt.cells, Pt.slots] at X40 l40 y40 z40 st40 hQ40
          subst l40 y40 z40
          obtain ⟨hv40, N40q, e40⟩ := hQ40
          obtain rfl : v40 = some (.int (0 : Int32)) := hv40.trans (by decide)
          have N40 := Fr.app N39 N40q
          refine ogo (fun t k => st40 t k) ?_
          show OwnEnds _ _ _ _ _ _ _ (T40.setTop (mkF m 90 #[.val (.int p0), .val (.int p1), .val (.int (1 : Int32)), .val (.int (1 : Int32)), .val (.int (0 : Int32)), .val (.int (0 : Int32)), .val (.ref w_LIST), .val (.int (9 : Int32)), .unset] [(.int (0 : Int32))]))
          refine ogo (fun t k => XS.iload X40.here hx rfl (hb hby at_90) rfl k) ?_
          show OwnEnds _ _ _ _ _ _ _ (T40.setTop (mkF m 92 #[.val (.int p0), .val (.int p1), .val (.int (1 : Int32)), .val (.int (1 : Int32)), .val (.int (0 : Int32)), .val (.int (0 : Int32)), .val (.ref w_LIST), .val (.int (9 : Int32)), .unset] [(.int (0 : Int32)), (.int (0 : Int32))]))
          refine ogo (fun t k => XS.icmpNo X40.here hx rfl (hb hby at_92) rfl (teq (by decide : (0 : Int32) = (0 : Int32))).2 k) ?_
          show OwnEnds _ _ _ _ _ _ _ (T40.setTop (mkF m 95 #[.val (.int p0), .val (.int p1), .val (.int (1 : Int32)), .val (.int (1 : Int32)), .val (.int (0 : Int32)), .val (.int (0 : Int32)), .val (.ref w_LIST), .val (.int (9 : Int32)), .unset] []))
          refine ogo (fun t k => XS.iconst X40.here hx rfl (hb hby at_95) k) ?_
          show OwnEnds _ _ _ _ _ _ _ (T40.setTop (mkF m 96 #[.val (.int p0), .val (.int p1), .val (.int (1 : Int32)), .val (.int (1 : Int32)), .val (.int (0 : Int32)), .val (.int (0 : Int32)), .val (.ref w_LIST), .val (.int (9 : Int32)), .unset] [(.int (1 : Int32))]))
          refine ogo (fun t k => XS.goto X40.here hx rfl (pc0 := 96) (pc' := 100) rfl (hb hby at_96) (by decide) (by decide) k) ?_
          show OwnEnds _ _ _ _ _ _ _ (T40.setTop (mkF m 100 #[.val (.int p0), .val (.int p1), .val (.int (1 : Int32)), .val (.int (1 : Int32)), .val (.int (0 : Int32)), .val (.int (0 : Int32)), .val (.ref w_LIST), .val (.int (9 : Int32)), .unset] [(.int (1 : Int32))]))
          refine ogo (fun t k => XS.istore X40.here hx rfl (hb hby at_100) rfl (l' := #[.val (.int p0), .val (.int p1), .val (.int (1 : Int32)), .val (.int (1 : Int32)), .val (.int (0 : Int32)), .val (.int (0 : Int32)), .val (.ref w_LIST), .val (.int (9 : Int32)), .val (.int (1 : Int32))]) rfl k) ?_
          show OwnEnds _ _ _ _ _ _ _ (T40.setTop (mkF m 102 #[.val (.int p0), .val (.int p1), .val (.int (1 : Int32)), .val (.int (1 : Int32)), .val (.int (0 : Int32)), .val (.int (0 : Int32)), .val (.ref w_LIST), .val (.int (9 : Int32)), .val (.int (1 : Int32))] []))
          refine ogo (fun t k => XS.iloadN X40.here hx rfl (hb hby at_102) rfl k) ?_
          show OwnEnds _ _ _ _ _ _ _ (T40.setTop (mkF m 103 #[.val (.int p0), .val (.int p1), .val (.int (1 : Int32)), .val (.int (1 : Int32)), .val (.int (0 : Int32)), .val (.int (0 : Int32)), .val (.ref w_LIST), .val (.int (9 : Int32)), .val (.int (1 : Int32))] [(.int (1 : Int32))]))
          refine ogo (fun t k => XS.ifNo X40.here hx rfl (hb hby at_103) rfl ((if0 _ _).trans (feq (by decide : ¬ ((1 : Int32) = (0 : Int32)))).1) k) ?_
          show OwnEnds _ _ _ _ _ _ _ (T40.setTop (mkF m 106 #[.val (.int p0), .val (.int p1), .val (.int (1 : Int32)), .val (.int (1 : Int32)), .val (.int (0 : Int32)), .val (.int (0 : Int32)), .val (.ref w_LIST), .val (.int (9 : Int32)), .val (.int (1 : Int32))] []))
          refine ogo (fun t k => XS.iload X40.here hx rfl (hb hby at_106) rfl k) ?_
          show OwnEnds _ _ _ _ _ _ _ (T40.setTop (mkF m 108 #[.val (.int p0), .val (.int p1), .val (.int (1 : Int32)), .val (.int (1 : Int32)), .val (.int (0 : Int32)), .val (.int (0 : Int32)), .val (.ref w_LIST), .val (.int (9 : Int32)), .val (.int (1 : Int32))] [(.int (1 : Int32))]))
          refine ogo (fun t k => XS.ifNo X40.here hx rfl (hb hby at_108) rfl ((if0 _ _).trans (feq (by decide : ¬ ((1 : Int32) = (0 : Int32)))).1) k) ?_
          show OwnEnds _ _ _ _ _ _ _ (T40.setTop (mkF m 111 #[.val (.int p0), .val (.int p1), .val (.int (1 : Int32)), .val (.int (1 : Int32)), .val (.int (0 : Int32)), .val (.int (0 : Int32)), .val (.ref w_LIST), .val (.int (9 : Int32)), .val (.int (1 : Int32))] []))
          refine ogo (fun t k => XS.iconst X40.here hx rfl (hb hby at_111) k) ?_
          show OwnEnds _ _ _ _ _ _ _ (T40.setTop (mkF m 112 #[.val (.int p0), .val (.int p1), .val (.int (1 : Int32)), .val (.int (1 : Int32)), .val (.int (0 : Int32)), .val (.int (0 : Int32)), .val (.ref w_LIST), .val (.int (9 : Int32)), .val (.int (1 : Int32))] [(.int (1 : Int32))]))
          refine ogo (fun t k => XS.goto X40.here hx rfl (pc0 := 112) (pc' := 116) rfl (hb hby at_112) (by decide) (by decide) k) ?_
          show OwnEnds _ _ _ _ _ _ _ (T40.setTop (mkF m 116 #[.val (.int p0), .val (.int p1), .val (.int (1 : Int32)), .val (.int (1 : Int32)), .val (.int (0 : Int32)), .val (.int (0 : Int32)), .val (.ref w_LIST), .val (.int (9 : Int32)), .val (.int (1 : Int32))] [(.int (1 : Int32))]))
          refine endZ X40 hx hlk Bd.returns rfl (hb hby at_116) (by decide) (by decide) ?_
          show Q0 Z p0 p1 w_LIST w_PROPLIST h0 n0 _ T40.heap _
          rw [e40]
          exact ⟨rfl, N40⟩
        · refine ogo (fun t k => XS.ifNo X34.here hx rfl (hb hby at_60) rfl ((if0 _ _).trans (feq hc37).1) k) ?_
          show OwnEnds _ _ _ _ _ _ _ (T34.setTop (mkF m 63 #[.val (.int p0), .val (.int p1), .val (.int (1 : Int32)), .val (.int (1 : Int32)), .val (.int (0 : Int32)), .val (.int (0 : Int32)), .unset, .unset, .unset] []))
          obtain ⟨T41, X41, e41, st41⟩ := getS2 X34 hx hZ hown (host := "") (Or.inl (hw _ (List.mem_of_getElem? (i := 23) rfl))) Via.refl e34 S_PROPLIST (g := (mkF m 63 #[.val (.int p0), .val (.int p1), .val (.int (1 : Int32)), .val (.int (1 : Int32)), .val (.int (0 : Int32)), .val (.int (0 : Int32)), .unset, .unset, .unset] [])) rfl (hb hby at_63)
          refine ogo st41 ?_
          show OwnEnds _ _ _ _ _ _ _ (T41.setTop (mkF m 66 #[.val (.int p0), .val (.int p1), .val (.int (1 : Int32)), .val (.int (1 : Int32)), .val (.int (0 : Int32)), .val (.int (0 : Int32)), .unset, .unset, .unset] [(.ref w_PROPLIST)]))
          refine ogo (fun t k => XS.goto X41.here hx rfl (pc0 := 66) (pc' := 72) rfl (hb hby at_66) (by decide) (by decide) k) ?_
          show OwnEnds _ _ _ _ _ _ _ (T41.setTop (mkF m 72 #[.val (.int p0), .val (.int p1), .val (.int (1 : Int32)), .val (.int (1 : Int32)), .val (.int (0 : Int32)), .val (.int (0 : Int32)), .unset, .unset, .unset] [(.ref w_PROPLIST)]))
          refine ogo (fun t k => XS.astore X41.here hx rfl (hb hby at_72) rfl rfl (l' := #[.val (.int p0), .val (.int p1), .val (.int (1 : Int32)), .val (.int (1 : Int32)), .val (.int (0 : Int32)), .val (.int (0 : Int32)), .val (.ref w_PROPLIST), .unset, .unset]) rfl k) ?_
          show OwnEnds _ _ _ _ _ _ _ (T41.setTop (mkF m 74 #[.val (.int p0), .val (.int p1), .val (.int (1 : Int32)), .val (.int (1 : Int32)), .val (.int (0 : Int32)), .val (.int (0 : Int32)), .val (.ref w_PROPLIST), .unset, .unset] []))
          refine ogo (fun t k => XS.aload X41.here hx rfl (hb hby at_74) rfl rfl k) ?_
          show OwnEnds _ _ _ _ _ _ _ (T41.setTop (mkF m 76 #[.val (.int p0), .val (.int p1), .val (.int (1 : Int32)), .val (.int (1 : Int32)), .val (.int (0 : Int32)), .val (.int (0 : Int32)), .val (.ref w_PROPLIST), .unset, .unset] [(.ref w_PROPLIST)]))
          refine ogo (fun t k => XS.iload X41.here hx rfl (hb hby at_76) rfl k) ?_
          show OwnEnds _ _ _ _ _ _ _ (T41.setTop (mkF m 78 #[.val (.int p0), .val (.int p1), .val (.int (1 : Int32)), .val (.int (1 : Int32)), .val (.int (0 : Int32)), .val (.int (0 : Int32)), .val (.ref w_PROPLIST), .unset, .unset] [(.int (0 : Int32)), (.ref w_PROPLIST)]))
          refine ogo (fun t k => XS.iload X41.here hx rfl (hb hby at_78) rfl k) ?_
          show OwnEnds _ _ _ _ _ _ _ (T41.setTop (mkF m 80 #[.val (.int p0), .val (.int p1), .val (.int (1 : Int32)), .val (.int (1 : Int32)), .val (.int (0 : Int32)), .val (.int (0 : Int32)), .val (.ref w_PROPLIST), .unset, .unset] [(.int (0 : Int32)), (.int (0 : Int32)), (.ref w_PROPLIST)]))
          obtain ⟨cq42, kq42, q42a, q42b, q42c⟩ := isOf hZ e41 E_PROPLIST
          obtain ⟨v42, _, ⟨T42, L42, k42, n42⟩, -, X42, ⟨Lc42, hQ42, l42, y42, z42⟩, st42⟩ := X41.virtualBack hx (y := (⟨"com/example/tidingsd/tidingsd/model/ElementCode", "octet", "(ZZ)I"⟩ : MethodName)) (z := (⟨"com/example/tidingsd/tidingsd/model/ElementCode", "octet", "(ZZ)I"⟩ : MethodName)) hown (mvT hZ (hw _ (List.mem_of_getElem? (i := 6) rfl))) (mvT hZ (hw _ (List.mem_of_getElem? (i := 7) rfl))) (notFace_of_selects (args := #[]) (mvT hZ (hw _ (List.mem_of_getElem? (i := 9) rfl)))) (mvT hZ (hw _ (List.mem_of_getElem? (i := 9) rfl))) (mvT hZ (hw _ (List.mem_of_getElem? (i := 8) rfl))) (by decide) (backOf (W := 0) (rm4 l Z a0 hw [] w_PROPLIST (0 : Int32) (0 : Int32) (10 : Int32) w_LIST w_PROPLIST h0 n0 Z0 S_LIST S_PROPLIST E_PROPLIST (Or.inr rfl) F_code_PROPLIST) hZ (hw _ (List.mem_of_getElem? (i := 10) rfl)) (hw _ (List.mem_of_getElem? (i := 2) rfl)) (by decide) (by decide)) q42a q42c (g := (mkF m 80 #[.val (.int p0), .val (.int p1), .val (.int (1 : Int32)), .val (.int (1 : Int32)), .val (.int (0 : Int32)), .val (.int (0 : Int32)), .val (.ref w_PROPLIST), .unset, .unset] [(.int (0 : Int32)), (.int (0 : Int32)), (.ref w_PROPLIST)])) rfl (by rw [hml]; rfl) (Steps.refl _) (argsL := [(.int (0 : Int32)), (.int (0 : Int32))]) (rest := []) (lenOf pd__ZZ_I rfl) rfl (by show 2 * 0 + _ ≤ _; exact Nat.le_of_eq rfl) (hb hby at_80) (fun _ _ => ⟨rfl, e41, (by decide : 0 + 0 ≤ _), (by decide : 0 + 0 ≤ _)⟩)
          dsimp only [Pt.U, Pt.locs, Pt.cells, Pt.slots] at X42 l42 y42 z42 st42 hQ42
          subst l42 y42 z42
          obtain ⟨hv42, N42q, e42⟩ := hQ42
          obtain rfl : v42 = some (.int (10 : Int32)) := hv42.trans (by decide)
          have N42 := Fr.app N34 N42q
          refine ogo (fun t k => st42.trans k) ?_
          show OwnEnds _ _ _ _ _ _ _ (T42.setTop (mkF m 83 #[.val (.int p0), .val (.int p1), .val (.int (1 : Int32)), .val (.int (1 : Int32)), .val (.int (0 : Int32)), .val (.int (0 : Int32)), .val (.ref w_PROPLIST), .unset, .unset] [(.int (10 : Int32))]))
          refine ogo (fun t k => XS.istore X42.here hx rfl (hb hby at_83) rfl (l' := #[.val (.int p0), .val (.int p1), .val (.int (1 : Int32)), .val (.int (1 : Int32)), .val (.int (0 : Int32)), .val (.int (0 : Int32)), .val (.ref w_PROPLIST), .val (.int (10 : Int32)), .unset]) rfl k) ?_
          show OwnEnds _ _ _ _ _ _ _ (T42.setTop (mkF m 85 #[.val (.int p0), .val (.int p1), .val (.int (1 : Int32)), .val (.int (1 : Int32)), .val (.int (0 : Int32)), .val (.int (0 : Int32)), .val (.ref w_PROPLIST), .val (.int (10 : Int32)), .unset] []))
          refine ogo (fun t k => XS.iload X42.here hx rfl (hb hby at_85) rfl k) ?_
          show OwnEnds _ _ _ _ _ _ _ (T42.setTop (mkF m 87 #[.val (.int p0), .val (.int p1), .val (.int (1 : Int32)), .val (.int (1 : Int32)), .val (.int (0 : Int32)), .val (.int (0 : Int32)), .val (.ref w_PROPLIST), .val (.int (10 : Int32)), .unset] [(.int (10 : Int32))]))
          obtain ⟨v43, _, ⟨T43, L43, k43, n43⟩, -, X43, ⟨Lc43, hQ43, l43, y43, z43⟩, st43⟩ := Jvm.LawKit.callS X42 hx (y := (⟨"com/example/tidingsd/tidingsd/model/ElementCode", "containsRef", "(I)Z"⟩ : MethodName)) hown (mvT hZ (hw _ (List.mem_of_getElem? (i := 0) rfl))) (mvT hZ (hw _ (List.mem_of_getElem? (i := 1) rfl))) (mvT hZ (hw _ (List.mem_of_getElem? (i := 2) rfl))) (mvT hZ (hw _ (List.mem_of_getElem? (i := 3) rfl))) (by decide) (backOf (W := 0) (rm1 l Z a0 hw [] (10 : Int32) h0 n0 Z0 ) hZ (hw _ (List.mem_of_getElem? (i := 3) rfl)) (hw _ (List.mem_of_getElem? (i := 2) rfl)) (by decide) (by decide)) (g := (mkF m 87 #[.val (.int p0), .val (.int p1), .val (.int (1 : Int32)), .val (.int (1 : Int32)), .val (.int (0 : Int32)), .val (.int (0 : Int32)), .val (.ref w_PROPLIST), .val (.int (10 : Int32)), .unset] [(.int (10 : Int32))])) rfl (by rw [hml]; rfl) (argsL := [(.int (10 : Int32))]) (rest := []) (lenOf pd__I_Z rfl) rfl (by show 2 * 0 + _ ≤ _; exact Nat.le_of_eq rfl) (hb hby at_87) (fun _ _ => ⟨rfl, e42, (by decide : 0 + 0 ≤ _), (by decide : 0 + 0 ≤ _)⟩)
          dsimp only [Pt.U, Pt.locs, Pt.cells, Pt.slots] at X43 l43 y43 z43 st43 hQ43
          subst l43 y43 z43
          obtain ⟨hv43, N43q, e43⟩ := hQ43
          obtain rfl : v43 = some (.int (0 : Int32)) := hv43.trans (by decide)
          have N43 := Fr.app N42 N43q
          refine ogo (fun t k => st43 t k) ?_
          show OwnEnds _ _ _ _ _ _ _ (T43.setTop (mkF m 90 #[.val (.int p0), .val (.int p1), .val (.int (1 : Int32)), .val (.int (1 : Int32)), .val (.int (0 : Int32)), .val (.int (0 : Int32)), .val (.ref w_PROPLIST), .val (.int (10 : Int32)), .unset] [(.int (0 : Int32))]))
          refine ogo (fun t k => XS.iload X43.here hx rfl (hb hby at_90) rfl k) ?_
          show OwnEnds _ _ _ _ _ _ _ (T43.setTop (mkF m 92 #[.val (.int p0), .val (.int p1), .val (.int (1 : Int32)), .val (.int (1 : Int32)), .val (.int (0 : Int32)), .val (.int (0 : Int32)), .val (.ref w_PROPLIST), .val (.int (10 : Int32)), .unset] [(.int (0 : Int32)), (.int (0 : Int32))]))
          refine ogo (fun t k => XS.icmpNo X43.here hx rfl (hb hby at_92) rfl (teq (by decide : (0 : Int32) = (0 : Int32))).2 k) ?_
          show OwnEnds _ _ _ _ _ _ _ (T43.setTop (mkF m 95 #[.val (.int p0), .val (.int p1), .val (.int (1 : Int32)), .val (.int (1 : Int32)), .val (.int (0 : Int32)), .val (.int (0 : Int32)), .val (.ref w_PROPLIST), .val (.int (10 : Int32)), .unset] []))
          refine ogo (fun t k => XS.iconst X43.here hx rfl (hb hby at_95) k) ?_
          show OwnEnds _ _ _ _ _ _ _ (T43.setTop (mkF m 96 #[.val (.int p0), .val (.int p1), .val (.int (1 : Int32)), .val (.int (1 : Int32)), .val (.int (0 : Int32)), .val (.int (0 : Int32)), .val (.ref w_PROPLIST), .val (.int (10 : Int32)), .unset] [(.int (1 : Int32))]))
          refine ogo (fun t k => XS.goto X43.here hx rfl (pc0 := 96) (pc' := 100) rfl (hb hby at_96) (by decide) (by decide) k) ?_
          show OwnEnds _ _ _ _ _ _ _ (T43.setTop (mkF m 100 #[.val (.int p0), .val (.int p1), .val (.int (1 : Int32)), .val (.int (1 : Int32)), .val (.int (0 : Int32)), .val (.int (0 : Int32)), .val (.ref w_PROPLIST), .val (.int (10 : Int32)), .unset] [(.int (1 : Int32))]))
          refine ogo (fun t k => XS.istore X43.here hx rfl (hb hby at_100) rfl (l' := #[.val (.int p0), .val (.int p1), .val (.int (1 : Int32)), .val (.int (1 : Int32)), .val (.int (0 : Int32)), .val (.int (0 : Int32)), .val (.ref w_PROPLIST), .val (.int (10 : Int32)), .val (.int (1 : Int32))]) rfl k) ?_
          show OwnEnds _ _ _ _ _ _ _ (T43.setTop (mkF m 102 #[.val (.int p0), .val (.int p1), .val (.int (1 : Int32)), .val (.int (1 : Int32)), .val (.int (0 : Int32)), .val (.int (0 : Int32)), .val (.ref w_PROPLIST), .val (.int (10 : Int32)), .val (.int (1 : Int32))] []))
          refine ogo (fun t k => XS.iloadN X43.here hx rfl (hb hby at_102) rfl k) ?_
          show OwnEnds _ _ _ _ _ _ _ (T43.setTop (mkF m 103 #[.val (.int p0), .val (.int p1), .val (.int (1 : Int32)), .val (.int (1 : Int32)), .val (.int (0 : Int32)), .val (.int (0 : Int32)), .val (.ref w_PROPLIST), .val (.int (10 : Int32)), .val (.int (1 : Int32))] [(.int (1 : Int32))]))
          refine ogo (fun t k => XS.ifNo X43.here hx rfl (hb hby at_103) rfl ((if0 _ _).trans (feq (by decide : ¬ ((1 : Int32) = (0 : Int32)))).1) k) ?_
          show OwnEnds _ _ _ _ _ _ _ (T43.setTop (mkF m 106 #[.val (.int p0), .val (.int p1), .val (.int (1 : Int32)), .val (.int (1 : Int32)), .val (.int (0 : Int32)), .val (.int (0 : Int32)), .val (.ref w_PROPLIST), .val (.int (10 : Int32)), .val (.int (1 : Int32))] []))
          refine ogo (fun t k => XS.iload X43.here hx rfl (hb hby at_106) rfl k) ?_
          show OwnEnds _ _ _ _ _ _ _ (T43.setTop (mkF m 108 #[.val (.int p0), .val (.int p1), .val (.int (1 : Int32)), .val (.int (1 : Int32)), .val (.int (0 : Int32)), .val (.int (0 : Int32)), .val (.ref w_PROPLIST), .val (.int (10 : Int32)), .val (.int (1 : Int32))] [(.int (1 : Int32))]))
          refine ogo (fun t k => XS.ifNo X43.here hx rfl (hb hby at_108) rfl ((if0 _ _).trans (feq (by decide : ¬ ((1 : Int32) = (0 : Int32)))).1) k) ?_
          show OwnEnds _ _ _ _ _ _ _ (T43.setTop (mkF m 111 #[.val (.int p0), .val (.int p1), .val (.int (1 : Int32)), .val (.int (1 : Int32)), .val (.int (0 : Int32)), .val (.int (0 : Int32)), .val (.ref w_PROPLIST), .val (.int (10 : Int32)), .val (.int (1 : Int32))] []))
          refine ogo (fun t k => XS.iconst X43.here hx rfl (hb hby at_111) k) ?_
          show OwnEnds _ _ _ _ _ _ _ (T43.setTop (mkF m 112 #[.val (.int p0), .val (.int p1), .val (.int (1 : Int32)), .val (.int (1 : Int32)), .val (.int (0 : Int32)), .val (.int (0 : Int32)), .val (.ref w_PROPLIST), .val (.int (10 : Int32)), .val (.int (1 : Int32))] [(.int (1 : Int32))]))
          refine ogo (fun t k => XS.goto X43.here hx rfl (pc0 := 112) (pc' := 116) rfl (hb hby at_112) (by decide) (by decide) k) ?_
          show OwnEnds _ _ _ _ _ _ _ (T43.setTop (mkF m 116 #[.val (.int p0), .val (.int p1), .val (.int (1 : Int32)), .val (.int (1 : Int32)), .val (.int (0 : Int32)), .val (.int (0 : Int32)), .val (.ref w_PROPLIST), .val (.int (10 : Int32)), .val (.int (1 : Int32))] [(.int (1 : Int32))]))
          refine endZ X43 hx hlk Bd.returns rfl (hb hby at_116) (by decide) (by decide) ?_
          show Q0 Z p0 p1 w_LIST w_PROPLIST h0 n0 _ T43.heap _
          rw [e43]
          exact ⟨rfl, N43⟩
      · refine ogo (fun t k => XS.ifNo X34.here hx rfl (hb hby at_47) rfl ((if0 _ _).trans (feq hc36).1) k) ?_
        show OwnEnds _ _ _ _ _ _ _ (T34.setTop (mkF m 50 #[.val (.int p0), .val (.int p1), .val (.int (1 : Int32)), .val (.int (1 : Int32)), .val (.int (0 : Int32)), .unset, .unset, .unset, .unset] []))
        refine ogo (fun t k => XS.iconst X34.here hx rfl (hb hby at_50) k) ?_
        show OwnEnds _ _ _ _ _ _ _ (T34.setTop (mkF m 51 #[.val (.int p0), .val (.int p1), .val (.int (1 : Int32)), .val (.int (1 : Int32)), .val (.int (0 : Int32)), .unset, .unset, .unset, .unset] [(.int (1 : Int32))]))
        refine ogo (fun t k => XS.goto X34.here hx rfl (pc0 := 51) (pc' := 55) rfl (hb hby at_51) (by decide) (by decide) k) ?_
        show OwnEnds _ _ _ _ _ _ _ (T34.setTop (mkF m 55 #[.val (.int p0), .val (.int p1), .val (.int (1 : Int32)), .val (.int (1 : Int32)), .val (.int (0 : Int32)), .unset, .unset, .unset, .unset] [(.int (1 : Int32))]))
        refine ogo (fun t k => XS.istore X34.here hx rfl (hb hby at_55) rfl (l' := #[.val (.int p0), .val (.int p1), .val (.int (1 : Int32)), .val (.int (1 : Int32)), .val (.int (0 : Int32)), .val (.int (1 : Int32)), .unset, .unset, .unset]) rfl k) ?_
        show OwnEnds _ _ _ _ _ _ _ (T34.setTop (mkF m 57 #[.val (.int p0), .val (.int p1), .val (.int (1 : Int32)), .val (.int (1 : Int32)), .val (.int (0 : Int32)), .val (.int (1 : Int32)), .unset, .unset, .unset] []))
        refine ogo (fun t k => XS.iloadN X34.here hx rfl (hb hby at_57) rfl k) ?_
        show OwnEnds _ _ _ _ _ _ _ (T34.setTop (mkF m 58 #[.val (.int p0), .val (.int p1), .val (.int (1 : Int32)), .val (.int (1 : Int32)), .val (.int (0 : Int32)), .val (.int (1 : Int32)), .unset, .unset, .unset] [(.int p1)]))
        refine ogo (fun t k => XS.iconst X34.here hx rfl (hb hby at_58) k) ?_
        show OwnEnds _ _ _ _ _ _ _ (T34.setTop (mkF m 59 #[.val (.int p0), .val (.int p1), .val (.int (1 : Int32)), .val (.int (1 : Int32)), .val (.int (0 : Int32)), .val (.int (1 : Int32)), .unset, .unset, .unset] [(.int (4 : Int32)), (.int p1)]))
        refine ogo (fun t k => XS.iand X34.here hx rfl (hb hby at_59) rfl k) ?_
        show OwnEnds _ _ _ _ _ _ _ (T34.setTop (mkF m 60 #[.val (.int p0), .val (.int p1), .val (.int (1 : Int32)), .val (.int (1 : Int32)), .val (.int (0 : Int32)), .val (.int (1 : Int32)), .unset, .unset, .unset] [(.int (p1 &&& (4 : Int32)))]))
        by_cases hc44 : (p1 &&& (4 : Int32)) = (0 : Int32)
        · refine ogo (fun t k => XS.ifYes X34.here hx rfl (pc0 := 60) (pc' := 69) rfl (hb hby at_60) rfl ((if0 _ _).trans (teq hc44).1) (by decide) (by decide) k) ?_
          show OwnEnds _ _ _ _ _ _ _ (T34.setTop (mkF m 69 #[.val (.int p0), .val (.int p1), .val (.int (1 : Int32)), .val (.int (1 : Int32)), .val (.int (0 : Int32)), .val (.int (1 : Int32)), .unset, .unset, .unset] []))
          obtain ⟨T45, X45, e45, st45⟩ := getS2 X34 hx hZ hown (host := "") (Or.inl (hw _ (List.mem_of_getElem? (i := 4) rfl))) Via.refl e34 S_LIST (g := (mkF m 69 #[.val (.int p0), .val (.int p1), .val (.int (1 : Int32)), .val (.int (1 : Int32)), .val (.int (0 : Int32)), .val (.int (1 : Int32)), .unset, .unset, .unset] [])) rfl (hb hby at_69)
          refine ogo st45 ?_
          show OwnEnds _ _ _ _ _ _ _ (T45.setTop (mkF m 72 #[.val (.int p0), .val (.int p1), .val (.int (1 : Int32)), .val (.int (1 : Int32)), .val (.int (0 : Int32)), .val (.int (1 : Int32)), .unset, .unset, .unset] [(.ref w_LIST)]))
          refine ogo (fun t k => XS.astore X45.here hx rfl (hb hby at_72) rfl rfl (l' := #[.val (.int p0), .val (.int p1), .val (.int (1 : Int32)), .val (.int (1 : Int32)), .val (.int (0 : Int32)), .val (.int (1 : Int32)), .val (.ref w_LIST), .unset, .unset]) rfl k) ?_
          show OwnEnds _ _ _ _ _ _ _ (T45.setTop (mkF m 74 #[.val (.int p0), .val (.int p1), .val (.int (1 : Int32)), .val (.int (1 : Int32)), .val (.int (0 : Int32)), .val (.int (1 : Int32)), .val (.ref w_LIST), .unset, .unset] []))
          refine ogo (fun t k => XS.aload X45.here hx rfl (hb hby at_74) rfl rfl k) ?_
          show OwnEnds _ _ _ _ _ _ _ (T45.setTop (mkF m 76 #[.val (.int p0), .val (.int p1), .val (.int (1 : Int32)), .val (.int (1 : Int32)), .val (.int (0 : Int32)), .val (.int (1 : Int32)), .val (.ref w_LIST), .unset, .unset] [(.ref w_LIST)]))
          refine ogo (fun t k => XS.iload X45.here hx rfl (hb hby at_76) rfl k) ?_
          show OwnEnds _ _ _ _ _ _ _ (T45.setTop (mkF m 78 #[.val (.int p0), .val (.int p1), .val (.int (1 : Int32)), .val (.int (1 : Int32)), .val (.int (0 : Int32)), .val (.int (1 : Int32)), .val (.ref w_LIST), .unset, .unset] [(.int (0 : Int32)), (.ref w_LIST)]))
          refine ogo (fun t k => XS.iload X45.here hx rfl (hb hby at_78) rfl k) ?_
          show OwnEnds _ _ _ _ _ _ _ (T45.setTop (mkF m 80 #[.val (.int p0), .val (.int p1), .val (.int (1 : Int32)), .val (.int (1 : Int32)), .val (.int (0 : Int32)), .val (.int (1 : Int32)), .val (.ref w_LIST), .unset, .unset] [(.int (1 : Int32)), (.int (0 : Int32)), (.ref w_LIST)]))
          obtain ⟨cq46, kq46, q46a, q46b, q46c⟩ := isOf hZ e45 E_LIST
          obtain ⟨v46, _, ⟨T46, L46, k46, n46⟩, -, X46, ⟨Lc46, hQ46, l46, y46, z46⟩, st46⟩ := X45.virtualBack hx (y := (⟨"com/example/tidingsd/tidingsd/model/ElementCode", "octet", "(ZZ)I"⟩ : MethodName)) (z := (⟨"com/example/tidingsd/tidingsd/model/ElementCode", "octet", "(ZZ)I"⟩ : MethodName)) hown (mvT hZ (hw _ (List.mem_of_getElem? (i := 6) rfl))) (mvT hZ (hw _ (List.mem_of_getElem? (i := 7) rfl))) (notFace_of_selects (args := #[]) (mvT hZ (hw _ (List.mem_of_getElem? (i := 9) rfl)))) (mvT hZ (hw _ (List.mem_of_getElem? (i := 9) rfl))) (mvT hZ (hw _ (List.mem_of_getElem? (i := 8) rfl))) (by decide) (backOf (W := 0) (rm4 l Z a0 hw [] w_LIST (0 : Int32) (1 : Int32) (9 : Int32) w_LIST w_PROPLIST h0 n0 Z0 S_LIST S_PROPLIST E_LIST (Or.inl rfl) F_code_LIST) hZ (hw _ (List.mem_of_getElem? (i := 10) rfl)) (hw _ (List.mem_of_getElem? (i := 2) rfl)) (by decide) (by decide)) q46a q46c (g := (mkF m 80 #[.val (.int p0), .val (.int p1), .val (.int (1 : Int32)), .val (.int (1 : Int32)), .val (.int (0 : Int32)), .val (.int (1 : Int32)), .val (.ref w_LIST), .unset, .unset] [(.int (1 : Int32)), (.int (0 : Int32)), (.ref w_LIST)])) rfl (by rw [hml]; rfl) (Steps.refl _) (argsL := [(.int (0 : Int32)), (.int (1 : Int32))]) (rest := []) (lenOf pd__ZZ_I rfl) rfl (by show 2 * 0 + _ ≤ _; exact Nat.le_of_eq rfl) (hb hby at_80) (fun _ _ => ⟨rfl, e45, (by decide : 0 + 0 ≤ _), (by decide : 0 + 0 ≤ _)⟩)
          dsimp only [Pt.U, Pt.locs, Pt.cells, Pt.slots] at X46 l46 y46 z46 st46 hQ46
          subst l46 y46 z46
          obtain ⟨hv46, N46q, e46⟩ := hQ46
          obtain rfl : v46 = some (.int (137 : Int32)) := hv46.trans (by decide)
          have N46 := Fr.app N34 N46q
          refine ogo (fun t k => st46.trans k) ?_
          show OwnEnds _ _ _ _ _ _ _ (T46.setTop (mkF m 83 #[.val (.int p0), .val (.int p1), .val (.int (1 : Int32)), .val (.int (1 : Int32)), .val (.int (0 : Int32)), .val (.int (1 : Int32)), .val (.ref w_LIST), .unset, .unset] [(.int (137 : Int32))]))
          refine ogo (fun t k => XS.istore X46.here hx rfl (hb hby at_83) rfl (l' := #[.val (.int p0), .val (.int p1), .val (.int (1 : Int32)), .val (.int (1 : Int32)), .val (.int (0 : Int32)), .val (.int (1 : Int32)), .val (.ref w_LIST), .val (.int (137 : Int32)), .unset]) rfl k) ?_
          show OwnEnds _ _ _ _ _ _ _ (T46.setTop (mkF m 85 #[.val (.int p0), .val (.int p1), .val (.int (1 : Int32)), .val (.int (1 : Int32)), .val (.int (0 : Int32)), .val (.int (1 : Int32)), .val (.ref w_LIST), .val (.int (137 : Int32)), .unset] []))
          refine ogo (fun t k => XS.iload X46.here hx rfl (hb hby at_85) rfl k) ?_
          show OwnEnds _ _ _ _ _ _ _ (T46.setTop (mkF m 87 #[.val (.int p0), .val (.int p1), .val (.int (1 : Int32)), .val (.int (1 : Int32)), .val (.int (0 : Int32)), .val (.int (1 : Int32)), .val (.ref w_LIST), .val (.int (137 : Int32)), .unset] [(.int (137 : Int32))]))
          obtain ⟨v47, _, ⟨T47, L47, k47, n47⟩, -, X47, ⟨Lc47, hQ47, l47, y47, z47⟩, st47⟩ := Jvm.LawKit.callS X46 hx (y := (⟨"com/example/tidingsd/tidingsd/model/ElementCode", "containsRef", "(I)Z"⟩ : MethodName)) hown (mvT hZ (hw _ (List.mem_of_getElem? (i := 0) rfl))) (mvT hZ (hw _ (List.mem_of_getElem? (i := 1) rfl))) (mvT hZ (hw _ (List.mem_of_getElem? (i := 2) rfl))) (mvT hZ (hw _ (List.mem_of_getElem? (i := 3) rfl))) (by decide) (backOf (W := 0) (rm1 l Z a0 hw [] (137 : Int32) h0 n0 Z0 ) hZ (hw _ (List.mem_of_getElem? (i := 3) rfl)) (hw _ (List.mem_of_getElem? (i := 2) rfl)) (by decide) (by decide)) (g := (mkF m 87 #[.val (.int p0), .val (.int p1), .val (.int (1 : Int32)), .val (.int (1 : Int32)), .val (.int (0 : Int32)), .val (.int (1 : Int32)), .val (.ref w_LIST), .val (.int (137 : Int32)), .unset] [(.int (137 : Int32))])) rfl (by rw [hml]; rfl) (argsL := [(.int (137 : Int32))]) (rest := []) (lenOf pd__I_Z rfl) rfl (by show 2 * 0 + _ ≤ _; exact Nat.le_of_eq rfl) (hb hby at_87) (fun _ _ => ⟨rfl, e46, (by decide : 0 + 0 ≤ _), (by decide : 0 + 0 ≤ _)⟩)
          dsimp only [Pt.U, Pt.locs, Pt.cells, Pt.slots] at X47 l47 y47 z47 st47 hQ47
          subst l47 y47 z47
          obtain ⟨hv47, N47q, e47⟩ := hQ47
          obtain rfl : v47 = some (.int (1 : Int32)) := hv47.trans (by decide)
          have N47 := Fr.app N46 N47q
          refine ogo (fun t k => st47 t k) ?_
          show OwnEnds _ _ _ _ _ _ _ (T47.setTop (mkF m 90 #[.val (.int p0), .val (.int p1), .val (.int (1 : Int32)), .val (.int (1 : Int32)), .val (.int (0 : Int32)), .val (.int (1 : Int32)), .val (.ref w_LIST), .val (.int (137 : Int32)), .unset] [(.int (1 : Int32))]))
          refine ogo (fun t k => XS.iload X47.here hx rfl (hb hby at_90) rfl k) ?_
          show OwnEnds _ _ _ _ _ _ _ (T47.setTop (mkF m 92 #[.val (.int p0), .val (.int p1), .val (.int (1 : Int32)), .val (.int (1 : Int32)), .val (.int (0 : Int32)), .val (.int (1 : Int32)), .val (.ref w_LIST), .val (.int (137 : Int32)), .unset] [(.int (1 : Int32)), (.int (1 : Int32))]))
          refine ogo (fun t k => XS.icmpNo X47.here hx rfl (hb hby at_92) rfl (teq (by decide : (1 : Int32) = (1 : Int32))).2 k) ?_
          show OwnEnds _ _ _ _ _ _ _ (T47.setTop (mkF m 95 #[.val (.int p0), .val (.int p1), .val (.int (1 : Int32)), .val (.int (1 : Int32)), .val (.int (0 : Int32)), .val (.int (1 : Int32)), .val (.ref w_LIST), .val (.int (137 : Int32)), .unset] []))
          refine ogo (fun t k => XS.iconst X47.here hx rfl (hb hby at_95) k) ?_
          show OwnEnds _ _ _ _ _ _ _ (T47.setTop (mkF m 96 #[.val (.int p0), .val (.int p1), .val (.int (1 : Int32)), .val (.int (1 : Int32)), .val (.int (0 : Int32)), .val (.int (1 : Int32)), .val (.ref w_LIST), .val (.int (137 : Int32)), .unset] [(.int (1 : Int32))]))
          refine ogo (fun t k => XS.goto X47.here hx rfl (pc0 := 96) (pc' := 100) rfl (hb hby at_96) (by decide) (by decide) k) ?_
          show OwnEnds _ _ _ _ _ _ _ (T47.setTop (mkF m 100 #[.val (.int p0), .val (.int p1), .val (.int (1 : Int32)), .val (.int (1 : Int32)), .val (.int (0 : Int32)), .val (.int (1 : Int32)), .val (.ref w_LIST), .val (.int (137 : Int32)), .unset] [(.int (1 : Int32))]))
          refine ogo (fun t k => XS.istore X47.here hx rfl (hb hby at_100) rfl (l' := #[.val (.int p0), .val (.int p1), .val (.int (1 : Int32)), .val (.int (1 : Int32)), .val (.int (0 : Int32)), .val (.int (1 : Int32)), .val (.ref w_LIST), .val (.int (137 : Int32)), .val (.int (1 : Int32))]) rfl k) ?_
          show OwnEnds _ _ _ _ _ _ _ (T47.setTop (mkF m 102 #[.val (.int p0), .val (.int p1), .val (.int (1 : Int32)), .val (.int (1 : Int32)), .val (.int (0 : Int32)), .val (.int (1 : Int32)), .val (.ref w_LIST), .val (.int (137 : Int32)), .val (.int (1 : Int32))] []))
          refine ogo (fun t k => XS.iloadN X47.here hx rfl (hb hby at_102) rfl k) ?_
          show OwnEnds _ _ _ _ _ _ _ (T47.setTop (mkF m 103 #[.val (.int p0), .val (.int p1), .val (.int (1 : Int32)), .val (.int (1 : Int32)), .val (.int (0 : Int32)), .val (.int (1 : Int32)), .val (.ref w_LIST), .val (.int (137 : Int32)), .val (.int (1 : Int32))] [(.int (1 : Int32))]))
          refine ogo (fun t k => XS.ifNo X47.here hx rfl (hb hby at_103) rfl ((if0 _ _).trans (feq (by decide : ¬ ((1 : Int32) = (0 : Int32)))).1) k) ?_
          show OwnEnds _ _ _ _ _ _ _ (T47.setTop (mkF m 106 #[.val (.int p0), .val (.int p1), .val (.int (1 : Int32)), .val (.int (1 : Int32)), .val (.int (0 : Int32)), .val (.int (1 : Int32)), .val (.ref w_LIST), .val (.int (137 : Int32)), .val (.int (1 : Int32))] []))
          refine ogo (fun t k => XS.iload X47.here hx rfl (hb hby at_106) rfl k) ?_
          show OwnEnds _ _ _ _ _ _ _ (T47.setTop (mkF m 108 #[.val (.int p0), .val (.int p1), .val (.int (1 : Int32)), .val (.int (1 : Int32)), .val (.int (0 : Int32)), .val (.int (1 : Int32)), .val (.ref w_LIST), .val (.int (137 : Int32)), .val (.int (1 : Int32))] [(.int (1 : Int32))]))
          refine ogo (fun t k => XS.ifNo X47.here hx rfl (hb hby at_108) rfl ((if0 _ _).trans (feq (by decide : ¬ ((1 : Int32) = (0 : Int32)))).1) k) ?_
          show OwnEnds _ _ _ _ _ _ _ (T47.setTop (mkF m 111 #[.val (.int p0), .val (.int p1), .val (.int (1 : Int32)), .val (.int (1 : Int32)), .val (.int (0 : Int32)), .val (.int (1 : Int32)), .val (.ref w_LIST), .val (.int (137 : Int32)), .val (.int (1 : Int32))] []))
          refine ogo (fun t k => XS.iconst X47.here hx rfl (hb hby at_111) k) ?_
          show OwnEnds _ _ _ _ _ _ _ (T47.setTop (mkF m 112 #[.val (.int p0), .val (.int p1), .val (.int (1 : Int32)), .val (.int (1 : Int32)), .val (.int (0 : Int32)), .val (.int (1 : Int32)), .val (.ref w_LIST), .val (.int (137 : Int32)), .val (.int (1 : Int32))] [(.int (1 : Int32))]))
          refine ogo (fun t k => XS.goto X47.here hx rfl (pc0 := 112) (pc' := 116) rfl (hb hby at_112) (by decide) (by decide) k) ?_
          show OwnEnds _ _ _ _ _ _ _ (T47.setTop (mkF m 116 #[.val (.int p0), .val (.int p1), .val (.int (1 : Int32)), .val (.int (1 : Int32)), .val (.int (0 : Int32)), .val (.int (1 : Int32)), .val (.ref w_LIST), .val (.int (137 : Int32)), .val (.int (1 : Int32))] [(.int (1 : Int32))]))
          refine endZ X47 hx hlk Bd.returns rfl (hb hby at_116) (by decide) (by decide) ?_
          show Q0 Z p0 p1 w_LIST w_PROPLIST h0 n0 _ T47.heap _
          rw [e47]
          exact ⟨rfl, N47⟩
        · refine ogo (fun t k => XS.ifNo X34.here hx rfl (hb hby at_60) rfl ((if0 _ _).trans (feq hc44).1) k) ?_
          show OwnEnds _ _ _ _ _ _ _ (T34.setTop (mkF m 63 #[.val (.int p0), .val (.int p1), .val (.int (1 : Int32)), .val (.int (1 : Int32)), .val (.int (0 : Int32)), .val (.int (1 : Int32)), .unset, .unset, .unset] []))
          obtain ⟨T48, X48, e48, st48⟩ := getS2 X34 hx hZ hown (host := "") (Or.inl (hw _ (List.mem_of_getElem? (i := 23) rfl))) Via.refl e34 S_PROPLIST (g := (mkF m 63 #[.val (.int p0), .val (.int p1), .val (.int (1 : Int32)), .val (.int (1 : Int32)), .val (.int (0 : Int32)), .val (.int (1 : Int32)), .unset, .unset, .unset] [])) rfl (hb hby at_63)
          refine ogo st48 ?_
          show OwnEnds _ _ _ _ _ _ _ (T48.setTop (mkF m 66 #[.val (.int p0), .val (.int p1), .val (.int (1 : Int32)), .val (.int (1 : Int32)), .val (.int (0 : Int32)), .val (.int (1 : Int32)), .unset, .unset, .unset] [(.ref w_PROPLIST)]))
          refine ogo (fun t k => XS.goto X48.here hx rfl (pc0 := 66) (pc' := 72) rfl (hb hby at_66) (by decide) (by decide) k) ?_
          show OwnEnds _ _ _ _ _ _ _ (T48.setTop (mkF m 72 #[.val (.int p0), .val (.int p1), .val (.int (1 : Int32)), .val (.int (1 : Int32)), .val (.int (0 : Int32)), .val (.int (1 : Int32)), .unset, .unset, .unset] [(.ref w_PROPLIST)]))
          refine ogo (fun t k => XS.astore X48.here hx rfl (hb hby at_72) rfl rfl (l' := #[.val (.int p0), .val (.int p1), .val (.int (1 : Int32)), .val (.int (1 : Int32)), .val (.int (0 : Int32)), .val (.int (1 : Int32)), .val (.ref w_PROPLIST), .unset, .unset]) rfl k) ?_
          show OwnEnds _ _ _ _ _ _ _ (T48.setTop (mkF m 74 #[.val (.int p0), .val (.int p1), .val (.int (1 : Int32)), .val (.int (1 : Int32)), .val (.int (0 : Int32)), .val (.int (1 : Int32)), .val (.ref w_PROPLIST), .unset, .unset] []))
          refine ogo (fun t k => XS.aload X48.here hx rfl (hb hby at_74) rfl rfl k) ?_
          show OwnEnds _ _ _ _ _ _ _ (T48.setTop (mkF m 76 #[.val (.int p0), .val (.int p1), .val (.int (1 : Int32)), .val (.int (1 : Int32)), .val (.int (0 : Int32)), .val (.int (1 : Int32)), .val (.ref w_PROPLIST), .unset, .unset] [(.ref w_PROPLIST)]))
          refine ogo (fun t k => XS.iload X48.here hx rfl (hb hby at_76) rfl k) ?_
          show OwnEnds _ _ _ _ _ _ _ (T48.setTop (mkF m 78 #[.val (.int p0), .val (.int p1), .val (.int (1 : Int32)), .val (.int (1 : Int32)), .val (.int (0 : Int32)), .val (.int (1 : Int32)), .val (.ref w_PROPLIST), .unset, .unset] [(.int (0 : Int32)), (.ref w_PROPLIST)]))
          refine ogo (fun t k => XS.iload X48.here hx rfl (hb hby at_78) rfl k) ?_
          show OwnEnds _ _ _ _ _ _ _ (T48.setTop (mkF m 80 #[.val (.int p0), .val (.int p1), .val (.int (1 : Int32)), .val (.int (1 : Int32)), .val (.int (0 : Int32)), .val (.int (1 : Int32)), .val (.ref w_PROPLIST), .unset, .unset] [(.int (1 : Int32)), (.int (0 : Int32)), (.ref w_PROPLIST)]))
          obtain ⟨cq49, kq49, q49a, q49b, q49c⟩ := isOf hZ e48 E_PROPLIST
          obtain ⟨v49, _, ⟨T49, L49, k49, n49⟩, -, X49, ⟨Lc49, hQ49, l49, y49, z49⟩, st49⟩ := X48.virtualBack hx (y := (⟨"com/example/tidingsd/tidingsd/model/ElementCode", "octet", "(ZZ)I"⟩ : MethodName)) (z := (⟨"com/example/tidingsd/tidingsd/model/ElementCode", "octet", "(ZZ)I"⟩ : MethodName)) hown (mvT hZ (hw _ (List.mem_of_getElem? (i := 6) rfl))) (mvT hZ (hw _ (List.mem_of_getElem? (i := 7) rfl))) (notFace_of_selects (args := #[]) (mvT hZ (hw _ (List.mem_of_getElem? (i := 9) rfl)))) (mvT hZ (hw _ (List.mem_of_getElem? (i := 9) rfl))) (mvT hZ (hw _ (List.mem_of_getElem? (i := 8) rfl))) (by decide) (backOf (W := 0) (rm4 l Z a0 hw [] w_PROPLIST (0 : Int32) (1 : Int32) (10 : Int32) w_LIST w_PROPLIST h0 n0 Z0 S_LIST S_PROPLIST E_PROPLIST (Or.inr rfl) F_code_PROPLIST) hZ (hw _ (List.mem_of_getElem? (i := 10) rfl)) (hw _ (List.mem_of_getElem? (i := 2) rfl)) (by decide) (by decide)) q49a q49c (g := (mkF m 80 #[.val (.int p0), .val (.int p1), .val (.int (1 : Int32)), .val (.int (1 : Int32)), .val (.int (0 : Int32)), .val (.int (1 : Int32)), .val (.ref w_PROPLIST), .unset, .unset] [(.int (1 : Int32)), (.int (0 : Int32)), (.ref w_PROPLIST)])) rfl (by rw [hml]; rfl) (Steps.refl _) (argsL := [(.int (0 : Int32)), (.int (1 : Int32))]) (rest := []) (lenOf pd__ZZ_I rfl) rfl (by show 2 * 0 + _ ≤ _; exact Nat.le_of_eq rfl) (hb hby at_80) (fun _ _ => ⟨rfl, e48, (by decide : 0 + 0 ≤ _), (by decide : 0 + 0 ≤ _)⟩)
          dsimp only [Pt.U, Pt.locs, Pt.cells, Pt.slots] at X49 l49 y49 z49 st49 hQ49
          subst l49 y49 z49
          obtain ⟨hv49, N49q, e49⟩ := hQ49
          obtain rfl : v49 = some (.int (138 : Int32)) := hv49.trans (by decide)
          have N49 := Fr.app N34 N49q
          refine ogo (fun t k => st49.trans k) ?_
          show OwnEnds _ _ _ _ _ _ _ (T49.setTop (mkF m 83 #[.val (.int p0), .val (.int p1), .val (.int (1 : Int32)), .val (.int (1 : Int32)), .val (.int (0 : Int32)), .val (.int (1 : Int32)), .val (.ref w_PROPLIST), .unset, .unset] [(.int (138 : Int32))]))
          refine ogo (fun t k => XS.istore X49.here hx rfl (hb hby at_83) rfl (l' := #[.val (.int p0), .val (.int p1), .val (.int (1 : Int32)), .val (.int (1 : Int32)), .val (.int (0 : Int32)), .val (.int (1 : Int32)), .val (.ref w_PROPLIST), .val (.int (138 : Int32)), .unset]) rfl k) ?_
          show OwnEnds _ _ _ _ _ _ _ (T49.setTop (mkF m 85 #[.val (.int p0), .val (.int p1), .val (.int (1 : Int32)), .val (.int (1 : Int32)), .val (.int (0 : Int32)), .val (.int (1 : Int32)), .val (.ref w_PROPLIST), .val (.int (138 : Int32)), .unset] []))
          refine ogo (fun t k => XS.iload X49.here hx rfl (hb hby at_85) rfl k) ?_
          show OwnEnds _ _ _ _ _ _ _ (T49.setTop (mkF m 87 #[.val (.int p0), .val (.int p1), .val (.int (1 : Int32)), .val (.int (1 : Int32)), .val (.int (0 : Int32)), .val (.int (1 : Int32)), .val (.ref w_PROPLIST), .val (.int (138 : Int32)), .unset] [(.int (138 : Int32))]))
          obtain ⟨v50, _, ⟨T50, L50, k50, n50⟩, -, X50, ⟨Lc50, hQ50, l50, y50, z50⟩, st50⟩ := Jvm.LawKit.callS X49 hx (y := (⟨"com/example/tidingsd/tidingsd/model/ElementCode", "containsRef", "(I)Z"⟩ : MethodName)) hown (mvT hZ (hw _ (List.mem_of_getElem? (i := 0) rfl))) (mvT hZ (hw _ (List.mem_of_getElem? (i := 1) rfl))) (mvT hZ (hw _ (List.mem_of_getElem? (i := 2) rfl))) (mvT hZ (hw _ (List.mem_of_getElem? (i := 3) rfl))) (by decide) (backOf (W := 0) (rm1 l Z a0 hw [] (138 : Int32) h0 n0 Z0 ) hZ (hw _ (List.mem_of_getElem? (i := 3) rfl)) (hw _ (List.mem_of_getElem? (i := 2) rfl)) (by decide) (by decide)) (g := (mkF m 87 #[.val (.int p0), .val (.int p1), .val (.int (1 : Int32)), .val (.int (1 : Int32)), .val (.int (0 : Int32)), .val (.int (1 : Int32)), .val (.ref w_PROPLIST), .val (.int (138 : Int32)), .unset] [(.int (138 : Int32))])) rfl (by rw [hml]; rfl) (argsL := [(.int (138 : Int32))]) (rest := []) (lenOf pd__I_Z rfl) rfl (by show 2 * 0 + _ ≤ _; exact Nat.le_of_eq rfl) (hb hby at_87) (fun _ _ => ⟨rfl, e49, (by decide : 0 + 0 ≤ _), (by decide : 0 + 0 ≤ _)⟩)
          dsimp only [Pt.U, Pt.locs, Pt.cells, Pt.slots] at X50 l50 y50 z50 st50 hQ50
          subst l50 y50 z50
          obtain ⟨hv50, N50q, e50⟩ := hQ50
          obtain rfl : v50 = some (.int (1 : Int32)) := hv50.trans (by decide)
          have N50 := Fr.app N49 N50q
          refine ogo (fun t k => st50 t k) ?_
          show OwnEnds _ _ _ _ _ _ _ (T50.setTop (mkF m 90 #[.val (.int p0), .val (.int p1), .val (.int (1 : Int32)), .val (.int (1 : Int32)), .val (.int (0 : Int32)), .val (.int (1 : Int32)), .val (.ref w_PROPLIST), .val (.int (138 : Int32)), .unset] [(.int (1 : Int32))]))
          refine ogo (fun t k => XS.iload X50.here hx rfl (hb hby at_90) rfl k) ?_
          show OwnEnds _ _ _ _ _ _ _ (T50.setTop (mkF m 92 #[.val (.int p0), .val (.int p1), .val (.int (1 : Int32)), .val (.int (1 : Int32)), .val (.int (0 : Int32)), .val (.int (1 : Int32)), .val (.ref w_PROPLIST), .val (.int (138 : Int32)), .unset] [(.int (1 : Int32)), (.int (1 : Int32))]))
          refine ogo (fun t k => XS.icmpNo X50.here hx rfl (hb hby at_92) rfl (teq (by decide : (1 : Int32) = (1 : Int32))).2 k) ?_
          show OwnEnds _ _ _ _ _ _ _ (T50.setTop (mkF m 95 #[.val (.int p0), .val (.int p1), .val (.int (1 : Int32)), .val (.int (1 : Int32)), .val (.int (0 : Int32)), .val (.int (1 : Int32)), .val (.ref w_PROPLIST), .val (.int (138 : Int32)), .unset] []))
          refine ogo (fun t k => XS.iconst X50.here hx rfl (hb hby at_95) k) ?_
          show OwnEnds _ _ _ _ _ _ _ (T50.setTop (mkF m 96 #[.val (.int p0), .val (.int p1), .val (.int (1 : Int32)), .val (.int (1 : Int32)), .val (.int (0 : Int32)), .val (.int (1 : Int32)), .val (.ref w_PROPLIST), .val (.int (138 : Int32)), .unset] [(.int (1 : Int32))]))
          refine ogo (fun t k => XS.goto X50.here hx rfl (pc0 := 96) (pc' := 100) rfl (hb hby at_96) (by decide) (by decide) k) ?_
          show OwnEnds _ _ _ _ _ _ _ (T50.setTop (mkF m 100 #[.val (.int p0), .val (.int p1), .val (.int (1 : Int32)), .val (.int (1 : Int32)), .val (.int (0 : Int32)), .val (.int (1 : Int32)), .val (.ref w_PROPLIST), .val (.int (138 : Int32)), .unset] [(.int (1 : Int32))]))
          refine ogo (fun t k => XS.istore X50.here hx rfl (hb hby at_100) rfl (l' := #[.val (.int p0), .val (.int p1), .val (.int (1 : Int32)), .val (.int (1 : Int32)), .val (.int (0 : Int32)), .val (.int (1 : Int32)), .val (.ref w_PROPLIST), .val (.int (138 : Int32)), .val (.int (1 : Int32))]) rfl k) ?_
          show OwnEnds _ _ _ _ _ _ _ (T50.setTop (mkF m 102 #[.val (.int p0), .val (.int p1), .val (.int (1 : Int32)), .val (.int (1 : Int32)), .val (.int (0 : Int32)), .val (.int (1 : Int32)), .val (.ref w_PROPLIST), .val (.int (138 : Int32)), .val (.int (1 : Int32))] []))
          refine ogo (fun t k => XS.iloadN X50.here hx rfl (hb hby at_102) rfl k) ?_
          show OwnEnds _ _ _ _ _ _ _ (T50.setTop (mkF m 103 #[.val (.int p0), .val (.int p1), .val (.int (1 : Int32)), .val (.int (1 : Int32)), .val (.int (0 : Int32)), .val (.int (1 : Int32)), .val (.ref w_PROPLIST), .val (.int (138 : Int32)), .val (.int (1 : Int32))] [(.int (1 : Int32))]))
          refine ogo (fun t k => XS.ifNo X50.here hx rfl (hb hby at_103) rfl ((if0 _ _).trans (feq (by decide : ¬ ((1 : Int32) = (0 : Int32)))).1) k) ?_
          show OwnEnds _ _ _ _ _ _ _ (T50.setTop (mkF m 106 #[.val (.int p0), .val (.int p1), .val (.int (1 : Int32)), .val (.int (1 : Int32)), .val (.int (0 : Int32)), .val (.int (1 : Int32)), .val (.ref w_PROPLIST), .val (.int (138 : Int32)), .val (.int (1 : Int32))] []))
          refine ogo (fun t k => XS.iload X50.here hx rfl (hb hby at_106) rfl k) ?_
          show OwnEnds _ _ _ _ _ _ _ (T50.setTop (mkF m 108 #[.val (.int p0), .val (.int p1), .val (.int (1 : Int32)), .val (.int (1 : Int32)), .val (.int (0 : Int32)), .val (.int (1 : Int32)), .val (.ref w_PROPLIST), .val (.int (138 : Int32)), .val (.int (1 : Int32))] [(.int (1 : Int32))]))
          refine ogo (fun t k => XS.ifNo X50.here hx rfl (hb hby at_108) rfl ((if0 _ _).trans (feq (by decide : ¬ ((1 : Int32) = (0 : Int32)))).1) k) ?_
          show OwnEnds _ _ _ _ _ _ _ (T50.setTop (mkF m 111 #[.val (.int p0), .val (.int p1), .val (.int (1 : Int32)), .val (.int (1 : Int32)), .val (.int (0 : Int32)), .val (.int (1 : Int32)), .val (.ref w_PROPLIST), .val (.int (138 : Int32)), .val (.int (1 : Int32))] []))
          refine ogo (fun t k => XS.iconst X50.here hx rfl (hb hby at_111) k) ?_
          show OwnEnds _ _ _ _ _ _ _ (T50.setTop (mkF m 112 #[.val (.int p0), .val (.int p1), .val (.int (1 : Int32)), .val (.int (1 : Int32)), .val (.int (0 : Int32)), .val (.int (1 : Int32)), .val (.ref w_PROPLIST), .val (.int (138 : Int32)), .val (.int (1 : Int32))] [(.int (1 : Int32))]))
          refine ogo (fun t k => XS.goto X50.here hx rfl (pc0 := 112) (pc' := 116) rfl (hb hby at_112) (by decide) (by decide) k) ?_
          show OwnEnds _ _ _ _ _ _ _ (T50.setTop (mkF m 116 #[.val (.int p0), .val (.int p1), .val (.int (1 : Int32)), .val (.int (1 : Int32)), .val (.int (0 : Int32)), .val (.int (1 : Int32)), .val (.ref w_PROPLIST), .val (.int (138 : Int32)), .val (.int (1 : Int32))] [(.int (1 : Int32))]))
          refine endZ X50 hx hlk Bd.returns rfl (hb hby at_116) (by decide) (by decide) ?_
          show Q0 Z p0 p1 w_LIST w_PROPLIST h0 n0 _ T50.heap _
          rw [e50]
          exact ⟨rfl, N50⟩
    · refine ogo (fun t k => XS.ifNo X34.here hx rfl (hb hby at_34) rfl ((if0 _ _).trans (feq hc35).1) k) ?_
      show OwnEnds _ _ _ _ _ _ _ (T34.setTop (mkF m 37 #[.val (.int p0), .val (.int p1), .val (.int (1 : Int32)), .val (.int (1 : Int32)), .unset, .unset, .unset, .unset, .unset] []))
      refine ogo (fun t k => XS.iconst X34.here hx rfl (hb hby at_37) k) ?_
      show OwnEnds _ _ _ _ _ _ _ (T34.setTop (mkF m 38 #[.val (.int p0), .val (.int p1), .val (.int (1 : Int32)), .val (.int (1 : Int32)), .unset, .unset, .unset, .unset, .unset] [(.int (1 : Int32))]))
      refine ogo (fun t k => XS.goto X34.here hx rfl (pc0 := 38) (pc' := 42) rfl (hb hby at_38) (by decide) (by decide) k) ?_
      show OwnEnds _ _ _ _ _ _ _ (T34.setTop (mkF m 42 #[.val (.int p0), .val (.int p1), .val (.int (1 : Int32)), .val (.int (1 : Int32)), .unset, .unset, .unset, .unset, .unset] [(.int (1 : Int32))]))
      refine ogo (fun t k => XS.istore X34.here hx rfl (hb hby at_42) rfl (l' := #[.val (.int p0), .val (.int p1), .val (.int (1 : Int32)), .val (.int (1 : Int32)), .val (.int (1 : Int32)), .unset, .unset, .unset, .unset]) rfl k) ?_
      show OwnEnds _ _ _ _ _ _ _ (T34.setTop (mkF m 44 #[.val (.int p0), .val (.int p1), .val (.int (1 : Int32)), .val (.int (1 : Int32)), .val (.int (1 : Int32)), .unset, .unset, .unset, .unset] []))
      refine ogo (fun t k => XS.iloadN X34.here hx rfl (hb hby at_44) rfl k) ?_
      show OwnEnds _ _ _ _ _ _ _ (T34.setTop (mkF m 45 #[.val (.int p0), .val (.int p1), .val (.int (1 : Int32)), .val (.int (1 : Int32)), .val (.int (1 : Int32)), .unset, .unset, .unset, .unset] [(.int p1)]))
      refine ogo (fun t k => XS.iconst X34.here hx rfl (hb hby at_45) k) ?_
      show OwnEnds _ _ _ _ _ _ _ (T34.setTop (mkF m 46 #[.val (.int p0), .val (.int p1), .val (.int (1 : Int32)), .val (.int (1 : Int32)), .val (.int (1 : Int32)), .unset, .unset, .unset, .unset] [(.int (2 : Int32)), (.int p1)]))
      refine ogo (fun t k => XS.iand X34.here hx rfl (hb hby at_46) rfl k) ?_
      show OwnEnds _ _ _ _ _ _ _ (T34.setTop (mkF m 47 #[.val (.int p0), .val (.int p1), .val (.int (1 : Int32)), .val (.int (1 : Int32)), .val (.int (1 : Int32)), .unset, .unset, .unset, .unset] [(.int (p1 &&& (2 : Int32)))]))
      by_cases hc51 : (p1 &&& (2 : Int32)) = (0 : Int32)
      · refine ogo (fun t k => XS.ifYes X34.here hx rfl (pc0 := 47) (pc' := 54) rfl (hb hby at_47) rfl ((if0 _ _).trans (teq hc51).1) (by decide) (by decide) k) ?_
        show OwnEnds _ _ _ _ _ _ _ (T34.setTop (mkF m 54 #[.val (.int p0), .val (.int p1), .val (.int (1 : Int32)), .val (.int (1 : Int32)), .val (.int (1 : Int32)), .unset, .unset, .unset, .unset] []))
        refine ogo (fun t k => XS.iconst X34.here hx rfl (hb hby at_54) k) ?_
        show OwnEnds _ _ _ _ _ _ _ (T34.setTop (mkF m 55 #[.val (.int p0), .val (.int p1), .val (.int (1 : Int32)), .val (.int (1 : Int32)), .val (.int (1 : Int32)), .unset, .unset, .unset, .unset] [(.int (0 : Int32))]))
        refine ogo (fun t k => XS.istore X34.here hx rfl (hb hby at_55) rfl (l' := #[.val (.int p0), .val (.int p1), .val (.int (1 : Int32)), .val (.int (1 : Int32)), .val (.int (1 : Int32)), .val (.int (0 : Int32)), .unset, .unset, .unset]) rfl k) ?_
        show OwnEnds _ _ _ _ _ _ _ (T34.setTop (mkF m 57 #[.val (.int p0), .val (.int p1), .val (.int (1 : Int32)), .val (.int (1 : Int32)), .val (.int (1 : Int32)), .val (.int (0 : Int32)), .unset, .unset, .unset] []))
        refine ogo (fun t k => XS.iloadN X34.here hx rfl (hb hby at_57) rfl k) ?_
        show OwnEnds _ _ _ _ _ _ _ (T34.setTop (mkF m 58 #[.val (.int p0), .val (.int p1), .val (.int (1 : Int32)), .val (.int (1 : Int32)), .val (.int (1 : Int32)), .val (.int (0 : Int32)), .unset, .unset, .unset] [(.int p1)]))
        refine ogo (fun t k => XS.iconst X34.here hx rfl (hb hby at_58) k) ?_
        show OwnEnds _ _ _ _ _ _ _ (T34.setTop (mkF m 59 #[.val (.int p0), .val (.int p1), .val (.int (1 : Int32)), .val (.int (1 : Int32)), .val (.int (1 : Int32)), .val (.int (0 : Int32)), .unset, .unset, .unset] [(.int (4 : Int32)), (.int p1)]))
        refine ogo (fun t k => XS.iand X34.here hx rfl (hb hby at_59) rfl k) ?_
        show OwnEnds _ _ _ _ _ _ _ (T34.setTop (mkF m 60 #[.val (.int p0), .val (.int p1), .val (.int (1 : Int32)), .val (.int (1 : Int32)), .val (.int (1 : Int32)), .val (.int (0 : Int32)), .unset, .unset, .unset] [(.int (p1 &&& (4 : Int32)))]))
        by_cases hc52 : (p1 &&& (4 : Int32)) = (0 : Int32)
        · refine ogo (fun t k => XS.ifYes X34.here hx rfl (pc0 := 60) (pc' := 69) rfl (hb hby at_60) rfl ((if0 _ _).trans (teq hc52).1) (by decide) (by decide) k) ?_
          show OwnEnds _ _ _ _ _ _ _ (T34.setTop (mkF m 69 #[.val (.int p0), .val (.int p1), .val (.int (1 : Int32)), .val (.int (1 : Int32)), .val (.int (1 : Int32)), .val (.int (0 : Int32)), .unset, .unset, .unset] []))
          obtain ⟨T53, X53, e53, st53⟩ := getS2 X34 hx hZ hown (host := "") (Or.inl (hw _ (List.mem_of_getElem? (i := 4) rfl))) Via.refl e34 S_LIST (g := (mkF m 69 #[.val (.int p0), .val (.int p1), .val (.int (1 : Int32)), .val (.int (1 : Int32)), .val (.int (1 : Int32)), .val (.int (0 : Int32)), .unset, .unset, .unset] [])) rfl (hb hby at_69)
          refine ogo st53 ?_
          show OwnEnds _ _ _ _ _ _ _ (T53.setTop (mkF m 72 #[.val (.int p0), .val (.int p1), .val (.int (1 : Int32)), .val (.int (1 : Int32)), .val (.int (1 : Int32)), .val (.int (0 : Int32)), .unset, .unset, .unset] [(.ref w_LIST)]))
          refine ogo (fun t k => XS.astore X53.here hx rfl (hb hby at_72) rfl rfl (l' := #[.val (.int p0), .val (.int p1), .val (.int (1 : Int32)), .val (.int (1 : Int32)), .val (.int (1 : Int32)), .val (.int (0 : Int32)), .val (.ref w_LIST), .unset, .unset]) rfl k) ?_
          show OwnEnds _ _ _ _ _ _ _ (T53.setTop (mkF m 74 #[.val (.int p0), .val (.int p1), .val (.int (1 : Int32)), .val (.int (1 : Int32)), .val (.int (1 : Int32)), .val (.int (0 : Int32)), .val (.ref w_LIST), .unset, .unset] []))
          refine ogo (fun t k => XS.aload X53.here hx rfl (hb hby at_74) rfl rfl k) ?_
          show OwnEnds _ _ _ _ _ _ _ (T53.setTop (mkF m 76 #[.val (.int p0), .val (.int p1), .val (.int (1 : Int32)), .val (.int (1 : Int32)), .val (.int (1 : Int32)), .val (.int (0 : Int32)), .val (.ref w_LIST), .unset, .unset] [(.ref w_LIST)]))
          refine ogo (fun t k => XS.iload X53.here hx rfl (hb hby at_76) rfl k) ?_
          show OwnEnds _ _ _ _ _ _ _ (T53.setTop (mkF m 78 #[.val (.int p0), .val (.int p1), .val (.int (1 : Int32)), .val (.int (1 : Int32)), .val (.int (1 : Int32)), .val (.int (0 : Int32)), .val (.ref w_LIST), .unset, .unset] [(.int (1 : Int32)), (.ref w_LIST)]))
          refine ogo (fun t k => XS.iload X53.here hx rfl (hb hby at_78) rfl k) ?_
          show OwnEnds _ _ _ _ _ _ _ (T53.setTop (mkF m 80 #[.val (.int p0), .val (.int p1), .val (.int (1 : Int32)), .val (.int (1 : Int32)), .val (.int (1 : Int32)), .val (.int (0 : Int32)), .val (.ref w_LIST), .unset, .unset] [(.int (0 : Int32)), (.int (1 : Int32)), (.ref w_LIST)]))
          obtain ⟨cq54, kq54, q54a, q54b, q54c⟩ := isOf hZ e53 E_LIST
          obtain ⟨v54, _, ⟨T54, L54, k54, n54⟩, -, X54, ⟨Lc54, hQ54, l54, y54, z54⟩, st54⟩ := X53.virtualBack hx (y := (⟨"com/example/tidingsd/tidingsd/model/ElementCode", "octet", "(ZZ)I"⟩ : MethodName)) (z := (⟨"com/example/tidingsd/tidingsd/model/ElementCode", "octet", "(ZZ)I"⟩ : MethodName)) hown (mvT hZ (hw _ (List.mem_of_getElem? (i := 6) rfl))) (mvT hZ (hw _ (List.mem_of_getElem? (i := 7) rfl))) (notFace_of_selects (args := #[]) (mvT hZ (hw _ (List.mem_of_getElem? (i := 9) rfl)))) (mvT hZ (hw _ (List.mem_of_getElem? (i := 9) rfl))) (mvT hZ (hw _ (List.mem_of_getElem? (i := 8) rfl))) (by decide) (backOf (W := 0) (rm4 l Z a0 hw [] w_LIST (1 : Int32) (0 : Int32) (9 : Int32) w_LIST w_PROPLIST h0 n0 Z0 S_LIST S_PROPLIST E_LIST (Or.inl rfl) F_code_LIST) hZ (hw _ (List.mem_of_getElem? (i := 10) rfl)) (hw _ (List.mem_of_getElem? (i := 2) rfl)) (by decide) (by decide)) q54a q54c (g := (mkF m 80 #[.val (.int p0), .val (.int p1), .val (.int (1 : Int32)), .val (.int (1 : Int32)), .val (.int (1 : Int32)), .val (.int (0 : Int32)), .val (.ref w_LIST), .unset, .unset] [(.int (0 : Int32)), (.int (1 : Int32)), (.ref w_LIST)])) rfl (by rw [hml]; rfl) (Steps.refl _) (argsL := [(.int (1 : Int32)), (.int (0 : Int32))]) (rest := []) (lenOf pd__ZZ_I rfl) rfl (by show 2 * 0 + _ ≤ _; exact Nat.le_of_eq rfl) (hb hby at_80) (fun _ _ => ⟨rfl, e53, (by decide : 0 + 0 ≤ _), (by decide : 0 + 0 ≤ _)⟩)
          dsimp only [Pt.U, Pt.locs, Pt.cells, Pt.slots] at X54 l54 y54 z54 st54 hQ54
          subst l54 y54 z54
          obtain ⟨hv54, N54q, e54⟩ := hQ54
          obtain rfl : v54 = some (.int (73 : Int32)) := hv54.trans (by decide)
          have N54 := Fr.app N34 N54q
          refine ogo (fun t k => st54.trans k) ?_
          show OwnEnds _ _ _ _ _ _ _ (T54.setTop (mkF m 83 #[.val (.int p0), .val (.int p1), .val (.int (1 : Int32)), .val (.int (1 : Int32)), .val (.int (1 : Int32)), .val (.int (0 : Int32)), .val (.ref w_LIST), .unset, .unset] [(.int (73 : Int32))]))
          refine ogo (fun t k => XS.istore X54.here hx rfl (hb hby at_83) rfl (l' := #[.val (.int p0), .val (.int p1), .val (.int (1 : Int32)), .val (.int (1 : Int32)), .val (.int (1 : Int32)), .val (.int (0 : Int32)), .val (.ref w_LIST), .val (.int (73 : Int32)), .unset]) rfl k) ?_
          show OwnEnds _ _ _ _ _ _ _ (T54.setTop (mkF m 85 #[.val (.int p0), .val (.int p1), .val (.int (1 : Int32)), .val (.int (1 : Int32)), .val (.int (1 : Int32)), .val (.int (0 : Int32)), .val (.ref w_LIST), .val (.int (73 : Int32)), .unset] []))
          refine ogo (fun t k => XS.iload X54.here hx rfl (hb hby at_85) rfl k) ?_
          show OwnEnds _ _ _ _ _ _ _ (T54.setTop (mkF m 87 #[.val (.int p0), .val (.int p1), .val (.int (1 : Int32)), .val (.int (1 : Int32)), .val (.int (1 : Int32)), .val (.int (0 : Int32)), .val (.ref w_LIST), .val (.int (73 : Int32)), .unset] [(.int (73 : Int32))]))
          obtain ⟨v55, _, ⟨T55, L55, k55, n55⟩, -, X55, ⟨Lc55, hQ55, l55, y55, z55⟩, st55⟩ := Jvm.LawKit.callS X54 hx (y := (⟨"com/example/tidingsd/tidingsd/model/ElementCode", "containsRef", "(I)Z"⟩ : MethodName)) hown (mvT hZ (hw _ (List.mem_of_getElem? (i := 0) rfl))) (mvT hZ (hw _ (List.mem_of_getElem? (i := 1) rfl))) (mvT hZ (hw _ (List.mem_of_getElem? (i := 2) rfl))) (mvT hZ (hw _ (List.mem_of_getElem? (i := 3) rfl))) (by decide) (backOf (W := 0) (rm1 l Z a0 hw [] (73 : Int32) h0 n0 Z0 ) hZ (hw _ (List.mem_of_getElem? (i := 3) rfl)) (hw _ (List.mem_of_getElem? (i := 2) rfl)) (by decide) (by decide)) (g := (mkF m 87 #[.val (.int p0), .val (.int p1), .val (.int (1 : Int32)), .val (.int (1 : Int32)), .val (.int (1 : Int32)), .val (.int (0 : Int32)), .val (.ref w_LIST), .val (.int (73 : Int32)), .unset] [(.int (73 : Int32))])) rfl (by rw [hml]; rfl) (argsL := [(.int (73 : Int32))]) (rest := []) (lenOf pd__I_Z rfl) rfl (by show 2 * 0 + _ ≤ _; exact Nat.le_of_eq rfl) (hb hby at_87) (fun _ _ => ⟨rfl, e54, (by decide : 0 + 0 ≤ _), (by decide : 0 + 0 ≤ _)⟩)
          dsimp only [Pt.U, Pt.locs, Pt.cells, Pt.slots] at X55 l55 y55 z55 st55 hQ55
          subst l55 y55 z55
          obtain ⟨hv55, N55q, e55⟩ := hQ55
          obtain rfl : v55 = some (.int (0 : Int32)) := hv55.trans (by decide)
          have N55 := Fr.app N54 N55q
          refine ogo (fun t k => st55 t k) ?_
          show OwnEnds _ _ _ _ _ _ _ (T55.setTop (mkF m 90 #[.val (.int p0), .val (.int p1), .val (.int (1 : Int32)), .val (.int (1 : Int32)), .val (.int (1 : Int32)), .val (.int (0 : Int32)), .val (.ref w_LIST), .val (.int (73 : Int32)), .unset] [(.int (0 : Int32))]))
          refine ogo (fun t k => XS.iload X55.here hx rfl (hb hby at_90) rfl k) ?_
          show OwnEnds _ _ _ _ _ _ _ (T55.setTop (mkF m 92 #[.val (.int p0), .val (.int p1), .val (.int (1 : Int32)), .val (.int (1 : Int32)), .val (.int (1 : Int32)), .val (.int (0 : Int32)), .val (.ref w_LIST), .val (.int (73 : Int32)), .unset] [(.int (0 : Int32)), (.int (0 : Int32))]))
          refine ogo (fun t k => XS.icmpNo X55.here hx rfl (hb hby at_92) rfl (teq (by decide : (0 : Int32) = (0 : Int32))).2 k) ?_
          show OwnEnds _ _ _ _ _ _ _ (T55.setTop (mkF m 95 #[.val (.int p0), .val (.int p1), .val (.int (1 : Int32)), .val (.int (1 : Int32)), .val (.int (1 : Int32)), .val (.int (0 : Int32)), .val (.ref w_LIST), .val (.int (73 : Int32)), .unset] []))
          refine ogo (fun t k => XS.iconst X55.here hx rfl (hb hby at_95) k) ?_
          show OwnEnds _ _ _ _ _ _ _ (T55.setTop (mkF m 96 #[.val (.int p0), .val (.int p1), .val (.int (1 : Int32)), .val (.int (1 : Int32)), .val (.int (1 : Int32)), .val (.int (0 : Int32)), .val (.ref w_LIST), .val (.int (73 : Int32)), .unset] [(.int (1 : Int32))]))
          refine ogo (fun t k => XS.goto X55.here hx rfl (pc0 := 96) (pc' := 100) rfl (hb hby at_96) (by decide) (by decide) k) ?_
          show OwnEnds _ _ _ _ _ _ _ (T55.setTop (mkF m 100 #[.val (.int p0), .val (.int p1), .val (.int (1 : Int32)), .val (.int (1 : Int32)), .val (.int (1 : Int32)), .val (.int (0 : Int32)), .val (.ref w_LIST), .val (.int (73 : Int32)), .unset] [(.int (1 : Int32))]))
          refine ogo (fun t k => XS.istore X55.here hx rfl (hb hby at_100) rfl (l' := #[.val (.int p0), .val (.int p1), .val (.int (1 : Int32)), .val (.int (1 : Int32)), .val (.int (1 : Int32)), .val (.int (0 : Int32)), .val (.ref w_LIST), .val (.int (73 : Int32)), .val (.int (1 : Int32))]) rfl k) ?_
          show OwnEnds _ _ _ _ _ _ _ (T55.setTop (mkF m 102 #[.val (.int p0), .val (.int p1), .val (.int (1 : Int32)), .val (.int (1 : Int32)), .val (.int (1 : Int32)), .val (.int (0 : Int32)), .val (.ref w_LIST), .val (.int (73 : Int32)), .val (.int (1 : Int32))] []))
          refine ogo (fun t k => XS.iloadN X55.here hx rfl (hb hby at_102) rfl k) ?_
          show OwnEnds _ _ _ _ _ _ _ (T55.setTop (mkF m 103 #[.val (.int p0), .val (.int p1), .val (.int (1 : Int32)), .val (.int (1 : Int32)), .val (.int (1 : Int32)), .val (.int (0 : Int32)), .val (.ref w_LIST), .val (.int (73 : Int32)), .val (.int (1 : Int32))] [(.int (1 : Int32))]))
          refine ogo (fun t k => XS.ifNo X55.here hx rfl (hb hby at_103) rfl ((if0 _ _).trans (feq (by decide : ¬ ((1 : Int32) = (0 : Int32)))).1) k) ?_
          show OwnEnds _ _ _ _ _ _ _ (T55.setTop (mkF m 106 #[.val (.int p0), .val (.int p1), .val (.int (1 : Int32)), .val (.int (1 : Int32)), .val (.int (1 : Int32)), .val (.int (0 : Int32)), .val (.ref w_LIST), .val (.int (73 : Int32)), .val (.int (1 : Int32))] []))
          refine ogo (fun t k => XS.iload X55.here hx rfl (hb hby at_106) rfl k) ?_
          show OwnEnds _ _ _ _ _ _ _ (T55.setTop (mkF m 108 #[.val (.int p0), .val (.int p1), .val (.int (1 : Int32)), .val (.int (1 : Int32)), .val (.int (1 : Int32)), .val (.int (0 : Int32)), .val (.ref w_LIST), .val (.int (73 : Int32)), .val (.int (1 : Int32))] [(.int (1 : Int32))]))
          refine ogo (fun t k => XS.ifNo X55.here hx rfl (hb hby at_108) rfl ((if0 _ _).trans (feq (by decide : ¬ ((1 : Int32) = (0 : Int32)))).1) k) ?_
          show OwnEnds _ _ _ _ _ _ _ (T55.setTop (mkF m 111 #[.val (.int p0), .val (.int p1), .val (.int (1 : Int32)), .val (.int (1 : Int32)), .val (.int (1 : Int32)), .val (.int (0 : Int32)), .val (.ref w_LIST), .val (.int (73 : Int32)), .val (.int (1 : Int32))] []))
          refine ogo (fun t k => XS.iconst X55.here hx rfl (hb hby at_111) k) ?_
          show OwnEnds _ _ _ _ _ _ _ (T55.setTop (mkF m 112 #[.val (.int p0), .val (.int p1), .val (.int (1 : Int32)), .val (.int (1 : Int32)), .val (.int (1 : Int32)), .val (.int (0 : Int32)), .val (.ref w_LIST), .val (.int (73 : Int32)), .val (.int (1 : Int32))] [(.int (1 : Int32))]))
          refine ogo (fun t k => XS.goto X55.here hx rfl (pc0 := 112) (pc' := 116) rfl (hb hby at_112) (by decide) (by decide) k) ?_
          show OwnEnds _ _ _ _ _ _ _ (T55.setTop (mkF m 116 #[.val (.int p0), .val (.int p1), .val (.int (1 : Int32)), .val (.int (1 : Int32)), .val (.int (1 : Int32)), .val (.int (0 : Int32)), .val (.ref w_LIST), .val (.int (73 : Int32)), .val (.int (1 : Int32))] [(.int (1 : Int32))]))
          refine endZ X55 hx hlk Bd.returns rfl (hb hby at_116) (by decide) (by decide) ?_
          show Q0 Z p0 p1 w_LIST w_PROPLIST h0 n0 _ T55.heap _
          rw [e55]
          exact ⟨rfl, N55⟩
        · refine ogo (fun t k => XS.ifNo X34.here hx rfl (hb hby at_60) rfl ((if0 _ _).trans (feq hc52).1) k) ?_
          show OwnEnds _ _ _ _ _ _ _ (T34.setTop (mkF m 63 #[.val (.int p0), .val (.int p1), .val (.int (1 : Int32)), .val (.int (1 : Int32)), .val (.int (1 : Int32)), .val (.int (0 : Int32)), .unset, .unset, .unset] []))
          obtain ⟨T56, X56, e56, st56⟩ := getS2 X34 hx hZ hown (host := "") (Or.inl (hw _ (List.mem_of_getElem? (i := 23) rfl))) Via.refl e34 S_PROPLIST (g := (mkF m 63 #[.val (.int p0), .val (.int p1), .val (.int (1 : Int32)), .val (.int (1 : Int32)), .val (.int (1 : Int32)), .val (.int (0 : Int32)), .unset, .unset, .unset] [])) rfl (hb hby at_63)
          refine ogo st56 ?_
          show OwnEnds _ _ _ _ _ _ _ (T56.setTop (mkF m 66 #[.val (.int p0), .val (.int p1), .val (.int (1 : Int32)), .val (.int (1 : Int32)), .val (.int (1 : Int32)), .val (.int (0 : Int32)), .unset, .unset, .unset] [(.ref w_PROPLIST)]))
          refine ogo (fun t k => XS.goto X56.here hx rfl (pc0 := 66) (pc' := 72) rfl (hb hby at_66) (by decide) (by decide) k) ?_
          show OwnEnds _ _ _ _ _ _ _ (T56.setTop (mkF m 72 #[.val (.int p0), .val (.int p1), .val (.int (1 : Int32)), .val (.int (1 : Int32)), .val (.int (1 : Int32)), .val (.int (0 : Int32)), .unset, .unset, .unset] [(.ref w_PROPLIST)]))
          refine ogo (fun t k => XS.astore X56.here hx rfl (hb hby at_72) rfl rfl (l' := #[.val (.int p0), .val (.int p1), .val (.int (1 : Int32)), .val (.int (1 : Int32)), .val (.int (1 : Int32)), .val (.int (0 : Int32)), .val (.ref w_PROPLIST), .unset, .unset]) rfl k) ?_
          show OwnEnds _ _ _ _ _ _ _ (T56.setTop (mkF m 74 #[.val (.int p0), .val (.int p1), .val (.int (1 : Int32)), .val (.int (1 : Int32)), .val (.int (1 : Int32)), .val (.int (0 : Int32)), .val (.ref w_PROPLIST), .unset, .unset] []))
          refine ogo (fun t k => XS.aload X56.here hx rfl (hb hby at_74) rfl rfl k) ?_
          show OwnEnds _ _ _ _ _ _ _ (T56.setTop (mkF m 76 #[.val (.int p0), .val (.int p1), .val (.int (1 : Int32)), .val (.int (1 : Int32)), .val (.int (1 : Int32)), .val (.int (0 : Int32)), .val (.ref w_PROPLIST), .unset, .unset] [(.ref w_PROPLIST)]))
          refine ogo (fun t k => XS.iload X56.here hx rfl (hb hby at_76) rfl k) ?_
          show OwnEnds _ _ _ _ _ _ _ (T56.setTop (mkF m 78 #[.val (.int p0), .val (.int p1), .val (.int (1 : Int32)), .val (.int (1 : Int32)), .val (.int (1 : Int32)), .val (.int (0 : Int32)), .val (.ref w_PROPLIST), .unset, .unset] [(.int (1 : Int32)), (.ref w_PROPLIST)]))
          refine ogo (fun t k => XS.iload X56.here hx rfl (hb hby at_78) rfl k) ?_
          show OwnEnds _ _ _ _ _ _ _ (T56.setTop (mkF m 80 #[.val (.int p0), .val (.int p1), .val (.int (1 : Int32)), .val (.int (1 : Int32)), .val (.int (1 : Int32)), .val (.int (0 : Int32)), .val (.ref w_PROPLIST), .unset, .unset] [(.int (0 : Int32)), (.int (1 : Int32)), (.ref w_PROPLIST)]))
          obtain ⟨cq57, kq57, q57a, q57b, q57c⟩ := isOf hZ e56 E_PROPLIST
          obtain ⟨v57, _, ⟨T57, L57, k57, n57⟩, -, X57, ⟨Lc57, hQ57, l57, y57, z57⟩, st57⟩ := X56.virtualBack hx (y := (⟨"com/example/tidingsd/tidingsd/model/ElementCode", "octet", "(ZZ)I"⟩ : MethodName)) (z := (⟨"com/example/tidingsd/tidingsd/model/ElementCode", "octet", "(ZZ)I"⟩ : MethodName)) hown (mvT hZ (hw _ (List.mem_of_getElem? (i := 6) rfl))) (mvT hZ (hw _ (List.mem_of_getElem? (i := 7) rfl))) (notFace_of_selects (args := #[]) (mvT hZ (hw _ (List.mem_of_getElem? (i := 9) rfl)))) (mvT hZ (hw _ (List.mem_of_getElem? (i := 9) rfl))) (mvT hZ (hw _ (List.mem_of_getElem? (i := 8) rfl))) (by decide) (backOf (W := 0) (rm4 l Z a0 hw [] w_PROPLIST (1 : Int32) (0 : Int32) (10 : Int32) w_LIST w_PROPLIST h0 n0 Z0 S_LIST S_PROPLIST E_PROPLIST (Or.inr rfl) F_code_PROPLIST) hZ (hw _ (List.mem_of_getElem? (i := 10) rfl)) (hw _ (List.mem_of_getElem? (i := 2) rfl)) (by decide) (by decide)) q57a q57c (g := (mkF m 80 #[.val (.int p0), .val (.int p1), .val (.int (1 : Int32)), .val (.int (1 : Int32)), .val (.int (1 : Int32)), .val (.int (0 : Int32)), .val (.ref w_PROPLIST), .unset, .unset] [(.int (0 : Int32)), (.int (1 : Int32)), (.ref w_PROPLIST)])) rfl (by rw [hml]; rfl) (Steps.refl _) (argsL := [(.int (1 : Int32)), (.int (0 : Int32))]) (rest := []) (lenOf pd__ZZ_I rfl) rfl (by show 2 * 0 + _ ≤ _; exact Nat.le_of_eq rfl) (hb hby at_80) (fun _ _ => ⟨rfl, e56, (by decide : 0 + 0 ≤ _), (by decide : 0 + 0 ≤ _)⟩)
          dsimp only [Pt.U, Pt.locs, Pt.cells, Pt.slots] at X57 l57 y57 z57 st57 hQ57
          subst l57 y57 z57
          obtain ⟨hv57, N57q, e57⟩ := hQ57
          obtain rfl : v57 = some (.int (74 : Int32)) := hv57.trans (by decide)
          have N57 := Fr.app N34 N57q
          refine ogo (fun t k => st57.trans k) ?_
          show OwnEnds _ _ _ _ _ _ _ (T57.setTop (mkF m 83 #[.val (.int p0), .val (.int p1), .val (.int (1 : Int32)), .val (.int (1 : Int32)), .val (.int (1 : Int32)), .val (.int (0 : Int32)), .val (.ref w_PROPLIST), .unset, .unset] [(.int (74 : Int32))]))
          refine ogo (fun t k => XS.istore X57.here hx rfl (hb hby at_83) rfl (l' := #[.val (.int p0), .val (.int p1), .val (.int (1 : Int32)), .val (.int (1 : Int32)), .val (.int (1 : Int32)), .val (.int (0 : Int32)), .val (.ref w_PROPLIST), .val (.int (74 : Int32)), .unset]) rfl k) ?_
          show OwnEnds _ _ _ _ _ _ _ (T57.setTop (mkF m 85 #[.val (.int p0), .val (.int p1), .val (.int (1 : Int32)), .val (.int (1 : Int32)), .val (.int (1 : Int32)), .val (.int (0 : Int32)), .val (.ref w_PROPLIST), .val (.int (74 : Int32)), .unset] []))
          refine ogo (fun t k => XS.iload X57.here hx rfl (hb hby at_85) rfl k) ?_
          show OwnEnds _ _ _ _ _ _ _ (T57.setTop (mkF m 87 #[.val (.int p0), .val (.int p1), .val (.int (1 : Int32)), .val (.int (1 : Int32)), .val (.int (1 : Int32)), .val (.int (0 : Int32)), .val (.ref w_PROPLIST), .val (.int (74 : Int32)), .unset] [(.int (74 : Int32))]))
          obtain ⟨v58, _, ⟨T58, L58, k58, n58⟩, -, X58, ⟨Lc58, hQ58, l58, y58, z58⟩, st58⟩ := Jvm.LawKit.callS X57 hx (y := (⟨"com/example/tidingsd/tidingsd/model/ElementCode", "containsRef", "(I)Z"⟩ : MethodName)) hown (mvT hZ (hw _ (List.mem_of_getElem? (i := 0) rfl))) (mvT hZ (hw _ (List.mem_of_getElem? (i := 1) rfl))) (mvT hZ (hw _ (List.mem_of_getElem? (i := 2) rfl))) (mvT hZ (hw _ (List.mem_of_getElem? (i := 3) rfl))) (by decide) (backOf (W := 0) (rm1 l Z a0 hw [] (74 : Int32) h0 n0 Z0 ) hZ (hw _ (List.mem_of_getElem? (i := 3) rfl)) (hw _ (List.mem_of_getElem? (i := 2) rfl)) (by decide) (by decide)) (g := (mkF m 87 #[.val (.int p0), .val (.int p1), .val (.int (1 : Int32)), .val (.int (1 : Int32)), .val (.int (1 : Int32)), .val (.int (0 : Int32)), .val (.ref w_PROPLIST), .val (.int (74 : Int32)), .unset] [(.int (74 : Int32))])) rfl (by rw [hml]; rfl) (argsL := [(.int (74 : Int32))]) (rest := []) (lenOf pd__I_Z rfl) rfl (by show 2 * 0 + _ ≤ _; exact Nat.le_of_eq rfl) (hb hby at_87) (fun _ _ => ⟨rfl, e57, (by decide : 0 + 0 ≤ _), (by decide : 0 + 0 ≤ _)⟩)
          dsimp only [Pt.U, Pt.locs, Pt.cells, Pt.slots] at X58 l58 y58 z58 st58 hQ58
          subst l58 y58 z58
          obtain ⟨hv58, N58q, e58⟩ := hQ58
          obtain rfl : v58 = some (.int (0 : Int32)) := hv58.trans (by decide)
          have N58 := Fr.app N57 N58q
          refine ogo (fun t k => st58 t k) ?_
          show OwnEnds _ _ _ _ _ _ _ (T58.setTop (mkF m 90 #[.val (.int p0), .val (.int p1), .val (.int (1 : Int32)), .val (.int (1 : Int32)), .val (.int (1 : Int32)), .val (.int (0 : Int32)), .val (.ref w_PROPLIST), .val (.int (74 : Int32)), .unset] [(.int (0 : Int32))]))
          refine ogo (fun t k => XS.iload X58.here hx rfl (hb hby at_90) rfl k) ?_
          show OwnEnds _ _ _ _ _ _ _ (T58.setTop (mkF m 92 #[.val (.int p0), .val (.int p1), .val (.int (1 : Int32)), .val (.int (1 : Int32)), .val (.int (1 : Int32)), .val (.int (0 : Int32)), .val (.ref w_PROPLIST), .val (.int (74 : Int32)), .unset] [(.int (0 : Int32)), (.int (0 : Int32))]))
          refine ogo (fun t k => XS.icmpNo X58.here hx rfl (hb hby at_92) rfl (teq (by decide : (0 : Int32) = (0 : Int32))).2 k) ?_
          show OwnEnds _ _ _ _ _ _ _ (T58.setTop (mkF m 95 #[.val (.int p0), .val (.int p1), .val (.int (1 : Int32)), .val (.int (1 : Int32)), .val (.int (1 : Int32)), .val (.int (0 : Int32)), .val (.ref w_PROPLIST), .val (.int (74 : Int32)), .unset] []))
          refine ogo (fun t k => XS.iconst X58.here hx rfl (hb hby at_95) k) ?_
          show OwnEnds _ _ _ _ _ _ _ (T58.setTop (mkF m 96 #[.val (.int p0), .val (.int p1), .val (.int (1 : Int32)), .val (.int (1 : Int32)), .val (.int (1 : Int32)), .val (.int (0 : Int32)), .val (.ref w_PROPLIST), .val (.int (74 : Int32)), .unset] [(.int (1 : Int32))]))
          refine ogo (fun t k => XS.goto X58.here hx rfl (pc0 := 96) (pc' := 100) rfl (hb hby at_96) (by decide) (by decide) k) ?_
          show OwnEnds _ _ _ _ _ _ _ (T58.setTop (mkF m 100 #[.val (.int p0), .val (.int p1), .val (.int (1 : Int32)), .val (.int (1 : Int32)), .val (.int (1 : Int32)), .val (.int (0 : Int32)), .val (.ref w_PROPLIST), .val (.int (74 : Int32)), .unset] [(.int (1 : Int32))]))
          refine ogo (fun t k => XS.istore X58.here hx rfl (hb hby at_100) rfl (l' := #[.val (.int p0), .val (.int p1), .val (.int (1 : Int32)), .val (.int (1 : Int32)), .val (.int (1 : Int32)), .val (.int (0 : Int32)), .val (.ref w_PROPLIST), .val (.int (74 : Int32)), .val (.int (1 : Int32))]) rfl k) ?_
          show OwnEnds _ _ _ _ _ _ _ (T58.setTop (mkF m 102 #[.val (.int p0), .val (.int p1), .val (.int (1 : Int32)), .val (.int (1 : Int32)), .val (.int (1 : Int32)), .val (.int (0 : Int32)), .val (.ref w_PROPLIST), .val (.int (74 : Int32)), .val (.int (1 : Int32))] []))
          refine ogo (fun t k => XS.iloadN X58.here hx rfl (hb hby at_102) rfl k) ?_
          show OwnEnds _ _ _ _ _ _ _ (T58.setTop (mkF m 103 #[.val (.int p0), .val (.int p1), .val (.int (1 : Int32)), .val (.int (1 : Int32)), .val (.int (1 : Int32)), .val (.int (0 : Int32)), .val (.ref w_PROPLIST), .val (.int (74 : Int32)), .val (.int (1 : Int32))] [(.int (1 : Int32))]))
          refine ogo (fun t k => XS.ifNo X58.here hx rfl (hb hby at_103) rfl ((if0 _ _).trans (feq (by decide : ¬ ((1 : Int32) = (0 : Int32)))).1) k) ?_
          show OwnEnds _ _ _ _ _ _ _ (T58.setTop (mkF m 106 #[.val (.int p0), .val (.int p1), .val (.int (1 : Int32)), .val (.int (1 : Int32)), .val (.int (1 : Int32)), .val (.int (0 : Int32)), .val (.ref w_PROPLIST), .val (.int (74 : Int32)), .val (.int (1 : Int32))] []))
          refine ogo (fun t k => XS.iload X58.here hx rfl (hb hby at_106) rfl k) ?_
          show OwnEnds _ _ _ _ _ _ _ (T58.setTop (mkF m 108 #[.val (.int p0), .val (.int p1), .val (.int (1 : Int32)), .val (.int (1 : Int32)), .val (.int (1 : Int32)), .val (.int (0 : Int32)), .val (.ref w_PROPLIST), .val (.int (74 : Int32)), .val (.int (1 : Int32))] [(.int (1 : Int32))]))
          refine ogo (fun t k => XS.ifNo X58.here hx rfl (hb hby at_108) rfl ((if0 _ _).trans (feq (by decide : ¬ ((1 : Int32) = (0 : Int32)))).1) k) ?_
          show OwnEnds _ _ _ _ _ _ _ (T58.setTop (mkF m 111 #[.val (.int p0), .val (.int p1), .val (.int (1 : Int32)), .val (.int (1 : Int32)), .val (.int (1 : Int32)), .val (.int (0 : Int32)), .val (.ref w_PROPLIST), .val (.int (74 : Int32)), .val (.int (1 : Int32))] []))
          refine ogo (fun t k => XS.iconst X58.here hx rfl (hb hby at_111) k) ?_
          show OwnEnds _ _ _ _ _ _ _ (T58.setTop (mkF m 112 #[.val (.int p0), .val (.int p1), .val (.int (1 : Int32)), .val (.int (1 : Int32)), .val (.int (1 : Int32)), .val (.int (0 : Int32)), .val (.ref w_PROPLIST), .val (.int (74 : Int32)), .val (.int (1 : Int32))] [(.int (1 : Int32))]))
          refine ogo (fun t k => XS.goto X58.here hx rfl (pc0 := 112) (pc' := 116) rfl (hb hby at_112) (by decide) (by decide) k) ?_
          show OwnEnds _ _ _ _ _ _ _ (T58.setTop (mkF m 116 #[.val (.int p0), .val (.int p1), .val (.int (1 : Int32)), .val (.int (1 : Int32)), .val (.int (1 : Int32)), .val (.int (0 : Int32)), .val (.ref w_PROPLIST), .val (.int (74 : Int32)), .val (.int (1 : Int32))] [(.int (1 : Int32))]))
          refine endZ X58 hx hlk Bd.returns rfl (hb hby at_116) (by decide) (by decide) ?_
          show Q0 Z p0 p1 w_LIST w_PROPLIST h0 n0 _ T58.heap _
          rw [e58]
          exact ⟨rfl, N58⟩
      · refine ogo (fun t k => XS.ifNo X34.here hx rfl (hb hby at_47) rfl ((if0 _ _).trans (feq hc51).1) k) ?_
        show OwnEnds _ _ _ _ _ _ _ (T34.setTop (mkF m 50 #[.val (.int p0), .val (.int p1), .val (.int (1 : Int32)), .val (.int (1 : Int32)), .val (.int (1 : Int32)), .unset, .unset, .unset, .unset] []))
        refine ogo (fun t k => XS.iconst X34.here hx rfl (hb hby at_50) k) ?_
        show OwnEnds _ _ _ _ _ _ _ (T34.setTop (mkF m 51 #[.val (.int p0), .val (.int p1), .val (.int (1 : Int32)), .val (.int (1 : Int32)), .val (.int (1 : Int32)), .unset, .unset, .unset, .unset] [(.int (1 : Int32))]))
        refine ogo (fun t k => XS.goto X34.here hx rfl (pc0 := 51) (pc' := 55) rfl (hb hby at_51) (by decide) (by decide) k) ?_
        show OwnEnds _ _ _ _ _ _ _ (T34.setTop (mkF m 55 #[.val (.int p0), .val (.int p1), .val (.int (1 : Int32)), .val (.int (1 : Int32)), .val (.int (1 : Int32)), .unset, .unset, .unset, .unset] [(.int (1 : Int32))]))
        refine ogo (fun t k => XS.istore X34.here hx rfl (hb hby at_55) rfl (l' := #[.val (.int p0), .val (.int p1), .val (.int (1 : Int32)), .val (.int (1 : Int32)), .val (.int (1 : Int32)), .val (.int (1 : Int32)), .unset, .unset, .unset]) rfl k) ?_
        show OwnEnds _ _ _ _ _ _ _ (T34.setTop (mkF m 57 #[.val (.int p0), .val (.int p1), .val (.int (1 : Int32)), .val (.int (1 : Int32)), .val (.int (1 : Int32)), .val (.int (1 : Int32)), .unset, .unset, .unset] []))
        refine ogo (fun t k => XS.iloadN X34.here hx rfl (hb hby at_57) rfl k) ?_
        show OwnEnds _ _ _ _ _ _ _ (T34.setTop (mkF m 58 #[.val (.int p0), .val (.int p1), .val (.int (1 : Int32)), .val (.int (1 : Int32)), .val (.int (1 : Int32)), .val (.int (1 : Int32)), .unset, .unset, .unset] [(.int p1)]))
        refine ogo (fun t k => XS.iconst X34.here hx rfl (hb hby at_58) k) ?_
        show OwnEnds _ _ _ _ _ _ _ (T34.setTop (mkF m 59 #[.val (.int p0), .val (.int p1), .val (.int (1 : Int32)), .val (.int (1 : Int32)), .val (.int (1 : Int32)), .val (.int (1 : Int32)), .unset, .unset, .unset] [(.int (4 : Int32)), (.int p1)]))
        refine ogo (fun t k => XS.iand X34.here hx rfl (hb hby at_59) rfl k) ?_
        show OwnEnds _ _ _ _ _ _ _ (T34.setTop (mkF m 60 #[.val (.int p0), .val (.int p1), .val (.int (1 : Int32)), .val (.int (1 : Int32)), .val (.int (1 : Int32)), .val (.int (1 : Int32)), .unset, .unset, .unset] [(.int (p1 &&& (4 : Int32)))]))
        by_cases hc59 : (p1 &&& (4 : Int32)) = (0 : Int32)
        · refine ogo (fun t k => XS.ifYes X34.here hx rfl (pc0 := 60) (pc' := 69) rfl (hb hby at_60) rfl ((if0 _ _).trans (teq hc59).1) (by decide) (by decide) k) ?_
          show OwnEnds _ _ _ _ _ _ _ (T34.setTop (mkF m 69 #[.val (.int p0), .val (.int p1), .val (.int (1 : Int32)), .val (.int (1 : Int32)), .val (.int (1 : Int32)), .val (.int (1 : Int32)), .unset, .unset, .unset] []))
          obtain ⟨T60, X60, e60, st60⟩ := getS2 X34 hx hZ hown (host := "") (Or.inl (hw _ (List.mem_of_getElem? (i := 4) rfl))) Via.refl e34 S_LIST (g := (mkF m 69 #[.val (.int p0), .val (.int p1), .val (.int (1 : Int32)), .val (.int (1 : Int32)), .val (.int (1 : Int32)), .val (.int (1 : Int32)), .unset, .unset, .unset] [])) rfl (hb hby at_69)
          refine ogo st60 ?_
          show OwnEnds _ _ _ _ _ _ _ (T60.setTop (mkF m 72 #[.val (.int p0), .val (.int p1), .val (.int (1 : Int32)), .val (.int (1 : Int32)), .val (.int (1 : Int32)), .val (.int (1 : Int32)), .unset, .unset, .unset] [(.ref w_LIST)]))
          refine ogo (fun t k => XS.astore X60.here hx rfl (hb hby at_72) rfl rfl (l' := #[.val (.int p0), .val (.int p1), .val (.int (1 : Int32)), .val (.int (1 : Int32)), .val (.int (1 : Int32)), .val (.int (1 : Int32)), .val (.ref w_LIST), .unset, .unset]) rfl k) ?_
          show OwnEnds _ _ _ _ _ _ _ (T60.setTop (mkF m 74 #[.val (.int p0), .val (.int p1), .val (.int (1 : Int32)), .val (.int (1 : Int32)), .val (.int (1 : Int32)), .val (.int (1 : Int32)), .val (.ref w_LIST), .unset, .unset] []))
          refine ogo (fun t k => XS.aload X60.here hx rfl (hb hby at_74) rfl rfl k) ?_
          show OwnEnds _ _ _ _ _ _ _ (T60.setTop (mkF m 76 #[.val (.int p0), .val (.int p1), .val (.int (1 : Int32)), .val (.int (1 : Int32)), .val (.int (1 : Int32)), .val (.int (1 : Int32)), .val (.ref w_LIST), .unset, .unset] [(.ref w_LIST)]))
          refine ogo (fun t k => XS.iload X60.here hx rfl (hb hby at_76) rfl k) ?_
          show OwnEnds _ _ _ _ _ _ _ (T60.setTop (mkF m 78 #[.val (.int p0), .val (.int p1), .val (.int (1 : Int32)), .val (.int (1 : Int32)), .val (.int (1 : Int32)), .val (.int (1 : Int32)), .val (.ref w_LIST), .unset, .unset] [(.int (1 : Int32)), (.ref w_LIST)]))
          refine ogo (fun t k => XS.iload X60.here hx rfl (hb hby at_78) rfl k) ?_
          show OwnEnds _ _ _ _ _ _ _ (T60.setTop (mkF m 80 #[.val (.int p0), .val (.int p1), .val (.int (1 : Int32)), .val (.int (1 : Int32)), .val (.int (1 : Int32)), .val (.int (1 : Int32)), .val (.ref w_LIST), .unset, .unset] [(.int (1 : Int32)), (.int (1 : Int32)), (.ref w_LIST)]))
          obtain ⟨cq61, kq61, q61a, q61b, q61c⟩ := isOf hZ e60 E_LIST
          obtain ⟨v61, _, ⟨T61, L61, k61, n61⟩, -, X61, ⟨Lc61, hQ61, l61, y61, z61⟩, st61⟩ := X60.virtualBack hx (y := (⟨"com/example/tidingsd/tidingsd/model/ElementCode", "octet", "(ZZ)I"⟩ : MethodName)) (z := (⟨"com/example/tidingsd/tidingsd/model/ElementCode", "octet", "(ZZ)I"⟩ : MethodName)) hown (mvT hZ (hw _ (List.mem_of_getElem? (i := 6) rfl))) (mvT hZ (hw _ (List.mem_of_getElem? (i := 7) rfl))) (notFace_of_selects (args := #[]) (mvT hZ (hw _ (List.mem_of_getElem? (i := 9) rfl)))) (mvT hZ (hw _ (List.mem_of_getElem? (i := 9) rfl))) (mvT hZ (hw _ (List.mem_of_getElem? (i := 8) rfl))) (by decide) (backOf (W := 0) (rm4 l Z a0 hw [] w_LIST (1 : Int32) (1 : Int32) (9 : Int32) w_LIST w_PROPLIST h0 n0 Z0 S_LIST S_PROPLIST E_LIST (Or.inl rfl) F_code_LIST) hZ (hw _ (List.mem_of_getElem? (i := 10) rfl)) (hw _ (List.mem_of_getElem? (i := 2) rfl)) (by decide) (by decide)) q61a q61c (g := (mkF m 80 #[.val (.int p0), .val (.int p1), .val (.int (1 : Int32)), .val (.int (1 : Int32)), .val (.int (1 : Int32)), .val (.int (1 : Int32)), .val (.ref w_LIST), .unset, .unset] [(.int (1 : Int32)), (.int (1 : Int32)), (.ref w_LIST)])) rfl (by rw [hml]; rfl) (Steps.refl _) (argsL := [(.int (1 : Int32)), (.int (1 : Int32))]) (rest := []) (lenOf pd__ZZ_I rfl) rfl (by show 2 * 0 + _ ≤ _; exact Nat.le_of_eq rfl) (hb hby at_80) (fun _ _ => ⟨rfl, e60, (by decide : 0 + 0 ≤ _), (by decide : 0 + 0 ≤ _)⟩)
          dsimp only [Pt.U, Pt.locs, Pt.cells, Pt.slots] at X61 l61 y61 z61 st61 hQ61
          subst l61 y61 z61
          obtain ⟨hv61, N61q, e61⟩ := hQ61
          obtain rfl : v61 = some (.int (201 : Int32)) := hv61.trans (by decide)
          have N61 := Fr.app N34 N61q
          refine ogo (fun t k => st61.trans k) ?_
          show OwnEnds _ _ _ _ _ _ _ (T61.setTop (mkF m 83 #[.val (.int p0), .val (.int p1), .val (.int (1 : Int32)), .val (.int (1 : Int32)), .val (.int (1 : Int32)), .val (.int (1 : Int32)), .val (.ref w_LIST), .unset, .unset] [(.int (201 : Int32))]))
          refine ogo (fun t k => XS.istore X61.here hx rfl (hb hby at_83) rfl (l' := #[.val (.int p0), .val (.int p1), .val (.int (1 : Int32)), .val (.int (1 : Int32)), .val (.int (1 : Int32)), .val (.int (1 : Int32)), .val (.ref w_LIST), .val (.int (201 : Int32)), .unset]) rfl k) ?_
          show OwnEnds _ _ _ _ _ _ _ (T61.setTop (mkF m 85 #[.val (.int p0), .val (.int p1), .val (.int (1 : Int32)), .val (.int (1 : Int32)), .val (.int (1 : Int32)), .val (.int (1 : Int32)), .val (.ref w_LIST), .val (.int (201 : Int32)), .unset] []))
          refine ogo (fun t k => XS.iload X61.here hx rfl (hb hby at_85) rfl k) ?_
          show OwnEnds _ _ _ _ _ _ _ (T61.setTop (mkF m 87 #[.val (.int p0), .val (.int p1), .val (.int (1 : Int32)), .val (.int (1 : Int32)), .val (.int (1 : Int32)), .val (.int (1 : Int32)), .val (.ref w_LIST), .val (.int (201 : Int32)), .unset] [(.int (201 : Int32))]))
          obtain ⟨v62, _, ⟨T62, L62, k62, n62⟩, -, X62, ⟨Lc62, hQ62, l62, y62, z62⟩, st62⟩ := Jvm.LawKit.callS X61 hx (y := (⟨"com/example/tidingsd/tidingsd/model/ElementCode", "containsRef", "(I)Z"⟩ : MethodName)) hown (mvT hZ (hw _ (List.mem_of_getElem? (i := 0) rfl))) (mvT hZ (hw _ (List.mem_of_getElem? (i := 1) rfl))) (mvT hZ (hw _ (List.mem_of_getElem? (i := 2) rfl))) (mvT hZ (hw _ (List.mem_of_getElem? (i := 3) rfl))) (by decide) (backOf (W := 0) (rm1 l Z a0 hw [] (201 : Int32) h0 n0 Z0 ) hZ (hw _ (List.mem_of_getElem? (i := 3) rfl)) (hw _ (List.mem_of_getElem? (i := 2) rfl)) (by decide) (by decide)) (g := (mkF m 87 #[.val (.int p0), .val (.int p1), .val (.int (1 : Int32)), .val (.int (1 : Int32)), .val (.int (1 : Int32)), .val (.int (1 : Int32)), .val (.ref w_LIST), .val (.int (201 : Int32)), .unset] [(.int (201 : Int32))])) rfl (by rw [hml]; rfl) (argsL := [(.int (201 : Int32))]) (rest := []) (lenOf pd__I_Z rfl) rfl (by show 2 * 0 + _ ≤ _; exact Nat.le_of_eq rfl) (hb hby at_87) (fun _ _ => ⟨rfl, e61, (by decide : 0 + 0 ≤ _), (by decide : 0 + 0 ≤ _)⟩)
          dsimp only [Pt.U, Pt.locs, Pt.cells, Pt.slots] at X62 l62 y62 z62 st62 hQ62
          subst l62 y62 z62
          obtain ⟨hv62, N62q, e62⟩ := hQ62
          obtain rfl : v62 = some (.int (1 : Int32)) := hv62.trans (by decide)
          have N62 := Fr.app N61 N62q
          refine ogo (fun t k => st62 t k) ?_
          show OwnEnds _ _ _ _ _ _ _ (T62.setTop (mkF m 90 #[.val (.int p0), .val (.int p1), .val (.int (1 : Int32)), .val (.int (1 : Int32)), .val (.int (1 : Int32)), .val (.int (1 : Int32)), .val (.ref w_LIST), .val (.int (201 : Int32)), .unset] [(.int (1 : Int32))]))
          refine ogo (fun t k => XS.iload X62.here hx rfl (hb hby at_90) rfl k) ?_
          show OwnEnds _ _ _ _ _ _ _ (T62.setTop (mkF m 92 #[.val (.int p0), .val (.int p1), .val (.int (1 : Int32)), .val (.int (1 : Int32)), .val (.int (1 : Int32)), .val (.int (1 : Int32)), .val (.ref w_LIST), .val (.int (201 : Int32)), .unset] [(.int (1 : Int32)), (.int (1 : Int32))]))
          refine ogo (fun t k => XS.icmpNo X62.here hx rfl (hb hby at_92) rfl (teq (by decide : (1 : Int32) = (1 : Int32))).2 k) ?_
          show OwnEnds _ _ _ _ _ _ _ (T62.setTop (mkF m 95 #[.val (.int p0), .val (.int p1), .val (.int (1 : Int32)), .val (.int (1 : Int32)), .val (.int (1 : Int32)), .val (.int (1 : Int32)), .val (.ref w_LIST), .val (.int (201 : Int32)), .unset] []))
          refine ogo (fun t k => XS.iconst X62.here hx rfl (hb hby at_95) k) ?_
          show OwnEnds _ _ _ _ _ _ _ (T62.setTop (mkF m 96 #[.val (.int p0), .val (.int p1), .val (.int (1 : Int32)), .val (.int (1 : Int32)), .val (.int (1 : Int32)), .val (.int (1 : Int32)), .val (.ref w_LIST), .val (.int (201 : Int32)), .unset] [(.int (1 : Int32))]))
          refine ogo (fun t k => XS.goto X62.here hx rfl (pc0 := 96) (pc' := 100) rfl (hb hby at_96) (by decide) (by decide) k) ?_
          show OwnEnds _ _ _ _ _ _ _ (T62.setTop (mkF m 100 #[.val (.int p0), .val (.int p1), .val (.int (1 : Int32)), .val (.int (1 : Int32)), .val (.int (1 : Int32)), .val (.int (1 : Int32)), .val (.ref w_LIST), .val (.int (201 : Int32)), .unset] [(.int (1 : Int32))]))
          refine ogo (fun t k => XS.istore X62.here hx rfl (hb hby at_100) rfl (l' := #[.val (.int p0), .val (.int p1), .val (.int (1 : Int32)), .val (.int (1 : Int32)), .val (.int (1 : Int32)), .val (.int (1 : Int32)), .val (.ref w_LIST), .val (.int (201 : Int32)), .val (.int (1 : Int32))]) rfl k) ?_
          show OwnEnds _ _ _ _ _ _ _ (T62.setTop (mkF m 102 #[.val (.int p0), .val (.int p1), .val (.int (1 : Int32)), .val (.int (1 : Int32)), .val (.int (1 : Int32)), .val (.int (1 : Int32)), .val (.ref w_LIST), .val (.int (201 : Int32)), .val (.int (1 : Int32))] []))
          refine ogo (fun t k => XS.iloadN X62.here hx rfl (hb hby at_102) rfl k) ?_
          show OwnEnds _ _ _ _ _ _ _ (T62.setTop (mkF m 103 #[.val (.int p0), .val (.int p1), .val (.int (1 : Int32)), .val (.int (1 : Int32)), .val (.int (1 : Int32)), .val (.int (1 : Int32)), .val (.ref w_LIST), .val (.int (201 : Int32)), .val (.int (1 : Int32))] [(.int (1 : Int32))]))
          refine ogo (fun t k => XS.ifNo X62.here hx rfl (hb hby at_103) rfl ((if0 _ _).trans (feq (by decide : ¬ ((1 : Int32) = (0 : Int32)))).1) k) ?_
          show OwnEnds _ _ _ _ _ _ _ (T62.setTop (mkF m 106 #[.val (.int p0), .val (.int p1), .val (.int (1 : Int32)), .val (.int (1 : Int32)), .val (.int (1 : Int32)), .val (.int (1 : Int32)), .val (.ref w_LIST), .val (.int (201 : Int32)), .val (.int (1 : Int32))] []))
          refine ogo (fun t k => XS.iload X62.here hx rfl (hb hby at_106) rfl k) ?_
          show OwnEnds _ _ _ _ _ _ _ (T62.setTop (mkF m 108 #[.val (.int p0), .val (.int p1), .val (.int (1 : Int32)), .val (.int (1 : Int32)), .val (.int (1 : Int32)), .val (.int (1 : Int32)), .val (.ref w_LIST), .val (.int (201 : Int32)), .val (.int (1 : Int32))] [(.int (1 : Int32))]))
          refine ogo (fun t k => XS.ifNo X62.here hx rfl (hb hby at_108) rfl ((if0 _ _).trans (feq (by decide : ¬ ((1 : Int32) = (0 : Int32)))).1) k) ?_
          show OwnEnds _ _ _ _ _ _ _ (T62.setTop (mkF m 111 #[.val (.int p0), .val (.int p1), .val (.int (1 : Int32)), .val (.int (1 : Int32)), .val (.int (1 : Int32)), .val (.int (1 : Int32)), .val (.ref w_LIST), .val (.int (201 : Int32)), .val (.int (1 : Int32))] []))
          refine ogo (fun t k => XS.iconst X62.here hx rfl (hb hby at_111) k) ?_
          show OwnEnds _ _ _ _ _ _ _ (T62.setTop (mkF m 112 #[.val (.int p0), .val (.int p1), .val (.int (1 : Int32)), .val (.int (1 : Int32)), .val (.int (1 : Int32)), .val (.int (1 : Int32)), .val (.ref w_LIST), .val (.int (201 : Int32)), .val (.int (1 : Int32))] [(.int (1 : Int32))]))
          refine ogo (fun t k => XS.goto X62.here hx rfl (pc0 := 112) (pc' := 116) rfl (hb hby at_112) (by decide) (by decide) k) ?_
          show OwnEnds _ _ _ _ _ _ _ (T62.setTop (mkF m 116 #[.val (.int p0), .val (.int p1), .val (.int (1 : Int32)), .val (.int (1 : Int32)), .val (.int (1 : Int32)), .val (.int (1 : Int32)), .val (.ref w_LIST), .val (.int (201 : Int32)), .val (.int (1 : Int32))] [(.int (1 : Int32))]))
          refine endZ X62 hx hlk Bd.returns rfl (hb hby at_116) (by decide) (by decide) ?_
          show Q0 Z p0 p1 w_LIST w_PROPLIST h0 n0 _ T62.heap _
          rw [e62]
          exact ⟨rfl, N62⟩
        · refine ogo (fun t k => XS.ifNo X34.here hx rfl (hb hby at_60) rfl ((if0 _ _).trans (feq hc59).1) k) ?_
          show OwnEnds _ _ _ _ _ _ _ (T34.setTop (mkF m 63 #[.val (.int p0), .val (.int p1), .val (.int (1 : Int32)), .val (.int (1 : Int32)), .val (.int (1 : Int32)), .val (.int (1 : Int32)), .unset, .unset, .unset] []))
          obtain ⟨T63, X63, e63, st63⟩ := getS2 X34 hx hZ hown (host := "") (Or.inl (hw _ (List.mem_of_getElem? (i := 23) rfl))) Via.refl e34 S_PROPLIST (g := (mkF m 63 #[.val (.int p0), .val (.int p1), .val (.int (1 : Int32)), .val (.int (1 : Int32)), .val (.int (1 : Int32)), .val (.int (1 : Int32)), .unset, .unset, .unset] [])) rfl (hb hby at_63)
          refine ogo st63 ?_
          show OwnEnds _ _ _ _ _ _ _ (T63.setTop (mkF m 66 #[.val (.int p0), .val (.int p1), .val (.int (1 : Int32)), .val (.int (1 : Int32)), .val (.int (1 : Int32)), .val (.int (1 : Int32)), .unset, .unset, .unset] [(.ref w_PROPLIST)]))
          refine ogo (fun t k => XS.goto X63.here hx rfl (pc0 := 66) (pc' := 72) rfl (hb hby at_66) (by decide) (by decide) k) ?_
          show OwnEnds _ _ _ _ _ _ _ (T63.setTop (mkF m 72 #[.val (.int p0), .val (.int p1), .val (.int (1 : Int32)), .val (.int (1 : Int32)), .val (.int (1 : Int32)), .val (.int (1 : Int32)), .unset, .unset, .unset] [(.ref w_PROPLIST)]))
          refine ogo (fun t k => XS.astore X63.here hx rfl (hb hby at_72) rfl rfl (l' := #[.val (.int p0), .val (.int p1), .val (.int (1 : Int32)), .val (.int (1 : Int32)), .val (.int (1 : Int32)), .val (.int (1 : Int32)), .val (.ref w_PROPLIST), .unset, .unset]) rfl k) ?_
          show OwnEnds _ _ _ _ _ _ _ (T63.setTop (mkF m 74 #[.val (.int p0), .val (.int p1), .val (.int (1 : Int32)), .val (.int (1 : Int32)), .val (.int (1 : Int32)), .val (.int (1 : Int32)), .val (.ref w_PROPLIST), .unset, .unset] []))
          refine ogo (fun t k => XS.aload X63.here hx rfl (hb hby at_74) rfl rfl k) ?_
          show OwnEnds _ _ _ _ _ _ _ (T63.setTop (mkF m 76 #[.val (.int p0), .val (.int p1), .val (.int (1 : Int32)), .val (.int (1 : Int32)), .val (.int (1 : Int32)), .val (.int (1 : Int32)), .val (.ref w_PROPLIST), .unset, .unset] [(.ref w_PROPLIST)]))
          refine ogo (fun t k => XS.iload X63.here hx rfl (hb hby at_76) rfl k) ?_
          show OwnEnds _ _ _ _ _ _ _ (T63.setTop (mkF m 78 #[.val (.int p0), .val (.int p1), .val (.int (1 : Int32)), .val (.int (1 : Int32)), .val (.int (1 : Int32)), .val (.int (1 : Int32)), .val (.ref w_PROPLIST), .unset, .unset] [(.int (1 : Int32)), (.ref w_PROPLIST)]))
          refine ogo (fun t k => XS.iload X63.here hx rfl (hb hby at_78) rfl k) ?_
          show OwnEnds _ _ _ _ _ _ _ (T63.setTop (mkF m 80 #[.val (.int p0), .val (.int p1), .val (.int (1 : Int32)), .val (.int (1 : Int32)), .val (.int (1 : Int32)), .val (.int (1 : Int32)), .val (.ref w_PROPLIST), .unset, .unset] [(.int (1 : Int32)), (.int (1 : Int32)), (.ref w_PROPLIST)]))
          obtain ⟨cq64, kq64, q64a, q64b, q64c⟩ := isOf hZ e63 E_PROPLIST
          obtain ⟨v64, _, ⟨T64, L64, k64, n64⟩, -, X64, ⟨Lc64, hQ64, l64, y64, z64⟩, st64⟩ := X63.virtualBack hx (y := (⟨"com/example/tidingsd/tidingsd/model/ElementCode", "octet", "(ZZ)I"⟩ : MethodName)) (z := (⟨"com/example/tidingsd/tidingsd/model/ElementCode", "octet", "(ZZ)I"⟩ : MethodName)) hown (mvT hZ (hw _ (List.mem_of_getElem? (i := 6) rfl))) (mvT hZ (hw _ (List.mem_of_getElem? (i := 7) rfl))) (notFace_of_selects (args := #[]) (mvT hZ (hw _ (List.mem_of_getElem? (i := 9) rfl)))) (mvT hZ (hw _ (List.mem_of_getElem? (i := 9) rfl))) (mvT hZ (hw _ (List.mem_of_getElem? (i := 8) rfl))) (by decide) (backOf (W := 0) (rm4 l Z a0 hw [] w_PROPLIST (1 : Int32) (1 : Int32) (10 : Int32) w_LIST w_PROPLIST h0 n0 Z0 S_LIST S_PROPLIST E_PROPLIST (Or.inr rfl) F_code_PROPLIST) hZ (hw _ (List.mem_of_getElem? (i := 10) rfl)) (hw _ (List.mem_of_getElem? (i := 2) rfl)) (by decide) (by decide)) q64a q64c (g := (mkF m 80 #[.val (.int p0), .val (.int p1), .val (.int (1 : Int32)), .val (.int (1 : Int32)), .val (.int (1 : Int32)), .val (.int (1 : Int32)), .val (.ref w_PROPLIST), .unset, .unset] [(.int (1 : Int32)), (.int (1 : Int32)), (.ref w_PROPLIST)])) rfl (by rw [hml]; rfl) (Steps.refl _) (argsL := [(.int (1 : Int32)), (.int (1 : Int32))]) (rest := []) (lenOf pd__ZZ_I rfl) rfl (by show 2 * 0 + _ ≤ _; exact Nat.le_of_eq rfl) (hb hby at_80) (fun _ _ => ⟨rfl, e63, (by decide : 0 + 0 ≤ _), (by decide : 0 + 0 ≤ _)⟩)
          dsimp only [Pt.U, Pt.locs, Pt.cells, Pt.slots] at X64 l64 y64 z64 st64 hQ64
          subst l64 y64 z64
          obtain ⟨hv64, N64q, e64⟩ := hQ64
          obtain rfl : v64 = some (.int (202 : Int32)) := hv64.trans (by decide)
          have N64 := Fr.app N34 N64q
          refine ogo (fun t k => st64.trans k) ?_
          show OwnEnds _ _ _ _ _ _ _ (T64.setTop (mkF m 83 #[.val (.int p0), .val (.int p1), .val (.int (1 : Int32)), .val (.int (1 : Int32)), .val (.int (1 : Int32)), .val (.int (1 : Int32)), .val (.ref w_PROPLIST), .unset, .unset] [(.int (202 : Int32))]))
          refine ogo (fun t k => XS.istore X64.here hx rfl (hb hby at_83) rfl (l' := #[.val (.int p0), .val (.int p1), .val (.int (1 : Int32)), .val (.int (1 : Int32)), .val (.int (1 : Int32)), .val (.int (1 : Int32)), .val (.ref w_PROPLIST), .val (.int (202 : Int32)), .unset]) rfl k) ?_
          show OwnEnds _ _ _ _ _ _ _ (T64.setTop (mkF m 85 #[.val (.int p0), .val (.int p1), .val (.int (1 : Int32)), .val (.int (1 : Int32)), .val (.int (1 : Int32)), .val (.int (1 : Int32)), .val (.ref w_PROPLIST), .val (.int (202 : Int32)), .unset] []))
          refine ogo (fun t k => XS.iload X64.here hx rfl (hb hby at_85) rfl k) ?_
          show OwnEnds _ _ _ _ _ _ _ (T64.setTop (mkF m 87 #[.val (.int p0), .val (.int p1), .val (.int (1 : Int32)), .val (.int (1 : Int32)), .val (.int (1 : Int32)), .val (.int (1 : Int32)), .val (.ref w_PROPLIST), .val (.int (202 : Int32)), .unset] [(.int (202 : Int32))]))
          obtain ⟨v65, _, ⟨T65, L65, k65, n65⟩, -, X65, ⟨Lc65, hQ65, l65, y65, z65⟩, st65⟩ := Jvm.LawKit.callS X64 hx (y := (⟨"com/example/tidingsd/tidingsd/model/ElementCode", "containsRef", "(I)Z"⟩ : MethodName)) hown (mvT hZ (hw _ (List.mem_of_getElem? (i := 0) rfl))) (mvT hZ (hw _ (List.mem_of_getElem? (i := 1) rfl))) (mvT hZ (hw _ (List.mem_of_getElem? (i := 2) rfl))) (mvT hZ (hw _ (List.mem_of_getElem? (i := 3) rfl))) (by decide) (backOf (W := 0) (rm1 l Z a0 hw [] (202 : Int32) h0 n0 Z0 ) hZ (hw _ (List.mem_of_getElem? (i := 3) rfl)) (hw _ (List.mem_of_getElem? (i := 2) rfl)) (by decide) (by decide)) (g := (mkF m 87 #[.val (.int p0), .val (.int p1), .val (.int (1 : Int32)), .val (.int (1 : Int32)), .val (.int (1 : Int32)), .val (.int (1 : Int32)), .val (.ref w_PROPLIST), .val (.int (202 : Int32)), .unset] [(.int (202 : Int32))])) rfl (by rw [hml]; rfl) (argsL := [(.int (202 : Int32))]) (rest := []) (lenOf pd__I_Z rfl) rfl (by show 2 * 0 + _ ≤ _; exact Nat.le_of_eq rfl) (hb hby at_87) (fun _ _ => ⟨rfl, e64, (by decide : 0 + 0 ≤ _), (by decide : 0 + 0 ≤ _)⟩)
          dsimp only [Pt.U, Pt.locs, Pt.cells, Pt.slots] at X65 l65 y65 z65 st65 hQ65
          subst l65 y65 z65
          obtain ⟨hv65, N65q, e65⟩ := hQ65
          obtain rfl : v65 = some (.int (1 : Int32)) := hv65.trans (by decide)
          have N65 := Fr.app N64 N65q
          refine ogo (fun t k => st65 t k) ?_
          show OwnEnds _ _ _ _ _ _ _ (T65.setTop (mkF m 90 #[.val (.int p0), .val (.int p1), .val (.int (1 : Int32)), .val (.int (1 : Int32)), .val (.int (1 : Int32)), .val (.int (1 : Int32)), .val (.ref w_PROPLIST), .val (.int (202 : Int32)), .unset] [(.int (1 : Int32))]))
          refine ogo (fun t k => XS.iload X65.here hx rfl (hb hby at_90) rfl k) ?_
          show OwnEnds _ _ _ _ _ _ _ (T65.setTop (mkF m 92 #[.val (.int p0), .val (.int p1), .val (.int (1 : Int32)), .val (.int (1 : Int32)), .val (.int (1 : Int32)), .val (.int (1 : Int32)), .val (.ref w_PROPLIST), .val (.int (202 : Int32)), .unset] [(.int (1 : Int32)), (.int (1 : Int32))]))
          refine ogo (fun t k => XS.icmpNo X65.here hx rfl (hb hby at_92) rfl (teq (by decide : (1 : Int32) = (1 : Int32))).2 k) ?_
          show OwnEnds _ _ _ _ _ _ _ (T65.setTop (mkF m 95 #[.val (.int p0), .val (.int p1), .val (.int (1 : Int32)), .val (.int (1 : Int32)), .val (.int (1 : Int32)), .val (.int (1 : Int32)), .val (.ref w_PROPLIST), .val (.int (202 : Int32)), .unset] []))
          refine ogo (fun t k => XS.iconst X65.here hx rfl (hb hby at_95) k) ?_
          show OwnEnds _ _ _ _ _ _ _ (T65.setTop (mkF m 96 #[.val (.int p0), .val (.int p1), .val (.int (1 : Int32)), .val (.int (1 : Int32)), .val (.int (1 : Int32)), .val (.int (1 : Int32)), .val (.ref w_PROPLIST), .val (.int (202 : Int32)), .unset] [(.int (1 : Int32))]))
          refine ogo (fun t k => XS.goto X65.here hx rfl (pc0 := 96) (pc' := 100) rfl (hb hby at_96) (by decide) (by decide) k) ?_
          show OwnEnds _ _ _ _ _ _ _ (T65.setTop (mkF m 100 #[.val (.int p0), .val (.int p1), .val (.int (1 : Int32)), .val (.int (1 : Int32)), .val (.int (1 : Int32)), .val (.int (1 : Int32)), .val (.ref w_PROPLIST), .val (.int (202 : Int32)), .unset] [(.int (1 : Int32))]))
          refine ogo (fun t k => XS.istore X65.here hx rfl (hb hby at_100) rfl (l' := #[.val (.int p0), .val (.int p1), .val (.int (1 : Int32)), .val (.int (1 : Int32)), .val (.int (1 : Int32)), .val (.int (1 : Int32)), .val (.ref w_PROPLIST), .val (.int (202 : Int32)), .val (.int (1 : Int32))]) rfl k) ?_
          show OwnEnds _ _ _ _ _ _ _ (T65.setTop (mkF m 102 #[.val (.int p0), .val (.int p1), .val (.int (1 : Int32)), .val (.int (1 : Int32)), .val (.int (1 : Int32)), .val (.int (1 : Int32)), .val (.ref w_PROPLIST), .val (.int (202 : Int32)), .val (.int (1 : Int32))] []))
          refine ogo (fun t k => XS.iloadN X65.here hx rfl (hb hby at_102) rfl k) ?_
          show OwnEnds _ _ _ _ _ _ _ (T65.setTop (mkF m 103 #[.val (.int p0), .val (.int p1), .val (.int (1 : Int32)), .val (.int (1 : Int32)), .val (.int (1 : Int32)), .val (.int (1 : Int32)), .val (.ref w_PROPLIST), .val (.int (202 : Int32)), .val (.int (1 : Int32))] [(.int (1 : Int32))]))
          refine ogo (fun t k => XS.ifNo X65.here hx rfl (hb hby at_103) rfl ((if0 _ _).trans (feq (by decide : ¬ ((1 : Int32) = (0 : Int32)))).1) k) ?_
          show OwnEnds _ _ _ _ _ _ _ (T65.setTop (mkF m 106 #[.val (.int p0), .val (.int p1), .val (.int (1 : Int32)), .val (.int (1 : Int32)), .val (.int (1 : Int32)), .val (.int (1 : Int32)), .val (.ref w_PROPLIST), .val (.int (202 : Int32)), .val (.int (1 : Int32))] []))
          refine ogo (fun t k => XS.iload X65.here hx rfl (hb hby at_106) rfl k) ?_
          show OwnEnds _ _ _ _ _ _ _ (T65.setTop (mkF m 108 #[.val (.int p0), .val (.int p1), .val (.int (1 : Int32)), .val (.int (1 : Int32)), .val (.int (1 : Int32)), .val (.int (1 : Int32)), .val (.ref w_PROPLIST), .val (.int (202 : Int32)), .val (.int (1 : Int32))] [(.int (1 : Int32))]))
          refine ogo (fun t k => XS.ifNo X65.here hx rfl (hb hby at_108) rfl ((if0 _ _).trans (feq (by decide : ¬ ((1 : Int32) = (0 : Int32)))).1) k) ?_
          show OwnEnds _ _ _ _ _ _ _ (T65.setTop (mkF m 111 #[.val (.int p0), .val (.int p1), .val (.int (1 : Int32)), .val (.int (1 : Int32)), .val (.int (1 : Int32)), .val (.int (1 : Int32)), .val (.ref w_PROPLIST), .val (.int (202 : Int32)), .val (.int (1 : Int32))] []))
          refine ogo (fun t k => XS.iconst X65.here hx rfl (hb hby at_111) k) ?_
          show OwnEnds _ _ _ _ _ _ _ (T65.setTop (mkF m 112 #[.val (.int p0), .val (.int p1), .val (.int (1 : Int32)), .val (.int (1 : Int32)), .val (.int (1 : Int32)), .val (.int (1 : Int32)), .val (.ref w_PROPLIST), .val (.int (202 : Int32)), .val (.int (1 : Int32))] [(.int (1 : Int32))]))
          refine ogo (fun t k => XS.goto X65.here hx rfl (pc0 := 112) (pc' := 116) rfl (hb hby at_112) (by decide) (by decide) k) ?_
          show OwnEnds _ _ _ _ _ _ _ (T65.setTop (mkF m 116 #[.val (.int p0), .val (.int p1), .val (.int (1 : Int32)), .val (.int (1 : Int32)), .val (.int (1 : Int32)), .val (.int (1 : Int32)), .val (.ref w_PROPLIST), .val (.int (202 : Int32)), .val (.int (1 : Int32))] [(.int (1 : Int32))]))
          refine endZ X65 hx hlk Bd.returns rfl (hb hby at_116) (by decide) (by decide) ?_
          show Q0 Z p0 p1 w_LIST w_PROPLIST h0 n0 _ T65.heap _
          rw [e65]
          exact ⟨rfl, N65⟩
set_option maxRecDepth 65536 in
set_option maxHeartbeats 40000000 in
theorem comes_1 {Post : Tables → Env → Array Value → State → Outcome → State → Prop} (hpost : ∀ tb e args s v u, (limb_1_1.after args s (.returned v) u = true ∧ limb_1_2.after args s (.returned v) u = true ∧ True) → FrameEnd s (.returned v) u (Jvm.fieldLocs frame_1_writes args s ++ Jvm.arrayLocs frame_1_arrays args s ++ Jvm.staticLocs frame_1_statics s) 0 0 → Post tb e args s (.returned v) u) :
    ArmFor flags0 classFile x code maxLocals ret World_1 tables_1 room_1 Calls_1 rest_1 Pre_1 Post := by
  intro l hfl _ _ p e ha hc hk s m args below hf hA hF happ hP
  obtain ⟨hcalls, hrest, hpre⟩ := hP
  obtain ⟨-, -, -, hnamed, -, -, -, hat⟩ := (Spec.applies_iff hf).mp happ
  obtain ⟨hg, hn⟩ := and_e (Cond.before_iff.mp (show (Jvm.Cond.and given_1 narrow_1).before args s = true from hpre))
  obtain ⟨hcount, hg0⟩ := and_e hg
  obtain ⟨hk0, hg1⟩ := and_e hg0
  have hk1 := hg1
  obtain ⟨w0, w1, rfl⟩ : ∃ w0 w1 : Value, args = #[w0, w1] := by
    have hs : args.size = 2 := by simpa [Cond.value, given_1] using hcount
    obtain ⟨L⟩ := args
    match L, hs with
    | [w0, w1], _ => exact ⟨w0, w1, rfl⟩
  have hw := fun d (hd : d ∈ tables_1) => atoms_spec (ws := Jvm.Cond.code x code maxLocals ret :: tables_1) hat d (List.mem_cons_of_mem _ hd)
  have hfit : Fit s := fun {y c} hc i hi => by
    obtain ⟨ha, rfl⟩ := Array.getElem?_eq_some_iff.mp hc
    have q := List.all_eq_true.mp ((Array.all_eq_true_iff_forall_mem.mp hF) _ (Array.getElem_mem ha)) i (List.mem_range.mpr hi)
    simpa [Array.getElem?_eq_getElem hi] using q
  obtain ⟨i0, ei0⟩ := is_v hk0
  obtain rfl : w0 = (.int i0) := Option.some.inj ei0
  obtain ⟨i1, ei1⟩ := is_v hk1
  obtain rfl : w1 = (.int i1) := Option.some.inj ei1
  obtain ⟨u1a, u1b⟩ := and_e hn
  obtain ⟨u2a, u2b⟩ := and_e u1b
  obtain ⟨u3a, u3b⟩ := and_e u2b
  obtain ⟨u4a, u4b⟩ := and_e u3b
  obtain ⟨u5a, u5b⟩ := and_e u4b
  obtain ⟨w_LIST, ev_LIST⟩ := exa_v u1a
  have S_LIST : Sta s s.heap "com/example/tidingsd/tidingsd/model/ElementCode" "LIST" "Lcom/example/tidingsd/tidingsd/model/ElementCode;" (.ref w_LIST) := Sta.start ev_LIST (Or.inr ⟨(hw _ (List.mem_of_getElem? (i := 2) rfl)), (hw _ (List.mem_of_getElem? (i := 5) rfl))⟩)
  have E_LIST : Exa s s.heap w_LIST "com/example/tidingsd/tidingsd/model/ElementCode" := Exa.start ev_LIST u1a
  obtain ⟨w_PROPLIST, ev_PROPLIST⟩ := exa_v u3a
  have S_PROPLIST : Sta s s.heap "com/example/tidingsd/tidingsd/model/ElementCode" "PROPLIST" "Lcom/example/tidingsd/tidingsd/model/ElementCode;" (.ref w_PROPLIST) := Sta.start ev_PROPLIST (Or.inr ⟨(hw _ (List.mem_of_getElem? (i := 2) rfl)), (hw _ (List.mem_of_getElem? (i := 24) rfl))⟩)
  have E_PROPLIST : Exa s s.heap w_PROPLIST "com/example/tidingsd/tidingsd/model/ElementCode" := Exa.start ev_PROPLIST u3a
  have F_code_LIST : Fld s s.heap w_LIST "com/example/tidingsd/tidingsd/model/ElementCode" "code" "I" (.int (9 : Int32)) := own_fld u2a ev_LIST
  have F_code_PROPLIST : Fld s s.heap w_PROPLIST "com/example/tidingsd/tidingsd/model/ElementCode" "code" "I" (.int (10 : Int32)) := own_fld u4a ev_PROPLIST
  have F_ordinal_PROPLIST : Fld s s.heap w_PROPLIST "java/lang/Enum" "ordinal" "I" (.int (10 : Int32)) := own_fld u5a ev_PROPLIST
  have F_ordinal_LIST : Fld s s.heap w_LIST "java/lang/Enum" "ordinal" "I" (.int (9 : Int32)) := own_fld u5b ev_LIST
  obtain ⟨n, o, h1, h2, h3, _, L, rfl, ⟨rfl, N⟩, hq⟩ := rm0 l s _ hw tables_1 i0 i1 w_LIST w_PROPLIST s.heap s.heap.size (Nat.le_refl _) S_LIST E_LIST F_code_LIST F_ordinal_LIST S_PROPLIST E_PROPLIST F_code_PROPLIST F_ordinal_PROPLIST p e ha hc hk s m _ below hf ((Spec.applies_iff_loose hf).mp happ).1 ⟨rfl, State.Warmed39.refl s, rfl⟩ trivial
  refine ⟨n, _, h1, h2, h3, hpost _ _ _ _ _ _ ⟨Cond.after_iff.mpr rfl, Cond.after_iff.mpr (eq_i res_at (Term.int_eval (1)) rfl), trivial⟩ ⟨hq.1, hq.2.1, (hq.2.2.sift fun y hy => Or.inr (N y hy)).mono (by decide) (by decide)⟩⟩
theorem main_1_1 : Claimed_1_1 := comes_1 fun _ _ _ _ _ _ h hF => ⟨h.1, hF⟩
theorem main_1_2 : Claimed_1_2 := comes_1 fun _ _ _ _ _ _ h hF => ⟨h.2.1, hF⟩
end Jvm.Pilot.@@N@@
namespace Jvm.Pilot.@@N@@
open Jvm Jvm.ClassFile Sem Op Lib Jvm.Free Jvm.Stand Jvm.Pilot.@@N@@.Jvm.D
/-! MADE BY PROGRAM (witnessworld.py) out of the Statement's table words and the real class files: 12 classes; the members and pool entries that the words name. The judged class is class 1, her method 1. -/
namespace start1
open Jvm.ClassFile
def u (s : String) : CpInfo := .utf8 (stringToUtf16 s)
/-- a pool by its gaps: so many unusable entries, then the entry; so many at the end -/
def gap : Nat → List CpInfo → List CpInfo
  | 0, r => r
  | n + 1, r => .unusable :: gap n r
def poolList (es : List (Nat × CpInfo)) (last : Nat) : List CpInfo := es.foldr (fun e r => gap e.1 (e.2 :: r)) (gap last [])
def pool (es : List (Nat × CpInfo)) (last : Nat) : Array CpInfo := ⟨poolList es last⟩
def fileOf (pool : Array CpInfo) (this : Nat) (attrs : Array Attribute := #[]) (ms : Array MethodInfo := #[]) (fl : Nat := 33) (sup : Nat := 0) (ifs : Array Nat := #[]) (fds : Array FieldInfo := #[]) : ClassFile where
  minorVersion := 0
  majorVersion := 65
  constantPool := pool
  accessFlags := fl
  thisClass := this
  superClass := sup
  interfaces := ifs
  fields := fds
  methods := ms
  attributes := attrs
def plain (name : String) (sup : Option ClassId) : Class where
  name := name
  kind := .ordinary
  loader := none
  accessFlags := 33
  super := sup
  interfaces := #[]
  cf := none
  fields := #[]
  methods := #[]
  instanceTypes := #[]
  staticTypes := #[]
  resolved := #[]
  callSites := []
  init := .initialized
  statics := none
  mirror := none

def pool0 : Array CpInfo := pool [(5, u "<init>"), (0, u "()V"), (1, .class_ 10), (1, u "java/lang/Object")] 113

def k0m0 : Method := { name := "<init>", desc := "()V", sig := { parameters := [], returnType := none }, accessFlags := 1, code := none }
/-- java/lang/Object -/
def k0 : Class := { plain "java/lang/Object" none with
  accessFlags := 33
  interfaces := #[]
  cf := some (fileOf pool0 8 #[] #[{ accessFlags := 1, nameIndex := 5, descriptorIndex := 6, attributes := #[] }] 33 0 #[] #[])
  fields := #[]
  methods := #[k0m0]
  instanceTypes := #[]
  staticTypes := #[]
  resolved := Array.replicate 124 none
  statics := none }

def pool1 : Array CpInfo := pool [(2, .class_ 4), (1, u "java/lang/Object"), (0, u "<init>"), (0, u "()V"), (0, .methodref 8 9), (0, .class_ 10), (0, .nameAndType 11 12), (0, u "com/example/tidingsd/tidingsd/model/ElementCode"), (0, u "containsRef"), (0, u "(I)Z"), (0, .fieldref 8 14), (0, .nameAndType 15 16), (0, u "PROPLIST"), (0, u "Lcom/example/tidingsd/tidingsd/model/ElementCode;"), (0, .fieldref 8 18), (0, .nameAndType 19 16), (0, u "LIST"), (0, .methodref 8 21), (0, .nameAndType 22 23), (0, u "octet"), (0, u "(ZZ)I"), (0, .class_ 25), (0, u "com/example/tidingsd/tidingsd/model/ElementCodeContainsRefPinLaw"), (2, u "law"), (0, u "(II)Z")] 3

def k1m0 : Method := { name := "<init>", desc := "()V", sig := { parameters := [], returnType := none }, accessFlags := 1, code := none }
def k1c1 : Code := { maxStack := 3, maxLocals := 9, code := code, exceptionTable := #[], attributes := #[] }
def k1m1 : Method := { name := "law", desc := "(II)Z", sig := { parameters := [.int, .int], returnType := some .boolean }, accessFlags := 9, code := some k1c1 }
/-- com/example/tidingsd/tidingsd/model/ElementCodeContainsRefPinLaw -/
def k1 : Class := { plain "com/example/tidingsd/tidingsd/model/ElementCodeContainsRefPinLaw" (some 0) with
  accessFlags := 49
  interfaces := #[]
  cf := some (fileOf pool1 24 #[] #[{ accessFlags := 1, nameIndex := 5, descriptorIndex := 6, attributes := #[] }, { accessFlags := 9, nameIndex := 28, descriptorIndex := 29, attributes := #[] }] 49 2 #[] #[])
  fields := #[]
  methods := #[k1m0, k1m1]
  instanceTypes := #[]
  staticTypes := #[]
  resolved := Array.replicate 33 none
  statics := none }

def pool2 : Array CpInfo := pool [(1, .class_ 2), (0, u "java/lang/constant/Constable"), (0, .class_ 4), (0, u "java/lang/Object")] 6

/-- java/lang/constant/Constable -/
def k2 : Class := { plain "java/lang/constant/Constable" (some 0) with
  accessFlags := 1537
  interfaces := #[]
  cf := some (fileOf pool2 1 #[] #[] 1537 3 #[] #[])
  fields := #[]
  methods := #[]
  instanceTypes := #[]
  staticTypes := #[]
  resolved := Array.replicate 11 none
  statics := none }

def pool3 : Array CpInfo := pool [(1, .class_ 2), (0, u "java/lang/Comparable"), (0, .class_ 4), (0, u "java/lang/Object")] 7

/-- java/lang/Comparable -/
def k3 : Class := { plain "java/lang/Comparable" (some 0) with
  accessFlags := 1537
  interfaces := #[]
  cf := some (fileOf pool3 1 #[] #[] 1537 3 #[] #[])
  fields := #[]
  methods := #[]
  instanceTypes := #[]
  staticTypes := #[]
  resolved := Array.replicate 12 none
  statics := none }

def pool4 : Array CpInfo := pool [(1, .class_ 2), (0, u "java/io/Serializable"), (0, .class_ 4), (0, u "java/lang/Object")] 2

/-- java/io/Serializable -/
def k4 : Class := { plain "java/io/Serializable" (some 0) with
  accessFlags := 1537
  interfaces := #[]
  cf := some (fileOf pool4 1 #[] #[] 1537 3 #[] #[])
  fields := #[]
  methods := #[]
  instanceTypes := #[]
  staticTypes := #[]
  resolved := Array.replicate 7 none
  statics := none }

def pool5 : Array CpInfo := pool [(2, .class_ 4), (1, u "java/lang/Enum"), (0, u "name"), (0, u "Ljava/lang/String;"), (2, u "ordinal"), (0, u "I"), (1, .class_ 14), (1, u "java/lang/Object"), (4, u "hash"), (86, .class_ 108), (1, u "java/lang/Enum$EnumDesc"), (2, .class_ 112), (0, u "java/lang/constant/Constable"), (0, .class_ 114), (0, u "java/lang/Comparable"), (0, .class_ 116), (0, u "java/io/Serializable")] 87

/-- java/lang/Enum -/
def k5 : Class := { plain "java/lang/Enum" (some 0) with
  accessFlags := 1057
  interfaces := #[2, 3, 4]
  cf := some (fileOf pool5 2 #[.nestMembers #[106]] #[] 1057 12 #[111, 113, 115] #[{ accessFlags := 18, nameIndex := 5, descriptorIndex := 6, attributes := #[] }, { accessFlags := 18, nameIndex := 9, descriptorIndex := 10, attributes := #[] }, { accessFlags := 2, nameIndex := 19, descriptorIndex := 10, attributes := #[] }])
  fields := #[{ name := "name", type := (.object "java/lang/String"), accessFlags := 18, slot := 0, constantValue := 0 }, { name := "ordinal", type := .int, accessFlags := 18, slot := 1, constantValue := 0 }, { name := "hash", type := .int, accessFlags := 2, slot := 2, constantValue := 0 }]
  methods := #[]
  instanceTypes := #[(.object "java/lang/String"), .int, .int]
  staticTypes := #[]
  resolved := Array.replicate 204 none
  statics := none }

def pool6 : Array CpInfo := pool [(1, .class_ 2), (0, u "com/example/tidingsd/tidingsd/model/ElementCode"), (2, u "NOP"), (0, u "Lcom/example/tidingsd/tidingsd/model/ElementCode;"), (2, u "PAD"), (2, u "BOOLEAN"), (2, u "INDEX"), (2, u "INTEGER"), (2, u "EPI"), (2, u "BITSTR"), (2, u "NAME"), (2, u "TEXT"), (0, .fieldref 1 32), (0, .nameAndType 33 6), (0, u "LIST"), (0, .fieldref 1 35), (0, .nameAndType 36 6), (0, u "PROPLIST"), (2, u "ENDLIST"), (2, u "S_TAG"), (2, u "S_REF"), (2, u "ENCRYPT"), (2, u "$VALUES"), (0, u "[Lcom/example/tidingsd/tidingsd/model/ElementCode;"), (6, .class_ 61), (1, u "java/lang/Enum"), (6, .fieldref 1 69), (0, .nameAndType 70 71), (0, u "code"), (0, u "I"), (2, u "rfcName"), (0, u "Ljava/lang/String;"), (0, .methodref 1 77), (0, .nameAndType 78 79), (0, u "refuseShareBitsUnlessList"), (0, u "(Z)V"), (11, u "BY_CODE"), (4, u "(I)Z"), (2, u "containsRef"), (13, .methodref 1 114), (0, .nameAndType 115 116), (0, u "isList"), (0, u "()Z"), (26, u "REF_BIT"), (2, u "TAG_BIT"), (1, u "CODE_BITS"), (10, u "octet"), (0, u "(ZZ)I")] 29

def k6c0 : Code := { maxStack := 2, maxLocals := 1, code := prog_58_method_6_code, exceptionTable := #[], attributes := #[] }
def k6m0 : Method := { name := "isList", desc := "()Z", sig := { parameters := [], returnType := some .boolean }, accessFlags := 1, code := some k6c0 }
def k6c1 : Code := { maxStack := 2, maxLocals := 4, code := prog_58_method_7_code, exceptionTable := #[], attributes := #[] }
def k6m1 : Method := { name := "octet", desc := "(ZZ)I", sig := { parameters := [.boolean, .boolean], returnType := some .int }, accessFlags := 1, code := some k6c1 }
def k6c2 : Code := { maxStack := 3, maxLocals := 2, code := prog_58_method_10_code, exceptionTable := #[], attributes := #[] }
def k6m2 : Method := { name := "refuseShareBitsUnlessList", desc := "(Z)V", sig := { parameters := [.boolean], returnType := none }, accessFlags := 2, code := some k6c2 }
def k6c3 : Code := { maxStack := 2, maxLocals := 1, code := prog_58_method_12_code, exceptionTable := #[], attributes := #[] }
def k6m3 : Method := { name := "containsRef", desc := "(I)Z", sig := { parameters := [.int], returnType := some .boolean }, accessFlags := 9, code := some k6c3 }
/-- com/example/tidingsd/tidingsd/model/ElementCode -/
def k6 : Class := { plain "com/example/tidingsd/tidingsd/model/ElementCode" (some 5) with
  accessFlags := 16433
  interfaces := #[]
  cf := some (fileOf pool6 1 #[] #[{ accessFlags := 1, nameIndex := 115, descriptorIndex := 116, attributes := #[] }, { accessFlags := 1, nameIndex := 159, descriptorIndex := 160, attributes := #[] }, { accessFlags := 2, nameIndex := 78, descriptorIndex := 79, attributes := #[] }, { accessFlags := 9, nameIndex := 99, descriptorIndex := 96, attributes := #[] }] 16433 59 #[] #[{ accessFlags := 16409, nameIndex := 5, descriptorIndex := 6, attributes := #[] }, { accessFlags := 16409, nameIndex := 9, descriptorIndex := 6, attributes := #[] }, { accessFlags := 16409, nameIndex := 12, descriptorIndex := 6, attributes := #[] }, { accessFlags := 16409, nameIndex := 15, descriptorIndex := 6, attributes := #[] }, { accessFlags := 16409, nameIndex := 18, descriptorIndex := 6, attributes := #[] }, { accessFlags := 16409, nameIndex := 21, descriptorIndex := 6, attributes := #[] }, { accessFlags := 16409, nameIndex := 24, descriptorIndex := 6, attributes := #[] }, { accessFlags := 16409, nameIndex := 27, descriptorIndex := 6, attributes := #[] }, { accessFlags := 16409, nameIndex := 30, descriptorIndex := 6, attributes := #[] }, { accessFlags := 16409, nameIndex := 33, descriptorIndex := 6, attributes := #[] }, { accessFlags := 16409, nameIndex := 36, descriptorIndex := 6, attributes := #[] }, { accessFlags := 16409, nameIndex := 39, descriptorIndex := 6, attributes := #[] }, { accessFlags := 16409, nameIndex := 42, descriptorIndex := 6, attributes := #[] }, { accessFlags := 16409, nameIndex := 45, descriptorIndex := 6, attributes := #[] }, { accessFlags := 16409, nameIndex := 48, descriptorIndex := 6, attributes := #[] }, { accessFlags := 26, nameIndex := 143, descriptorIndex := 71, attributes := #[] }, { accessFlags := 26, nameIndex := 146, descriptorIndex := 71, attributes := #[] }, { accessFlags := 26, nameIndex := 148, descriptorIndex := 71, attributes := #[] }, { accessFlags := 26, nameIndex := 91, descriptorIndex := 52, attributes := #[] }, { accessFlags := 18, nameIndex := 70, descriptorIndex := 71, attributes := #[] }, { accessFlags := 18, nameIndex := 74, descriptorIndex := 75, attributes := #[] }, { accessFlags := 4122, nameIndex := 51, descriptorIndex := 52, attributes := #[] }])
  fields := #[{ name := "NOP", type := (.object "com/example/tidingsd/tidingsd/model/ElementCode"), accessFlags := 16409, slot := 0, constantValue := 0 }, { name := "PAD", type := (.object "com/example/tidingsd/tidingsd/model/ElementCode"), accessFlags := 16409, slot := 1, constantValue := 0 }, { name := "BOOLEAN", type := (.object "com/example/tidingsd/tidingsd/model/ElementCode"), accessFlags := 16409, slot := 2, constantValue := 0 }, { name := "INDEX", type := (.object "com/example/tidingsd/tidingsd/model/ElementCode"), accessFlags := 16409, slot := 3, constantValue := 0 }, { name := "INTEGER", type := (.object "com/example/tidingsd/tidingsd/model/ElementCode"), accessFlags := 16409, slot := 4, constantValue := 0 }, { name := "EPI", type := (.object "com/example/tidingsd/tidingsd/model/ElementCode"), accessFlags := 16409, slot := 5, constantValue := 0 }, { name := "BITSTR", type := (.object "com/example/tidingsd/tidingsd/model/ElementCode"), accessFlags := 16409, slot := 6, constantValue := 0 }, { name := "NAME", type := (.object "com/example/tidingsd/tidingsd/model/ElementCode"), accessFlags := 16409, slot := 7, constantValue := 0 }, { name := "TEXT", type := (.object "com/example/tidingsd/tidingsd/model/ElementCode"), accessFlags := 16409, slot := 8, constantValue := 0 }, { name := "LIST", type := (.object "com/example/tidingsd/tidingsd/model/ElementCode"), accessFlags := 16409, slot := 9, constantValue := 0 }, { name := "PROPLIST", type := (.object "com/example/tidingsd/tidingsd/model/ElementCode"), accessFlags := 16409, slot := 10, constantValue := 0 }, { name := "ENDLIST", type := (.object "com/example/tidingsd/tidingsd/model/ElementCode"), accessFlags := 16409, slot := 11, constantValue := 0 }, { name := "S_TAG", type := (.object "com/example/tidingsd/tidingsd/model/ElementCode"), accessFlags := 16409, slot := 12, constantValue := 0 }, { name := "S_REF", type := (.object "com/example/tidingsd/tidingsd/model/ElementCode"), accessFlags := 16409, slot := 13, constantValue := 0 }, { name := "ENCRYPT", type := (.object "com/example/tidingsd/tidingsd/model/ElementCode"), accessFlags := 16409, slot := 14, constantValue := 0 }, { name := "REF_BIT", type := .int, accessFlags := 26, slot := 15, constantValue := 0 }, { name := "TAG_BIT", type := .int, accessFlags := 26, slot := 16, constantValue := 0 }, { name := "CODE_BITS", type := .int, accessFlags := 26, slot := 17, constantValue := 0 }, { name := "BY_CODE", type := (.array (.object "com/example/tidingsd/tidingsd/model/ElementCode")), accessFlags := 26, slot := 18, constantValue := 0 }, { name := "code", type := .int, accessFlags := 18, slot := 3, constantValue := 0 }, { name := "rfcName", type := (.object "java/lang/String"), accessFlags := 18, slot := 4, constantValue := 0 }, { name := "$VALUES", type := (.array (.object "com/example/tidingsd/tidingsd/model/ElementCode")), accessFlags := 4122, slot := 19, constantValue := 0 }]
  methods := #[k6m0, k6m1, k6m2, k6m3]
  instanceTypes := #[(.object "java/lang/String"), .int, .int, .int, (.object "java/lang/String")]
  staticTypes := #[(.object "com/example/tidingsd/tidingsd/model/ElementCode"), (.object "com/example/tidingsd/tidingsd/model/ElementCode"), (.object "com/example/tidingsd/tidingsd/model/ElementCode"), (.object "com/example/tidingsd/tidingsd/model/ElementCode"), (.object "com/example/tidingsd/tidingsd/model/ElementCode"), (.object "com/example/tidingsd/tidingsd/model/ElementCode"), (.object "com/example/tidingsd/tidingsd/model/ElementCode"), (.object "com/example/tidingsd/tidingsd/model/ElementCode"), (.object "com/example/tidingsd/tidingsd/model/ElementCode"), (.object "com/example/tidingsd/tidingsd/model/ElementCode"), (.object "com/example/tidingsd/tidingsd/model/ElementCode"), (.object "com/example/tidingsd/tidingsd/model/ElementCode"), (.object "com/example/tidingsd/tidingsd/model/ElementCode"), (.object "com/example/tidingsd/tidingsd/model/ElementCode"), (.object "com/example/tidingsd/tidingsd/model/ElementCode"), .int, .int, .int, (.array (.object "com/example/tidingsd/tidingsd/model/ElementCode")), (.array (.object "com/example/tidingsd/tidingsd/model/ElementCode"))]
  resolved := Array.replicate 190 none
  statics := some 0 }

def pool7 : Array CpInfo := pool [(1, u "java/lang/Cloneable"), (0, .class_ 1), (0, u "java/lang/Object"), (0, .class_ 3)] 3

/-- java/lang/Cloneable -/
def k7 : Class := { plain "java/lang/Cloneable" (some 0) with
  accessFlags := 1537
  interfaces := #[]
  cf := some (fileOf pool7 2 #[] #[] 1537 4 #[] #[])
  fields := #[]
  methods := #[]
  instanceTypes := #[]
  staticTypes := #[]
  resolved := Array.replicate 8 none
  statics := none }

/-- the primitive byte -/
def k8 : Class := { plain "byte" none with kind := .primitive 'B', accessFlags := 0x411 }
/-- [B -/
def k9 : Class := { plain "[B" (some 0) with kind := .array 8 .byte, interfaces := #[7, 4], accessFlags := 1041 }

/-- the primitive int -/
def k10 : Class := { plain "int" none with kind := .primitive 'I', accessFlags := 0x411 }
/-- [I -/
def k11 : Class := { plain "[I" (some 0) with kind := .array 10 .int, interfaces := #[7, 4], accessFlags := 1041 }

def heap : Heap := #[{ cls := 6, slots := #[.null, .null, .null, .null, .null, .null, .null, .null, .null, .ref 1, .ref 2, .null, .null, .null, .null, .int 0, .int 0, .int 0, .null, .null], vm := .statics 6 },
  { cls := 6, slots := #[.null, .int 9, .int 0, .int 9, .null], vm := .none },
  { cls := 6, slots := #[.null, .int 10, .int 0, .int 10, .null], vm := .none }]
def classes : Array Class := #[k0, k1, k2, k3, k4, k5, k6, k7, k8, k9, k10, k11]
def interned : List (Array UInt16 × Addr) := []
def slotsUsed : Nat := 30
def theMethod : MethodId := ⟨1, 1⟩
def args0 : Array Value := #[.int 5, .int 5]
def aboutOver (below : List Frame) : State where
  vm := { classes := classes, interned := interned.toArray }
  heap := heap
  slotsUsed := slotsUsed
  threads := #[{ frames := .invoking theMethod args0 :: below }]
def below0 : List Frame := [.native { method := ⟨0, 0⟩, args := #[] }]
def about1 : State := aboutOver below0
def p0 : Program := .bare "" "" ""
def e0 : Env := launch0.env 0 0 0
theorem w_frames : about1.frames = Frame.invoking theMethod args0 :: below0 := rfl
set_option maxRecDepth 65536 in
theorem w_args : argsFit about1.vm theMethod args0 = true := by decide +kernel
set_option maxRecDepth 65536 in
theorem w_heap : heapFits about1 = true := by decide +kernel
set_option maxRecDepth 65536 in
theorem w_runnable : about1.curStatus? = some .runnable := by decide +kernel
set_option maxRecDepth 65536 in
theorem w_alone : about1.alone = true := by decide +kernel
set_option maxRecDepth 65536 in
theorem w_named : about1.methodNamed? x = some theMethod := by decide +kernel
set_option maxRecDepth 65536 in
theorem w_hears : about1.hears theMethod below0 = true := by decide +kernel
set_option maxRecDepth 65536 in
theorem w_ripe : about1.ripe theMethod args0 below0 = true := by decide +kernel
theorem w_running : about1.status = .running := rfl
set_option maxRecDepth 65536 in
theorem w_room : about1.hasRoom e0.platform room_1 = true :=
  launch0.hasRoom_least _ room_1 (by decide +kernel) (by decide +kernel) (by decide +kernel) (by decide +kernel) (by decide +kernel) (by decide +kernel)
theorem allAtoms_all (ts : List Jvm.Cond) (a : Array Jvm.Value) (st : Jvm.State) : (allAtoms ts).before a st = ts.all (fun c => c.before a st) := by
  induction ts with
  | nil => rfl
  | cons c t ih =>
    show (Jvm.Cond.and c (allAtoms t)).before a st = _
    rw [Jvm.Cond.before_and, ih, List.all_cons]
def words1 : List Jvm.Cond := Jvm.Cond.code x code maxLocals ret :: tables_1
/-- a 'code' word, met by the world's own term for the bytes: nothing is compared byte by byte -/
theorem code_word {y : MethodName} {bytes : ByteArray} {mx : Nat} {rt : Option FieldType} {a : Array Value} {s : State} {m : MethodId} {meth : Method} {c : Code} (h1 : s.methodNamed? y = some m) (h2 : s.vm.method? m = some meth) (h3 : meth.code = some c) (h4 : c.code = bytes)
    (h5 : (c.maxLocals == mx && c.exceptionTable.isEmpty && decide (c.maxStack ≤ mostOperands) && decide (meth.sig.returnType = rt) && !meth.locks && decide (parseMethodDescriptor y.desc = some meth.sig)) = true) : (Jvm.Cond.code y bytes mx rt).before a s = true := by
  simp only [Bool.and_eq_true, beq_iff_eq, Bool.not_eq_true', decide_eq_true_eq] at h5
  obtain ⟨⟨⟨⟨⟨g1, g2⟩, g3⟩, g4⟩, g5⟩, g6⟩ := h5
  simp [Cond.before, Cond.holds, Cond.value, h1, h2, h3, h4, g1, g2, g3, g4, g5, g6]
def isCode : Jvm.Cond → Bool
  | .code _ _ _ _ => true
  | _ => false
theorem all_split {L : List Jvm.Cond} {P : Jvm.Cond → Bool} (h1 : L.all (fun c => isCode c || P c) = true) (h2 : ∀ c ∈ L.filter isCode, P c = true) : L.all P = true := by
  refine List.all_eq_true.mpr fun c hc => ?_
  have h := List.all_eq_true.mp h1 c hc
  rcases Bool.eq_false_or_eq_true (isCode c) with hi | hi
  · exact h2 c (List.mem_filter.mpr ⟨hc, hi⟩)
  · simpa [hi] using h
set_option maxRecDepth 65536 in
theorem w_c0 : (Jvm.Cond.code x code maxLocals ret).before args0 about1 = true := code_word (m := ⟨1, 1⟩) (meth := k1m1) (c := k1c1) (by decide +kernel) rfl rfl rfl (by decide +kernel)
set_option maxRecDepth 65536 in
theorem w_c1 : (Jvm.Cond.code ({ cls := "com/example/tidingsd/tidingsd/model/ElementCode", name := "containsRef", desc := "(I)Z" } : Jvm.MethodName) prog_58_method_12_code (1 : Nat) (Option.some Jvm.ClassFile.FieldType.boolean)).before args0 about1 = true := code_word (m := ⟨6, 3⟩) (meth := k6m3) (c := k6c3) (by decide +kernel) rfl rfl rfl (by decide +kernel)
set_option maxRecDepth 65536 in
theorem w_c2 : (Jvm.Cond.code ({ cls := "com/example/tidingsd/tidingsd/model/ElementCode", name := "octet", desc := "(ZZ)I" } : Jvm.MethodName) prog_58_method_7_code (4 : Nat) (Option.some Jvm.ClassFile.FieldType.int)).before args0 about1 = true := code_word (m := ⟨6, 1⟩) (meth := k6m1) (c := k6c1) (by decide +kernel) rfl rfl rfl (by decide +kernel)
set_option maxRecDepth 65536 in
theorem w_c3 : (Jvm.Cond.code ({ cls := "com/example/tidingsd/tidingsd/model/ElementCode", name := "refuseShareBitsUnlessList", desc := "(Z)V" } : Jvm.MethodName) prog_58_method_10_code (2 : Nat) (Option.none : Option Jvm.ClassFile.FieldType)).before args0 about1 = true := code_word (m := ⟨6, 2⟩) (meth := k6m2) (c := k6c2) (by decide +kernel) rfl rfl rfl (by decide +kernel)
set_option maxRecDepth 65536 in
theorem w_c4 : (Jvm.Cond.code ({ cls := "com/example/tidingsd/tidingsd/model/ElementCode", name := "isList", desc := "()Z" } : Jvm.MethodName) prog_58_method_6_code (1 : Nat) (Option.some Jvm.ClassFile.FieldType.boolean)).before args0 about1 = true := code_word (m := ⟨6, 0⟩) (meth := k6m0) (c := k6c0) (by decide +kernel) rfl rfl rfl (by decide +kernel)
def codes1 : List Jvm.Cond := [Jvm.Cond.code x code maxLocals ret, Jvm.Cond.code ({ cls := "com/example/tidingsd/tidingsd/model/ElementCode", name := "containsRef", desc := "(I)Z" } : Jvm.MethodName) prog_58_method_12_code (1 : Nat) (Option.some Jvm.ClassFile.FieldType.boolean), Jvm.Cond.code ({ cls := "com/example/tidingsd/tidingsd/model/ElementCode", name := "octet", desc := "(ZZ)I" } : Jvm.MethodName) prog_58_method_7_code (4 : Nat) (Option.some Jvm.ClassFile.FieldType.int), Jvm.Cond.code ({ cls := "com/example/tidingsd/tidingsd/model/ElementCode", name := "refuseShareBitsUnlessList", desc := "(Z)V" } : Jvm.MethodName) prog_58_method_10_code (2 : Nat) (Option.none : Option Jvm.ClassFile.FieldType), Jvm.Cond.code ({ cls := "com/example/tidingsd/tidingsd/model/ElementCode", name := "isList", desc := "()Z" } : Jvm.MethodName) prog_58_method_6_code (1 : Nat) (Option.some Jvm.ClassFile.FieldType.boolean)]
set_option maxRecDepth 65536 in
theorem codes_eq : words1.filter isCode = codes1 := rfl
theorem w_codes : ∀ c ∈ words1.filter isCode, c.before args0 about1 = true := by
  rw [codes_eq]
  intro c hc
  simp only [codes1, List.mem_cons, List.not_mem_nil, or_false] at hc
  rcases hc with rfl | rfl | rfl | rfl | rfl
  · exact w_c0
  · exact w_c1
  · exact w_c2
  · exact w_c3
  · exact w_c4
set_option maxRecDepth 65536 in
theorem w_t1 : (words1.take 24).all (fun c => isCode c || c.before args0 about1) = true := by decide +kernel
set_option maxRecDepth 65536 in
theorem w_t2 : (words1.drop 24).all (fun c => isCode c || c.before args0 about1) = true := by decide +kernel
theorem w_tables : (allAtoms (Jvm.Cond.code x code maxLocals ret :: tables_1)).before args0 about1 = true := by
  rw [allAtoms_all]
  show words1.all (fun c => c.before args0 about1) = true
  refine all_split ?_ w_codes
  rw [← List.take_append_drop 24 words1, List.all_append, w_t1, w_t2]
  rfl
set_option maxRecDepth 65536 in
theorem w_case : (Jvm.Cond.and given_1 narrow_1).before args0 about1 = true := by decide +kernel
theorem w_applies : (headSpec (Jvm.Cond.code x code maxLocals ret :: tables_1) room_1).applies x e0.platform about1 = true :=
  (Spec.applies_iff w_frames).mpr ⟨w_running, w_runnable, w_alone, w_named, w_hears, w_ripe, w_room, w_tables⟩
theorem atStart : AtStart classFile x code maxLocals ret World_1 tables_1 room_1 Calls_1 rest_1 Pre_1 launch0 p0 e0 about1 theMethod args0 below0 :=
  ⟨lists_1, trivial, launch0.admits_env _ _ _, launch0.least_env, fairChoices_fair.cas, fairChoices_fair.clock, w_frames, w_args, w_heap, w_applies, trivial, trivial, w_case⟩
end start1
theorem witness_1 : WitnessClaimed_1 := ⟨start1.p0, start1.e0, start1.about1, start1.theMethod, start1.args0, start1.below0, start1.atStart⟩
end Jvm.Pilot.@@N@@
